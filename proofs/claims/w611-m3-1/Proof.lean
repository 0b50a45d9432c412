import JvmDerived
import JvmDerived.Pilot.@@N@@Statement
import JvmDerived.Pilot.@@N@@Code
set_option linter.unusedVariables false
set_option linter.unusedSimpArgs false
namespace Jvm.RoadKit
open Sem ClassFile Op Lib Jvm.Stand Jvm.Free Jvm.LawKit
section New
variable {p : Program} {l : Launch} {e : Env} {R : Room} {s : State} {m : MethodId} {args : Array Value} {below : List Frame} {meth : Method} {c : Code} {T : State} {locs : List Loc} {cells slots : Nat}
theorem retI (X : Stand p l e R s m args below meth c T locs cells slots) (hx : p.tables.exec = Jvm.exec) {pc : Nat} {Ls : Array Slot} {z : Int32} {rest : List Value} (hret : meth.sig.returnType = some .int) (hd : decode c.code pc = .ok (.ireturn, 1)) {fs : List Frame}
    (hl : ∀ (f : JFrame) (acts : List Action), f.method = m → f.locked = none → f.entered = [] → (doReturn e (T.setTop f) acts (some (.int z))).1 = T.setFrames fs) : Steps p.tables e below (T.setTop (mkF m pc Ls (.int z :: rest))) (T.setFrames fs) := by
  have hm' : T.vm.method? m = some meth := X.method'
  have hn : narrow .int (.int z) = .int z := rfl
  show Steps p.tables e below (T.setTop { method := m, pc := pc, locals := Ls, stack := _ :: rest, locked := none }) _
  jvm_step X.here [X.here.top, hx, hd, hm', hret, hn]
  first | (intro acts; rw [hl _ acts rfl rfl rfl]) | rw [hl _ _ rfl rfl rfl]
  exact Steps.refl _
theorem retL (X : Stand p l e R s m args below meth c T locs cells slots) (hx : p.tables.exec = Jvm.exec) {pc : Nat} {Ls : Array Slot} {z : Int64} {rest : List Value} (hret : meth.sig.returnType = some .long) (hd : decode c.code pc = .ok (.lreturn, 1)) {fs : List Frame}
    (hl : ∀ (f : JFrame) (acts : List Action), f.method = m → f.locked = none → f.entered = [] → (doReturn e (T.setTop f) acts (some (.long z))).1 = T.setFrames fs) : Steps p.tables e below (T.setTop (mkF m pc Ls (.long z :: rest))) (T.setFrames fs) := by
  have hm' : T.vm.method? m = some meth := X.method'
  show Steps p.tables e below (T.setTop { method := m, pc := pc, locals := Ls, stack := _ :: rest, locked := none }) _
  jvm_step X.here [X.here.top, hx, hd, hm', hret, narrow]
  first | (intro acts; rw [hl _ acts rfl rfl rfl]) | rw [hl _ _ rfl rfl rfl]
  exact Steps.refl _
theorem retR (X : Stand p l e R s m args below meth c T locs cells slots) (hx : p.tables.exec = Jvm.exec) {pc : Nat} {Ls : Array Slot} {z : Value} {rest : List Value} {ty : FieldType} (hz : z.isRef = true) (hty : ty.isReference = true) (hret : meth.sig.returnType = some ty) (hd : decode c.code pc = .ok (.areturn, 1)) {fs : List Frame}
    (hl : ∀ (f : JFrame) (acts : List Action), f.method = m → f.locked = none → f.entered = [] → (doReturn e (T.setTop f) acts (some z)).1 = T.setFrames fs) : Steps p.tables e below (T.setTop (mkF m pc Ls (z :: rest))) (T.setFrames fs) := by
  have hm' : T.vm.method? m = some meth := X.method'
  show Steps p.tables e below (T.setTop { method := m, pc := pc, locals := Ls, stack := _ :: rest, locked := none }) _
  jvm_step X.here [X.here.top, hx, hd, hm', hret, hz, hty]
  first | (intro acts; rw [hl _ acts rfl rfl rfl]) | rw [hl _ _ rfl rfl rfl]
  exact Steps.refl _
end New
abbrev lv (x : Int64) : Slot := .val (.long x)
abbrev un : Slot := .unset
abbrev sd : Slot := .second
/-- where the run stands, it comes to an end that G likes -/
def Go (tb : Tables) (e : Env) (below : List Frame) (G : Outcome → State → Prop) (F : State) : Prop := ∃ t o, Steps tb e below F t ∧ t.status = .running ∧ Ended t below o ∧ G o t
theorem Go.stp {tb : Tables} {e : Env} {below : List Frame} {G : Outcome → State → Prop} {F F' : State} (h : ∀ t, Steps tb e below F' t → Steps tb e below F t) (g : Go tb e below G F') : Go tb e below G F := by
  obtain ⟨t, o, h1, r⟩ := g
  exact ⟨t, o, h _ h1, r⟩
end Jvm.RoadKit
namespace Jvm.RoadKit
open Sem ClassFile Op Lib Jvm.Stand Jvm.Free Jvm.LawKit
/-- the array at a has n places of the sort ty; place j holds f j -/
def Ia {α : Type} (Z : State) (h : Heap) (a : Addr) (ty : FieldType) (n : Nat) (mk : α → Value) (f : Nat → α) : Prop := ∃ c : Cell, Arr Z h a c ty ∧ c.slots.size = n ∧ n < 2147483648 ∧ ∀ j, j < n → c.slots[j]? = some (mk (f j))
def upf {α : Type} (f : Nat → α) (i : Nat) (x : α) : Nat → α := fun j => if j = i then x else f j
theorem upf_same {α : Type} (f : Nat → α) (i : Nat) (x : α) : upf f i x i = x := by simp [upf]
theorem upf_ne {α : Type} (f : Nat → α) (i j : Nat) (x : α) (h : j ≠ i) : upf f i x j = f j := by simp [upf, h]
section IaS
variable {α : Type} {Z : State} {h h' : Heap} {a b : Addr} {ty : FieldType} {n sl : Nat} {mk : α → Value} {f : Nat → α} {v : Value} {ws : List Addr}
theorem Ia.lt (F : Ia Z h a ty n mk f) : a < h.size := by obtain ⟨c, A, -⟩ := F; exact A.lt
theorem Ia.ext (F : Ia Z h a ty n mk f) (E : Ext h h') : Ia Z h' a ty n mk f := by obtain ⟨c, A, r⟩ := F; exact ⟨c, A.ext E, r⟩
theorem Ia.other (F : Ia Z h b ty n mk f) (W : Wr h h' a sl v) (q : b ≠ a) : Ia Z h' b ty n mk f := by obtain ⟨c, A, r⟩ := F; exact ⟨c, A.other W q, r⟩
theorem Ia.keep (F : Ia Z h a ty n mk f) (K : Keep h h' ws) (q : a ∉ ws) : Ia Z h' a ty n mk f := by obtain ⟨c, A, r⟩ := F; exact ⟨c, ⟨K.2.1 a c A.1 q, A.2⟩, r⟩
theorem Ia.new {k : ClassId} {z : Int32} {x : α} (A : Arr Z h a (newA k ty z) ty) (hz : z.toNatClampNeg = n) (hn : n < 2147483648) (hx : defaultValue ty = mk x) : Ia Z h a ty n mk (fun _ => x) := by
  refine ⟨_, A, by rw [sz_new, hz], hn, fun j hj => ?_⟩
  simp [newA, hz, hj, hx]
theorem Ia.set {x : α} {j : Int32} {i : Nat} (F : Ia Z h a ty n mk f) (W : Wr h h' a j.toNatClampNeg (mk x)) (hj : j.toNatClampNeg = i) : Ia Z h' a ty n mk (upf f i x) := by
  obtain ⟨c, A, s1, s2, s3⟩ := F
  refine ⟨_, A.same W, by simpa [Cell.setSlot] using s1, s2, fun k hk => ?_⟩
  subst hj
  have q := s3 k hk
  simp only [Cell.setSlot, upf]
  by_cases e : k = j.toNatClampNeg
  · subst e
    rw [Array.getElem?_setIfInBounds_self]
    simp [s1, hk]
  · rw [Array.getElem?_setIfInBounds_ne (by omega), q]
    simp [e]
end IaS
theorem in_of {c : Cell} {n : Nat} {j : Int32} (S : c.slots.size = n) (h : 0 ≤ j.toInt ∧ j.toInt < n) : ¬ (j < 0 ∨ c.slots.size ≤ j.toNatClampNeg) := by
  rw [S, Int32.lt_iff_toInt_lt]
  have e0 : (0 : Int32).toInt = 0 := rfl
  simp only [Int32.toNatClampNeg]
  omega
theorem at_of {n : Nat} {j : Int32} (h : 0 ≤ j.toInt ∧ j.toInt < n) : j.toNatClampNeg < n := by
  simp only [Int32.toNatClampNeg]
  omega
end Jvm.RoadKit
namespace Jvm.Pilot.@@N@@
open Jvm Jvm.ClassFile Sem Op Lib Jvm.Free Jvm.Stand Jvm.LawKit Jvm.RoadKit Bundle Jvm.Pilot.@@N@@.Jvm.D
def own_fair (r w s : Addr) : Int32 := if r = w then 1 else if r = s then 1 else 0
def own_ch (x : Int32) : Int32 := nar .char ((x &&& (255 : Int32)).toUInt32.toUInt16.toUInt32.toInt32)
theorem own_rem (x m : Int32) (k : Int) (hm : m.toInt = k) (hk : 0 < k) : 0 ≤ ((x &&& (2147483647 : Int32)) - ((x &&& (2147483647 : Int32)) / m) * m).toInt ∧ ((x &&& (2147483647 : Int32)) - ((x &&& (2147483647 : Int32)) / m) * m).toInt < k := by
  rw [irem_eq_mod]
  have h1 := c_mask x 2147483647 31 (by decide) (by decide)
  have h2 := (c_irem (x &&& (2147483647 : Int32)) m k hm).1 (by omega)
  rw [h2]
  exact ⟨Int.emod_nonneg _ (by omega), Int.emod_lt_of_pos _ hk⟩
theorem own_d6 (x : Int32) (h0 : 0 ≤ x.toInt) (h : x.toInt < 6) : x = (0 : Int32) ∨ x = (1 : Int32) ∨ x = (2 : Int32) ∨ x = (3 : Int32) ∨ x = (4 : Int32) ∨ x = (5 : Int32) := by
  have e0 : (0 : Int32).toInt = 0 := by decide
  have e1 : (1 : Int32).toInt = 1 := by decide
  have e2 : (2 : Int32).toInt = 2 := by decide
  have e3 : (3 : Int32).toInt = 3 := by decide
  have e4 : (4 : Int32).toInt = 4 := by decide
  have e5 : (5 : Int32).toInt = 5 := by decide
  simp only [← Int32.toInt_inj]
  omega
theorem own_eqi {A : Term} {args : Array Value} {s : State} {k : Int32} (h : (Jvm.Cond.eq A (Term.int k)).value args s none s [] = some true) : A.eval args s none [] s = some (.int k) := by
  cases hf : A.eval args s none [] s with
  | none => simp [Jvm.Cond.value, hf] at h
  | some v => cases v <;> simp [Jvm.Cond.value, hf, Term.eval] at h ⊢ <;> exact h
theorem own_ord {t : Term} {args : Array Value} {s : State} {a : Addr} {k : Int32} (ev : t.eval args s none [] s = some (.ref a)) (h : (Jvm.Cond.eq (Term.field t "java/lang/Enum" "ordinal" "I") (Term.int k)).value args s none s [] = some true) : s.fieldOf? a "java/lang/Enum" "ordinal" "I" = some (.int k) := by
  have e := fld_at (C := "java/lang/Enum") (n := "ordinal") (dd := "I") ev
  simp only [Jvm.Cond.value, e] at h
  cases hf : s.fieldOf? a "java/lang/Enum" "ordinal" "I" with
  | none => simp [hf] at h
  | some v => cases v <;> simp [hf, Term.eval] at h ⊢ <;> exact h
theorem own_apart {s : State} {a b : Addr} {j k : Int32} (h1 : s.fieldOf? a "java/lang/Enum" "ordinal" "I" = some (.int j)) (h2 : s.fieldOf? b "java/lang/Enum" "ordinal" "I" = some (.int k)) (h : j ≠ k) : a ≠ b := fun q => by
  rw [q, h2] at h1
  exact h (Value.int.inj (Option.some.inj h1)).symm
theorem own_len {t : Term} {args : Array Value} {s : State} {a : Addr} {cl : Cell} {n : Nat} {k : Int32} (ev : t.eval args s none [] s = some (.ref a)) (A : Arr s s.heap a cl .byte) (h : (Jvm.Cond.eq (Term.length t) (Term.int k)).value args s none s [] = some true) (hk : k.toInt = n) : cl.slots.size = n := by
  have hA : s.arrayAt? a = some cl := Arr.fin (U := s) (State.Warmed39.refl s).alike A
  have q := own_eqi h
  by_cases hl : cl.slots.size < 2 ^ 31
  · rw [len_f ev hA hl] at q
    have q' := congrArg Int32.toInt (Value.int.inj (Option.some.inj q))
    rw [len_toInt hl] at q'
    omega
  · simp [Term.eval, ev, hA] at q
    omega
theorem own_el {t : Term} {args : Array Value} {s : State} {a : Addr} {cl : Cell} {j k : Int32} {n : Nat} (ev : t.eval args s none [] s = some (.ref a)) (A : Arr s s.heap a cl .byte) (h : (Jvm.Cond.eq (Term.elem t (Term.int j)) (Term.int k)).value args s none s [] = some true) (hj : ¬ j < 0) (hn : j.toNatClampNeg = n) : cl.slots[n]? = some (.int k) := by
  have hA : s.arrayAt? a = some cl := Arr.fin (U := s) (State.Warmed39.refl s).alike A
  have q := own_eqi h
  rw [elem_f ev (Term.int_eval j) hA hj, hn] at q
  exact q
theorem own_nz0 {t : Term} {args : Array Value} {s : State} {k : Int32} (ev : t.eval args s none [] s = some (.int k)) (h : (Jvm.Cond.not (Jvm.Cond.eq t (Term.int (0 : Int32)))).value args s none s [] = some true) : ¬ k = (0 : Int32) := fun q => by
  subst q
  simp [Jvm.Cond.value, ev, Term.eval] at h
theorem pd_0 : parseMethodDescriptor "(IILjava/util/function/BiFunction;)I" = some ⟨[.int, .int, (.object "java/util/function/BiFunction")], some .int⟩ := by decide +kernel
theorem pd_1 : parseMethodDescriptor "(II)V" = some ⟨[.int, .int], none⟩ := by decide +kernel
theorem pd_2 : parseMethodDescriptor "()Z" = some ⟨[], some .boolean⟩ := by decide +kernel
theorem pd_3 : parseMethodDescriptor "([BI)C" = some ⟨[(.array .byte), .int], some .char⟩ := by decide +kernel
theorem pd_4 : parseMethodDescriptor "()B" = some ⟨[], some .byte⟩ := by decide +kernel
theorem pd_5 : parseMethodDescriptor "(I)Lcom/example/stutter/stutter/eval/TemporalNode$Kind;" = some ⟨[.int], some (.object "com/example/stutter/stutter/eval/TemporalNode$Kind")⟩ := by decide +kernel
theorem pd_6 : parseMethodDescriptor "()Ljava/lang/String;" = some ⟨[], some (.object "java/lang/String")⟩ := by decide +kernel
theorem pd_7 : parseMethodDescriptor "()I" = some ⟨[], some .int⟩ := by decide +kernel
theorem pd_8 : parseMethodDescriptor "(I)C" = some ⟨[.int], some .char⟩ := by decide +kernel
theorem pn_5 : plainName "java/lang/String" = true := by first | (simp [plainName, overriddenIn]; done) | decide +kernel
theorem d5_0 : decode jdk_42_method_152_code 0 = .ok (.getstatic 38, 3) := by decide +kernel
theorem d5_3 : decode jdk_42_method_152_code 3 = .ok (.ifCond .eq 10, 3) := by decide +kernel
theorem d5_6 : decode jdk_42_method_152_code 6 = .ok (.aload_n 0, 1) := by decide +kernel
theorem d5_7 : decode jdk_42_method_152_code 7 = .ok (.getfield 15, 3) := by decide +kernel
theorem d5_10 : decode jdk_42_method_152_code 10 = .ok (.goto 4, 3) := by decide +kernel
theorem d5_14 : decode jdk_42_method_152_code 14 = .ok (.ireturn, 1) := by decide +kernel
theorem ef_5 (m : MethodId) (r0 : Addr) : entryFrame m #[(.ref r0)] 1 = mkF m 0 #[rv r0] [] := by first | (simp [entryFrame, mkF, argsToLocals, Value.category, iv, rv, lv, un, sd]; done) | rfl
def Q5 (Z : State) (r0 : Addr) (kc : Int32) (h0 : Heap) (n0 : Nat) (v : Option Value) (h : Heap) (L : List Loc) : Prop := v = some (.int (0 : Int32)) ∧ Fr n0 L ∧ h = h0
set_option maxRecDepth 65536 in
set_option maxHeartbeats 40000000 in
theorem rm5 (l : Launch) (Z : State) (a0 : Array Value) (hw : ∀ d ∈ tables_1, d.before a0 Z = true) (ws : List Jvm.Cond) (r0 : Addr) (kc : Int32) (h0 : Heap) (n0 : Nat) (Z0 : n0 ≤ h0.size) (S_cs : Sta Z h0 "java/lang/String" "COMPACT_STRINGS" "Z" (.int kc)) (hkc : ¬ kc = (0 : Int32)) (Fc : Fld Z h0 r0 "java/lang/String" "coder" "B" (.int (0 : Int32))) :
    MetFree l (⟨"java/lang/String", "coder", "()B"⟩ : MethodName) (head1 (Jvm.Cond.code (⟨"java/lang/String", "coder", "()B"⟩ : MethodName) jdk_42_method_152_code 1 (some .byte) :: ws) ({ frames := 0, cells := 0, slots := 0, locals := 0 } : Room)) (fun a U => a = #[(.ref r0)] ∧ Z.Warmed39 U.vm ∧ U.heap = h0) (fun _ _ _ _ _ => True) (fun _ U o U' => ∃ v L, o = .returned v ∧ Q5 Z r0 kc h0 n0 v U'.heap L ∧ FrameEnd U o U' L ({ frames := 0, cells := 0, slots := 0, locals := 0 } : Room).cells ({ frames := 0, cells := 0, slots := 0, locals := 0 } : Room).slots) := by
  refine MetFree.of_bodySF (plainFor_of_name pn_5) hisR ?_
  intro p e s m args below meth c s₁ Bd hml0 hP hK
  obtain ⟨rfl, hZ, hh⟩ := hP
  have hx := Bd.exec
  have hby := Bd.bytes
  have hml : c.maxLocals = 1 := hml0
  have hown : s.vm.findClass "java/lang/String" = some m.cls := findClass_of_methodNamed Bd.named
  have hnm := (name_of_methodNamed Bd.named Bd.method).1
  have X0 : Stand p l e ({ frames := 0, cells := 0, slots := 0, locals := 0 } : Room) s m #[(.ref r0)] below meth c s₁ [] 0 0 := Stand.of_body Bd
  have e0 : s₁.heap = h0 := by rw [← hh, Bd.state]; rfl
  have N0 := Fr.nil n0
  suffices HH : ∀ G : Outcome → State → Prop, (∀ v L U', Q5 Z r0 kc h0 n0 v U'.heap L → FrameEnd s (.returned v) U' L ({ frames := 0, cells := 0, slots := 0, locals := 0 } : Room).cells ({ frames := 0, cells := 0, slots := 0, locals := 0 } : Room).slots → G (.returned v) U') → Go p.tables e below G (s₁.setTop (mkF m 0 #[rv r0] [])) by
    obtain ⟨s2, o, h1, h2, h3, h4⟩ := HH (fun o U' => ∃ v L, o = .returned v ∧ Q5 Z r0 kc h0 n0 v U'.heap L ∧ FrameEnd s o U' L ({ frames := 0, cells := 0, slots := 0, locals := 0 } : Room).cells ({ frames := 0, cells := 0, slots := 0, locals := 0 } : Room).slots) (fun v L U' q f => ⟨v, L, rfl, q, f⟩)
    exact ⟨s2, o, castTop (ef_5 m r0) h1, h2, h3, h4⟩
  intro G hG
  show Go p.tables e below G (s₁.setTop (mkF m 0 #[rv r0] []))
  obtain ⟨T1, X1, e1, st1⟩ := getS2 X0 hx hZ hown (host := "") (Or.inl (hw _ (List.mem_of_getElem? (i := 37) rfl))) Via.refl e0 S_cs (g := (mkF m 0 #[rv r0] [])) rfl (hb hby d5_0)
  refine Go.stp (fun t k => st1 t k) ?_
  show Go p.tables e below G (T1.setTop (mkF m 3 #[rv r0] [(.int kc)]))
  have hd3 : ¬ (kc = (0 : Int32)) := hkc
  refine Go.stp (fun t k => XS.ifNo X1.here hx rfl (hb hby d5_3) rfl ((if0 _ _).trans (feq hd3).1) k) ?_
  show Go p.tables e below G (T1.setTop (mkF m 6 #[rv r0] []))
  refine Go.stp (fun t k => XS.aloadN X1.here hx rfl (hb hby d5_6) rfl rfl k) ?_
  show Go p.tables e below G (T1.setTop (mkF m 7 #[rv r0] [(.ref r0)]))
  obtain ⟨T2, X2, e2, st2⟩ := getF X1 hx hZ hown (host := "") (Or.inl (hw _ (List.mem_of_getElem? (i := 38) rfl))) Via.refl e1 Fc (g := (mkF m 7 #[rv r0] [(.ref r0)])) rfl rfl (hb hby d5_7)
  refine Go.stp (fun t k => st2 t k) ?_
  show Go p.tables e below G (T2.setTop (mkF m 10 #[rv r0] [(.int (0 : Int32))]))
  refine Go.stp (fun t k => XS.goto X2.here hx rfl (pc0 := 10) (pc' := 14) rfl (hb hby d5_10) (by decide) (by decide) k) ?_
  show Go p.tables e below G (T2.setTop (mkF m 14 #[rv r0] [(.int (0 : Int32))]))
  obtain ⟨fs, hr, hrun, hended, hW, hsame⟩ := X2.leave (v := some (.int (0 : Int32))) (fun h => by rw [Bd.returns] at h; cases h)
  refine ⟨_, _, retN X2 hx (t := .byte) Bd.returns (by simp) (hb hby d5_14) hr, hrun, hended, hG _ _ _ ?_ ⟨⟨_, rfl⟩, hW, hsame.mono (by decide) (by decide)⟩⟩
  show Q5 Z r0 kc h0 n0 _ T2.heap _
  rw [e2]
  exact ⟨rfl, N0, rfl⟩
theorem d7_0 : decode jdk_42_method_154_code 0 = .ok (.getstatic 38, 3) := by decide +kernel
theorem d7_3 : decode jdk_42_method_154_code 3 = .ok (.ifCond .eq 14, 3) := by decide +kernel
theorem d7_6 : decode jdk_42_method_154_code 6 = .ok (.aload_n 0, 1) := by decide +kernel
theorem d7_7 : decode jdk_42_method_154_code 7 = .ok (.getfield 15, 3) := by decide +kernel
theorem d7_10 : decode jdk_42_method_154_code 10 = .ok (.ifCond .ne 7, 3) := by decide +kernel
theorem d7_13 : decode jdk_42_method_154_code 13 = .ok (.iconst 1, 1) := by decide +kernel
theorem d7_14 : decode jdk_42_method_154_code 14 = .ok (.goto 4, 3) := by decide +kernel
theorem d7_18 : decode jdk_42_method_154_code 18 = .ok (.ireturn, 1) := by decide +kernel
theorem ef_7 (m : MethodId) (r0 : Addr) : entryFrame m #[(.ref r0)] 1 = mkF m 0 #[rv r0] [] := by first | (simp [entryFrame, mkF, argsToLocals, Value.category, iv, rv, lv, un, sd]; done) | rfl
def Q7 (Z : State) (r0 : Addr) (kc : Int32) (h0 : Heap) (n0 : Nat) (v : Option Value) (h : Heap) (L : List Loc) : Prop := v = some (.int (1 : Int32)) ∧ Fr n0 L ∧ h = h0
set_option maxRecDepth 65536 in
set_option maxHeartbeats 40000000 in
theorem rm7 (l : Launch) (Z : State) (a0 : Array Value) (hw : ∀ d ∈ tables_1, d.before a0 Z = true) (ws : List Jvm.Cond) (r0 : Addr) (kc : Int32) (h0 : Heap) (n0 : Nat) (Z0 : n0 ≤ h0.size) (S_cs : Sta Z h0 "java/lang/String" "COMPACT_STRINGS" "Z" (.int kc)) (hkc : ¬ kc = (0 : Int32)) (Fc : Fld Z h0 r0 "java/lang/String" "coder" "B" (.int (0 : Int32))) :
    MetFree l (⟨"java/lang/String", "isLatin1", "()Z"⟩ : MethodName) (head1 (Jvm.Cond.code (⟨"java/lang/String", "isLatin1", "()Z"⟩ : MethodName) jdk_42_method_154_code 1 (some .boolean) :: ws) ({ frames := 0, cells := 0, slots := 0, locals := 0 } : Room)) (fun a U => a = #[(.ref r0)] ∧ Z.Warmed39 U.vm ∧ U.heap = h0) (fun _ _ _ _ _ => True) (fun _ U o U' => ∃ v L, o = .returned v ∧ Q7 Z r0 kc h0 n0 v U'.heap L ∧ FrameEnd U o U' L ({ frames := 0, cells := 0, slots := 0, locals := 0 } : Room).cells ({ frames := 0, cells := 0, slots := 0, locals := 0 } : Room).slots) := by
  refine MetFree.of_bodySF (plainFor_of_name pn_5) hisR ?_
  intro p e s m args below meth c s₁ Bd hml0 hP hK
  obtain ⟨rfl, hZ, hh⟩ := hP
  have hx := Bd.exec
  have hby := Bd.bytes
  have hml : c.maxLocals = 1 := hml0
  have hown : s.vm.findClass "java/lang/String" = some m.cls := findClass_of_methodNamed Bd.named
  have hnm := (name_of_methodNamed Bd.named Bd.method).1
  have X0 : Stand p l e ({ frames := 0, cells := 0, slots := 0, locals := 0 } : Room) s m #[(.ref r0)] below meth c s₁ [] 0 0 := Stand.of_body Bd
  have e0 : s₁.heap = h0 := by rw [← hh, Bd.state]; rfl
  have N0 := Fr.nil n0
  suffices HH : ∀ G : Outcome → State → Prop, (∀ v L U', Q7 Z r0 kc h0 n0 v U'.heap L → FrameEnd s (.returned v) U' L ({ frames := 0, cells := 0, slots := 0, locals := 0 } : Room).cells ({ frames := 0, cells := 0, slots := 0, locals := 0 } : Room).slots → G (.returned v) U') → Go p.tables e below G (s₁.setTop (mkF m 0 #[rv r0] [])) by
    obtain ⟨s2, o, h1, h2, h3, h4⟩ := HH (fun o U' => ∃ v L, o = .returned v ∧ Q7 Z r0 kc h0 n0 v U'.heap L ∧ FrameEnd s o U' L ({ frames := 0, cells := 0, slots := 0, locals := 0 } : Room).cells ({ frames := 0, cells := 0, slots := 0, locals := 0 } : Room).slots) (fun v L U' q f => ⟨v, L, rfl, q, f⟩)
    exact ⟨s2, o, castTop (ef_7 m r0) h1, h2, h3, h4⟩
  intro G hG
  show Go p.tables e below G (s₁.setTop (mkF m 0 #[rv r0] []))
  obtain ⟨T1, X1, e1, st1⟩ := getS2 X0 hx hZ hown (host := "") (Or.inl (hw _ (List.mem_of_getElem? (i := 37) rfl))) Via.refl e0 S_cs (g := (mkF m 0 #[rv r0] [])) rfl (hb hby d7_0)
  refine Go.stp (fun t k => st1 t k) ?_
  show Go p.tables e below G (T1.setTop (mkF m 3 #[rv r0] [(.int kc)]))
  have hd3 : ¬ (kc = (0 : Int32)) := hkc
  refine Go.stp (fun t k => XS.ifNo X1.here hx rfl (hb hby d7_3) rfl ((if0 _ _).trans (feq hd3).1) k) ?_
  show Go p.tables e below G (T1.setTop (mkF m 6 #[rv r0] []))
  refine Go.stp (fun t k => XS.aloadN X1.here hx rfl (hb hby d7_6) rfl rfl k) ?_
  show Go p.tables e below G (T1.setTop (mkF m 7 #[rv r0] [(.ref r0)]))
  obtain ⟨T2, X2, e2, st2⟩ := getF X1 hx hZ hown (host := "") (Or.inl (hw _ (List.mem_of_getElem? (i := 38) rfl))) Via.refl e1 Fc (g := (mkF m 7 #[rv r0] [(.ref r0)])) rfl rfl (hb hby d7_7)
  refine Go.stp (fun t k => st2 t k) ?_
  show Go p.tables e below G (T2.setTop (mkF m 10 #[rv r0] [(.int (0 : Int32))]))
  refine Go.stp (fun t k => XS.ifNo X2.here hx rfl (hb hby d7_10) rfl ((if0 _ _).trans (teq (by decide : (0 : Int32) = (0 : Int32))).2) k) ?_
  show Go p.tables e below G (T2.setTop (mkF m 13 #[rv r0] []))
  refine Go.stp (fun t k => XS.iconst X2.here hx rfl (hb hby d7_13) k) ?_
  show Go p.tables e below G (T2.setTop (mkF m 14 #[rv r0] [(.int (1 : Int32))]))
  refine Go.stp (fun t k => XS.goto X2.here hx rfl (pc0 := 14) (pc' := 18) rfl (hb hby d7_14) (by decide) (by decide) k) ?_
  show Go p.tables e below G (T2.setTop (mkF m 18 #[rv r0] [(.int (1 : Int32))]))
  obtain ⟨fs, hr, hrun, hended, hW, hsame⟩ := X2.leave (v := some (.int (1 : Int32))) (fun h => by rw [Bd.returns] at h; cases h)
  refine ⟨_, _, retN X2 hx (t := .boolean) Bd.returns (by simp) (hb hby d7_18) hr, hrun, hended, hG _ _ _ ?_ ⟨⟨_, rfl⟩, hW, hsame.mono (by decide) (by decide)⟩⟩
  show Q7 Z r0 kc h0 n0 _ T2.heap _
  rw [e2]
  exact ⟨rfl, N0, rfl⟩
theorem pn_10 : plainName "jdk/internal/util/Preconditions" = true := by first | (simp [plainName, overriddenIn]; done) | decide +kernel
theorem d10_0 : decode jdk_41_method_11_code 0 = .ok (.iload_n 0, 1) := by decide +kernel
theorem d10_1 : decode jdk_41_method_11_code 1 = .ok (.ifCond .lt 8, 3) := by decide +kernel
theorem d10_4 : decode jdk_41_method_11_code 4 = .ok (.iload_n 0, 1) := by decide +kernel
theorem d10_5 : decode jdk_41_method_11_code 5 = .ok (.iload_n 1, 1) := by decide +kernel
theorem d10_6 : decode jdk_41_method_11_code 6 = .ok (.if_icmp .lt 10, 3) := by decide +kernel
theorem d10_16 : decode jdk_41_method_11_code 16 = .ok (.iload_n 0, 1) := by decide +kernel
theorem d10_17 : decode jdk_41_method_11_code 17 = .ok (.ireturn, 1) := by decide +kernel
theorem ef_10 (m : MethodId) (p0 : Int32) (p1 : Int32) (sf : Value) (hsf : sf.isRef = true) : entryFrame m #[(.int p0), (.int p1), sf] 3 = mkF m 0 #[iv p0, iv p1, .val sf] [] := by
  rcases ref_cases hsf with rfl | ⟨_, rfl⟩ <;> first | (simp [entryFrame, mkF, argsToLocals, Value.category, maxLocals, iv, rv, lv, un, sd]; done) | rfl
def Q10 (Z : State) (p0 : Int32) (p1 : Int32) (sf : Value) (h0 : Heap) (n0 : Nat) (v : Option Value) (h : Heap) (L : List Loc) : Prop := v = some (.int p0) ∧ Fr n0 L ∧ h = h0
set_option maxRecDepth 65536 in
set_option maxHeartbeats 40000000 in
theorem rm10 (l : Launch) (Z : State) (a0 : Array Value) (hw : ∀ d ∈ tables_1, d.before a0 Z = true) (ws : List Jvm.Cond) (p0 : Int32) (p1 : Int32) (sf : Value) (h0 : Heap) (n0 : Nat) (Z0 : n0 ≤ h0.size) (hsf : sf.isRef = true) (b0 : ¬ p0 < (0 : Int32)) (b1 : p0 < p1) :
    MetFree l (⟨"jdk/internal/util/Preconditions", "checkIndex", "(IILjava/util/function/BiFunction;)I"⟩ : MethodName) (head1 (Jvm.Cond.code (⟨"jdk/internal/util/Preconditions", "checkIndex", "(IILjava/util/function/BiFunction;)I"⟩ : MethodName) jdk_41_method_11_code 3 (some .int) :: ws) ({ frames := 0, cells := 0, slots := 0, locals := 0 } : Room)) (fun a U => a = #[(.int p0), (.int p1), sf] ∧ Z.Warmed39 U.vm ∧ U.heap = h0) (fun _ _ _ _ _ => True) (fun _ U o U' => ∃ v L, o = .returned v ∧ Q10 Z p0 p1 sf h0 n0 v U'.heap L ∧ FrameEnd U o U' L ({ frames := 0, cells := 0, slots := 0, locals := 0 } : Room).cells ({ frames := 0, cells := 0, slots := 0, locals := 0 } : Room).slots) := by
  refine MetFree.of_bodySF (plainFor_of_name pn_10) hisR ?_
  intro p e s m args below meth c s₁ Bd hml0 hP hK
  obtain ⟨rfl, hZ, hh⟩ := hP
  have hx := Bd.exec
  have hby := Bd.bytes
  have hml : c.maxLocals = 3 := hml0
  have hown : s.vm.findClass "jdk/internal/util/Preconditions" = some m.cls := findClass_of_methodNamed Bd.named
  have hnm := (name_of_methodNamed Bd.named Bd.method).1
  have X0 : Stand p l e ({ frames := 0, cells := 0, slots := 0, locals := 0 } : Room) s m #[(.int p0), (.int p1), sf] below meth c s₁ [] 0 0 := Stand.of_body Bd
  have e0 : s₁.heap = h0 := by rw [← hh, Bd.state]; rfl
  have N0 := Fr.nil n0
  suffices HH : ∀ G : Outcome → State → Prop, (∀ v L U', Q10 Z p0 p1 sf h0 n0 v U'.heap L → FrameEnd s (.returned v) U' L ({ frames := 0, cells := 0, slots := 0, locals := 0 } : Room).cells ({ frames := 0, cells := 0, slots := 0, locals := 0 } : Room).slots → G (.returned v) U') → Go p.tables e below G (s₁.setTop (mkF m 0 #[iv p0, iv p1, .val sf] [])) by
    obtain ⟨s2, o, h1, h2, h3, h4⟩ := HH (fun o U' => ∃ v L, o = .returned v ∧ Q10 Z p0 p1 sf h0 n0 v U'.heap L ∧ FrameEnd s o U' L ({ frames := 0, cells := 0, slots := 0, locals := 0 } : Room).cells ({ frames := 0, cells := 0, slots := 0, locals := 0 } : Room).slots) (fun v L U' q f => ⟨v, L, rfl, q, f⟩)
    exact ⟨s2, o, castTop (ef_10 m p0 p1 sf hsf) h1, h2, h3, h4⟩
  intro G hG
  show Go p.tables e below G (s₁.setTop (mkF m 0 #[iv p0, iv p1, .val sf] []))
  refine Go.stp (fun t k => XS.iloadN X0.here hx rfl (hb hby d10_0) rfl k) ?_
  show Go p.tables e below G (s₁.setTop (mkF m 1 #[iv p0, iv p1, .val sf] [(.int p0)]))
  have hd1 : ¬ (p0 < (0 : Int32)) := b0
  refine Go.stp (fun t k => XS.ifNo X0.here hx rfl (hb hby d10_1) rfl ((if0 _ _).trans (flt hd1).1) k) ?_
  show Go p.tables e below G (s₁.setTop (mkF m 4 #[iv p0, iv p1, .val sf] []))
  refine Go.stp (fun t k => XS.iloadN X0.here hx rfl (hb hby d10_4) rfl k) ?_
  show Go p.tables e below G (s₁.setTop (mkF m 5 #[iv p0, iv p1, .val sf] [(.int p0)]))
  refine Go.stp (fun t k => XS.iloadN X0.here hx rfl (hb hby d10_5) rfl k) ?_
  show Go p.tables e below G (s₁.setTop (mkF m 6 #[iv p0, iv p1, .val sf] [(.int p1), (.int p0)]))
  have hd6 : p0 < p1 := b1
  refine Go.stp (fun t k => XS.icmpYes X0.here hx rfl (pc0 := 6) (pc' := 16) rfl (hb hby d10_6) rfl (tlt hd6).1 (by decide) (by decide) k) ?_
  show Go p.tables e below G (s₁.setTop (mkF m 16 #[iv p0, iv p1, .val sf] []))
  refine Go.stp (fun t k => XS.iloadN X0.here hx rfl (hb hby d10_16) rfl k) ?_
  show Go p.tables e below G (s₁.setTop (mkF m 17 #[iv p0, iv p1, .val sf] [(.int p0)]))
  obtain ⟨fs, hr, hrun, hended, hW, hsame⟩ := X0.leave (v := some (.int p0)) (fun h => by rw [Bd.returns] at h; cases h)
  refine ⟨_, _, retI X0 hx Bd.returns (hb hby d10_17) hr, hrun, hended, hG _ _ _ ?_ ⟨⟨_, rfl⟩, hW, hsame.mono (by decide) (by decide)⟩⟩
  show Q10 Z p0 p1 sf h0 n0 _ s₁.heap _
  rw [e0]
  exact ⟨rfl, N0, rfl⟩
theorem d9_0 : decode jdk_42_method_155_code 0 = .ok (.iload_n 0, 1) := by decide +kernel
theorem d9_1 : decode jdk_42_method_155_code 1 = .ok (.iload_n 1, 1) := by decide +kernel
theorem d9_2 : decode jdk_42_method_155_code 2 = .ok (.getstatic 1053, 3) := by decide +kernel
theorem d9_5 : decode jdk_42_method_155_code 5 = .ok (.invokestatic 1059, 3) := by decide +kernel
theorem d9_8 : decode jdk_42_method_155_code 8 = .ok (.pop, 1) := by decide +kernel
theorem d9_9 : decode jdk_42_method_155_code 9 = .ok (.return_, 1) := by decide +kernel
theorem ef_9 (m : MethodId) (p0 : Int32) (p1 : Int32) : entryFrame m #[(.int p0), (.int p1)] 2 = mkF m 0 #[iv p0, iv p1] [] := by first | (simp [entryFrame, mkF, argsToLocals, Value.category, iv, rv, lv, un, sd]; done) | rfl
def Q9 (Z : State) (p0 : Int32) (p1 : Int32) (sf : Value) (h0 : Heap) (n0 : Nat) (v : Option Value) (h : Heap) (L : List Loc) : Prop := v = none ∧ Fr n0 L ∧ h = h0
set_option maxRecDepth 65536 in
set_option maxHeartbeats 40000000 in
theorem rm9 (l : Launch) (Z : State) (a0 : Array Value) (hw : ∀ d ∈ tables_1, d.before a0 Z = true) (ws : List Jvm.Cond) (p0 : Int32) (p1 : Int32) (sf : Value) (h0 : Heap) (n0 : Nat) (Z0 : n0 ≤ h0.size) (S_sf : Sta Z h0 "jdk/internal/util/Preconditions" "SIOOBE_FORMATTER" "Ljava/util/function/BiFunction;" sf) (hsf : sf.isRef = true) (b0 : ¬ p0 < (0 : Int32)) (b1 : p0 < p1) :
    MetFree l (⟨"java/lang/String", "checkIndex", "(II)V"⟩ : MethodName) (head1 (Jvm.Cond.code (⟨"java/lang/String", "checkIndex", "(II)V"⟩ : MethodName) jdk_42_method_155_code 2 none :: ws) ({ frames := 1, cells := 0, slots := 0, locals := 14 } : Room)) (fun a U => a = #[(.int p0), (.int p1)] ∧ Z.Warmed39 U.vm ∧ U.heap = h0) (fun _ _ _ _ _ => True) (fun _ U o U' => ∃ v L, o = .returned v ∧ Q9 Z p0 p1 sf h0 n0 v U'.heap L ∧ FrameEnd U o U' L ({ frames := 1, cells := 0, slots := 0, locals := 14 } : Room).cells ({ frames := 1, cells := 0, slots := 0, locals := 14 } : Room).slots) := by
  refine MetFree.of_bodySF (plainFor_of_name pn_5) hisR ?_
  intro p e s m args below meth c s₁ Bd hml0 hP hK
  obtain ⟨rfl, hZ, hh⟩ := hP
  have hx := Bd.exec
  have hby := Bd.bytes
  have hml : c.maxLocals = 2 := hml0
  have hown : s.vm.findClass "java/lang/String" = some m.cls := findClass_of_methodNamed Bd.named
  have hnm := (name_of_methodNamed Bd.named Bd.method).1
  have X0 : Stand p l e ({ frames := 1, cells := 0, slots := 0, locals := 14 } : Room) s m #[(.int p0), (.int p1)] below meth c s₁ [] 0 0 := Stand.of_body Bd
  have e0 : s₁.heap = h0 := by rw [← hh, Bd.state]; rfl
  have N0 := Fr.nil n0
  suffices HH : ∀ G : Outcome → State → Prop, (∀ v L U', Q9 Z p0 p1 sf h0 n0 v U'.heap L → FrameEnd s (.returned v) U' L ({ frames := 1, cells := 0, slots := 0, locals := 14 } : Room).cells ({ frames := 1, cells := 0, slots := 0, locals := 14 } : Room).slots → G (.returned v) U') → Go p.tables e below G (s₁.setTop (mkF m 0 #[iv p0, iv p1] [])) by
    obtain ⟨s2, o, h1, h2, h3, h4⟩ := HH (fun o U' => ∃ v L, o = .returned v ∧ Q9 Z p0 p1 sf h0 n0 v U'.heap L ∧ FrameEnd s o U' L ({ frames := 1, cells := 0, slots := 0, locals := 14 } : Room).cells ({ frames := 1, cells := 0, slots := 0, locals := 14 } : Room).slots) (fun v L U' q f => ⟨v, L, rfl, q, f⟩)
    exact ⟨s2, o, castTop (ef_9 m p0 p1) h1, h2, h3, h4⟩
  intro G hG
  show Go p.tables e below G (s₁.setTop (mkF m 0 #[iv p0, iv p1] []))
  refine Go.stp (fun t k => XS.iloadN X0.here hx rfl (hb hby d9_0) rfl k) ?_
  show Go p.tables e below G (s₁.setTop (mkF m 1 #[iv p0, iv p1] [(.int p0)]))
  refine Go.stp (fun t k => XS.iloadN X0.here hx rfl (hb hby d9_1) rfl k) ?_
  show Go p.tables e below G (s₁.setTop (mkF m 2 #[iv p0, iv p1] [(.int p1), (.int p0)]))
  obtain ⟨T1, X1, e1, st1⟩ := getS2 X0 hx hZ hown (host := "") (Or.inl (hw _ (List.mem_of_getElem? (i := 57) rfl))) Via.refl e0 S_sf (g := (mkF m 2 #[iv p0, iv p1] [(.int p1), (.int p0)])) rfl (hb hby d9_2)
  refine Go.stp (fun t k => st1 t k) ?_
  show Go p.tables e below G (T1.setTop (mkF m 5 #[iv p0, iv p1] [sf, (.int p1), (.int p0)]))
  obtain ⟨_, _, ⟨T2, L2, k2, n2⟩, -, X2, ⟨Lc2, hQ2, l2, y2, z2⟩, st2⟩ := Jvm.LawKit.callS X1 hx (y := (⟨"jdk/internal/util/Preconditions", "checkIndex", "(IILjava/util/function/BiFunction;)I"⟩ : MethodName)) hown (mvT hZ (hw _ (List.mem_of_getElem? (i := 59) rfl))) (mvT hZ (hw _ (List.mem_of_getElem? (i := 60) rfl))) (mvT hZ (hw _ (List.mem_of_getElem? (i := 58) rfl))) (mvT hZ (hw _ (List.mem_of_getElem? (i := 61) rfl))) (by decide) (backOf (W := 0) (rm10 l Z a0 hw [] p0 p1 sf  h0 n0 Z0 hsf b0 b1) hZ (hw _ (List.mem_of_getElem? (i := 61) rfl)) (hw _ (List.mem_of_getElem? (i := 58) rfl)) (by decide) (by decide)) (g := (mkF m 5 #[iv p0, iv p1] [sf, (.int p1), (.int p0)])) rfl (by rw [hml]; rfl) (argsL := [(.int p0), (.int p1), sf]) (rest := []) (lenOf pd_0 rfl) rfl (by show 2 * 0 + _ ≤ _; exact Nat.le_of_eq rfl) (hb hby d9_5) (fun _ _ => ⟨rfl, e1, (by decide : 0 + 0 ≤ _), (by decide : 0 + 0 ≤ _)⟩)
  dsimp only [Pt.U, Pt.locs, Pt.cells, Pt.slots] at X2 l2 y2 z2 st2 hQ2
  subst l2 y2 z2
  obtain ⟨rfl, Nq2, e2⟩ := hQ2
  have N2 := Fr.app N0 Nq2
  refine Go.stp (fun t k => st2 t k) ?_
  show Go p.tables e below G (T2.setTop (mkF m 8 #[iv p0, iv p1] [(.int p0)]))
  refine Go.stp (fun t k => XS.pop X2.here hx rfl (hb hby d9_8) rfl rfl k) ?_
  show Go p.tables e below G (T2.setTop (mkF m 9 #[iv p0, iv p1] []))
  obtain ⟨fs, hr, hrun, hended, hW, hsame⟩ := X2.leave (v := none) (fun _ => rfl)
  refine ⟨_, _, X2.returnOut hx Bd.returns (hb hby d9_9) hr, hrun, hended, hG _ _ _ ?_ ⟨⟨_, rfl⟩, hW, hsame.mono (by decide) (by decide)⟩⟩
  show Q9 Z p0 p1 sf h0 n0 _ T2.heap _
  rw [e2]
  exact ⟨rfl, N2, rfl⟩
theorem pn_8 : plainName "java/lang/StringLatin1" = true := by first | (simp [plainName, overriddenIn]; done) | decide +kernel
theorem d8_0 : decode jdk_43_method_2_code 0 = .ok (.iload_n 1, 1) := by decide +kernel
theorem d8_1 : decode jdk_43_method_2_code 1 = .ok (.aload_n 0, 1) := by decide +kernel
theorem d8_2 : decode jdk_43_method_2_code 2 = .ok (.arraylength, 1) := by decide +kernel
theorem d8_3 : decode jdk_43_method_2_code 3 = .ok (.invokestatic 9, 3) := by decide +kernel
theorem d8_6 : decode jdk_43_method_2_code 6 = .ok (.aload_n 0, 1) := by decide +kernel
theorem d8_7 : decode jdk_43_method_2_code 7 = .ok (.iload_n 1, 1) := by decide +kernel
theorem d8_8 : decode jdk_43_method_2_code 8 = .ok (.baload, 1) := by decide +kernel
theorem d8_9 : decode jdk_43_method_2_code 9 = .ok (.sipush 255, 3) := by decide +kernel
theorem d8_12 : decode jdk_43_method_2_code 12 = .ok (.iand, 1) := by decide +kernel
theorem d8_13 : decode jdk_43_method_2_code 13 = .ok (.i2c, 1) := by decide +kernel
theorem d8_14 : decode jdk_43_method_2_code 14 = .ok (.ireturn, 1) := by decide +kernel
theorem ef_8_2 (m : MethodId) (r0 : Addr) : entryFrame m #[(.ref r0), (.int (1 : Int32))] 2 = mkF m 0 #[rv r0, iv (1 : Int32)] [] := by first | (simp [entryFrame, mkF, argsToLocals, Value.category, iv, rv, lv, un, sd]; done) | rfl
def Q8_2 (Z : State) (r0 : Addr) (sf : Value) (f : Nat → Int32) (h0 : Heap) (n0 : Nat) (v : Option Value) (h : Heap) (L : List Loc) : Prop := v = some (.int (own_ch (f 1))) ∧ Fr n0 L ∧ h = h0
set_option maxRecDepth 65536 in
set_option maxHeartbeats 40000000 in
theorem rm8_2 (l : Launch) (Z : State) (a0 : Array Value) (hw : ∀ d ∈ tables_1, d.before a0 Z = true) (ws : List Jvm.Cond) (r0 : Addr) (sf : Value) (f : Nat → Int32) (h0 : Heap) (n0 : Nat) (Z0 : n0 ≤ h0.size) (S_sf : Sta Z h0 "jdk/internal/util/Preconditions" "SIOOBE_FORMATTER" "Ljava/util/function/BiFunction;" sf) (hsf : sf.isRef = true) (I_r0 : Ia Z h0 r0 .byte 2 Value.int f) :
    MetFree l (⟨"java/lang/StringLatin1", "charAt", "([BI)C"⟩ : MethodName) (head1 (Jvm.Cond.code (⟨"java/lang/StringLatin1", "charAt", "([BI)C"⟩ : MethodName) jdk_43_method_2_code 2 (some .char) :: ws) ({ frames := 2, cells := 0, slots := 0, locals := 27 } : Room)) (fun a U => a = #[(.ref r0), (.int (1 : Int32))] ∧ Z.Warmed39 U.vm ∧ U.heap = h0) (fun _ _ _ _ _ => True) (fun _ U o U' => ∃ v L, o = .returned v ∧ Q8_2 Z r0 sf f h0 n0 v U'.heap L ∧ FrameEnd U o U' L ({ frames := 2, cells := 0, slots := 0, locals := 27 } : Room).cells ({ frames := 2, cells := 0, slots := 0, locals := 27 } : Room).slots) := by
  refine MetFree.of_bodySF (plainFor_of_name pn_8) hisR ?_
  intro p e s m args below meth c s₁ Bd hml0 hP hK
  obtain ⟨rfl, hZ, hh⟩ := hP
  have hx := Bd.exec
  have hby := Bd.bytes
  have hml : c.maxLocals = 2 := hml0
  have hown : s.vm.findClass "java/lang/StringLatin1" = some m.cls := findClass_of_methodNamed Bd.named
  have hnm := (name_of_methodNamed Bd.named Bd.method).1
  have X0 : Stand p l e ({ frames := 2, cells := 0, slots := 0, locals := 27 } : Room) s m #[(.ref r0), (.int (1 : Int32))] below meth c s₁ [] 0 0 := Stand.of_body Bd
  have e0 : s₁.heap = h0 := by rw [← hh, Bd.state]; rfl
  have N0 := Fr.nil n0
  suffices HH : ∀ G : Outcome → State → Prop, (∀ v L U', Q8_2 Z r0 sf f h0 n0 v U'.heap L → FrameEnd s (.returned v) U' L ({ frames := 2, cells := 0, slots := 0, locals := 27 } : Room).cells ({ frames := 2, cells := 0, slots := 0, locals := 27 } : Room).slots → G (.returned v) U') → Go p.tables e below G (s₁.setTop (mkF m 0 #[rv r0, iv (1 : Int32)] [])) by
    obtain ⟨s2, o, h1, h2, h3, h4⟩ := HH (fun o U' => ∃ v L, o = .returned v ∧ Q8_2 Z r0 sf f h0 n0 v U'.heap L ∧ FrameEnd s o U' L ({ frames := 2, cells := 0, slots := 0, locals := 27 } : Room).cells ({ frames := 2, cells := 0, slots := 0, locals := 27 } : Room).slots) (fun v L U' q f => ⟨v, L, rfl, q, f⟩)
    exact ⟨s2, o, castTop (ef_8_2 m r0) h1, h2, h3, h4⟩
  intro G hG
  show Go p.tables e below G (s₁.setTop (mkF m 0 #[rv r0, iv (1 : Int32)] []))
  refine Go.stp (fun t k => XS.iloadN X0.here hx rfl (hb hby d8_0) rfl k) ?_
  show Go p.tables e below G (s₁.setTop (mkF m 1 #[rv r0, iv (1 : Int32)] [(.int (1 : Int32))]))
  refine Go.stp (fun t k => XS.aloadN X0.here hx rfl (hb hby d8_1) rfl rfl k) ?_
  show Go p.tables e below G (s₁.setTop (mkF m 2 #[rv r0, iv (1 : Int32)] [(.ref r0), (.int (1 : Int32))]))
  obtain ⟨cl1, Ar1, Sz1, -, -⟩ := id I_r0
  refine Go.stp (fun t k => X0.arraylength hx (by rw [e0]; exact Ar1.1) (State.isArrayOf_alike hZ.alike Ar1.2.1) (g := (mkF m 2 #[rv r0, iv (1 : Int32)] [(.ref r0), (.int (1 : Int32))])) rfl rfl (hb hby d8_2) t k) ?_
  rw [Sz1]
  show Go p.tables e below G (s₁.setTop (mkF m 3 #[rv r0, iv (1 : Int32)] [(.int (2 : Int32)), (.int (1 : Int32))]))
  obtain ⟨_, _, ⟨T2, L2, k2, n2⟩, -, X2, ⟨Lc2, hQ2, l2, y2, z2⟩, st2⟩ := Jvm.LawKit.callS X0 hx (y := (⟨"java/lang/String", "checkIndex", "(II)V"⟩ : MethodName)) hown (mvT hZ (hw _ (List.mem_of_getElem? (i := 54) rfl))) (mvT hZ (hw _ (List.mem_of_getElem? (i := 55) rfl))) (mvT hZ (hw _ (List.mem_of_getElem? (i := 28) rfl))) (mvT hZ (hw _ (List.mem_of_getElem? (i := 56) rfl))) (by decide) (backOf (W := 0) (rm9 l Z a0 hw [] (1 : Int32) (2 : Int32) sf h0 n0 Z0 S_sf hsf (by decide) (by decide)) hZ (hw _ (List.mem_of_getElem? (i := 56) rfl)) (hw _ (List.mem_of_getElem? (i := 28) rfl)) (by decide) (by decide)) (g := (mkF m 3 #[rv r0, iv (1 : Int32)] [(.int (2 : Int32)), (.int (1 : Int32))])) rfl (by rw [hml]; rfl) (argsL := [(.int (1 : Int32)), (.int (2 : Int32))]) (rest := []) (lenOf pd_1 rfl) rfl (by show 2 * 0 + _ ≤ _; exact Nat.le_of_eq rfl) (hb hby d8_3) (fun _ _ => ⟨rfl, e0, (by decide : 0 + 0 ≤ _), (by decide : 0 + 0 ≤ _)⟩)
  dsimp only [Pt.U, Pt.locs, Pt.cells, Pt.slots] at X2 l2 y2 z2 st2 hQ2
  subst l2 y2 z2
  obtain ⟨rfl, Nq2, e2⟩ := hQ2
  have N2 := Fr.app N0 Nq2
  refine Go.stp (fun t k => st2 t k) ?_
  show Go p.tables e below G (T2.setTop (mkF m 6 #[rv r0, iv (1 : Int32)] []))
  refine Go.stp (fun t k => XS.aloadN X2.here hx rfl (hb hby d8_6) rfl rfl k) ?_
  show Go p.tables e below G (T2.setTop (mkF m 7 #[rv r0, iv (1 : Int32)] [(.ref r0)]))
  refine Go.stp (fun t k => XS.iloadN X2.here hx rfl (hb hby d8_7) rfl k) ?_
  show Go p.tables e below G (T2.setTop (mkF m 8 #[rv r0, iv (1 : Int32)] [(.int (1 : Int32)), (.ref r0)]))
  obtain ⟨cl3, Ar3, Sz3, -, Hs3⟩ := id I_r0
  have ib3 : 0 ≤ ((1 : Int32)).toInt ∧ ((1 : Int32)).toInt < ((2 : Nat) : Int) := (by decide)
  refine Go.stp (fun t k => X2.baloadBytes hx (j := (1 : Int32)) (v := (Value.int (f 1))) (by rw [e2]; exact Ar3.1) (State.isArrayOf_alike hZ.alike Ar3.2.1) Ar3.2.2 (in_of Sz3 ib3) (Hs3 1 (by decide)) (g := (mkF m 8 #[rv r0, iv (1 : Int32)] [(.int (1 : Int32)), (.ref r0)])) rfl rfl (hb hby d8_8) t k) ?_
  show Go p.tables e below G (T2.setTop (mkF m 9 #[rv r0, iv (1 : Int32)] [(.int (f 1))]))
  refine Go.stp (fun t k => XS.sipush X2.here hx rfl (hb hby d8_9) k) ?_
  show Go p.tables e below G (T2.setTop (mkF m 12 #[rv r0, iv (1 : Int32)] [(.int (255 : Int32)), (.int (f 1))]))
  refine Go.stp (fun t k => XS.iand X2.here hx rfl (hb hby d8_12) rfl k) ?_
  show Go p.tables e below G (T2.setTop (mkF m 13 #[rv r0, iv (1 : Int32)] [(.int ((f 1) &&& (255 : Int32)))]))
  refine Go.stp (fun t k => XS.i2c X2.here hx rfl (hb hby d8_13) rfl k) ?_
  show Go p.tables e below G (T2.setTop (mkF m 14 #[rv r0, iv (1 : Int32)] [(.int (((f 1) &&& (255 : Int32)).toUInt32.toUInt16.toUInt32.toInt32))]))
  obtain ⟨fs, hr, hrun, hended, hW, hsame⟩ := X2.leave (v := some (.int (nar .char (((f 1) &&& (255 : Int32)).toUInt32.toUInt16.toUInt32.toInt32)))) (fun h => by rw [Bd.returns] at h; cases h)
  refine ⟨_, _, retN X2 hx (t := .char) Bd.returns (by simp) (hb hby d8_14) hr, hrun, hended, hG _ _ _ ?_ ⟨⟨_, rfl⟩, hW, hsame.mono (by decide) (by decide)⟩⟩
  show Q8_2 Z r0 sf f h0 n0 _ T2.heap _
  rw [e2]
  exact ⟨rfl, N2, rfl⟩
theorem d6_0 : decode jdk_42_method_56_code 0 = .ok (.aload_n 0, 1) := by decide +kernel
theorem d6_1 : decode jdk_42_method_56_code 1 = .ok (.invokevirtual 492, 3) := by decide +kernel
theorem d6_4 : decode jdk_42_method_56_code 4 = .ok (.ifCond .eq 12, 3) := by decide +kernel
theorem d6_7 : decode jdk_42_method_56_code 7 = .ok (.aload_n 0, 1) := by decide +kernel
theorem d6_8 : decode jdk_42_method_56_code 8 = .ok (.getfield 9, 3) := by decide +kernel
theorem d6_11 : decode jdk_42_method_56_code 11 = .ok (.iload_n 1, 1) := by decide +kernel
theorem d6_12 : decode jdk_42_method_56_code 12 = .ok (.invokestatic 495, 3) := by decide +kernel
theorem d6_15 : decode jdk_42_method_56_code 15 = .ok (.ireturn, 1) := by decide +kernel
theorem ef_6_2 (m : MethodId) (r0 : Addr) : entryFrame m #[(.ref r0), (.int (1 : Int32))] 2 = mkF m 0 #[rv r0, iv (1 : Int32)] [] := by first | (simp [entryFrame, mkF, argsToLocals, Value.category, iv, rv, lv, un, sd]; done) | rfl
def Q6_2 (Z : State) (r0 : Addr) (va : Addr) (kc : Int32) (sf : Value) (f : Nat → Int32) (h0 : Heap) (n0 : Nat) (v : Option Value) (h : Heap) (L : List Loc) : Prop := v = some (.int (nar .char (own_ch (f 1)))) ∧ Fr n0 L ∧ h = h0
set_option maxRecDepth 65536 in
set_option maxHeartbeats 40000000 in
theorem rm6_2 (l : Launch) (Z : State) (a0 : Array Value) (hw : ∀ d ∈ tables_1, d.before a0 Z = true) (ws : List Jvm.Cond) (r0 : Addr) (va : Addr) (kc : Int32) (sf : Value) (f : Nat → Int32) (h0 : Heap) (n0 : Nat) (Z0 : n0 ≤ h0.size) (S_cs : Sta Z h0 "java/lang/String" "COMPACT_STRINGS" "Z" (.int kc)) (hkc : ¬ kc = (0 : Int32)) (S_sf : Sta Z h0 "jdk/internal/util/Preconditions" "SIOOBE_FORMATTER" "Ljava/util/function/BiFunction;" sf) (hsf : sf.isRef = true) (E_r0 : Exa Z h0 r0 "java/lang/String") (Fv_r0 : Fld Z h0 r0 "java/lang/String" "value" "[B" (.ref va)) (Fc_r0 : Fld Z h0 r0 "java/lang/String" "coder" "B" (.int (0 : Int32))) (I_va : Ia Z h0 va .byte 2 Value.int f) :
    MetFree l (⟨"java/lang/String", "charAt", "(I)C"⟩ : MethodName) (head1 (Jvm.Cond.code (⟨"java/lang/String", "charAt", "(I)C"⟩ : MethodName) jdk_42_method_56_code 2 (some .char) :: ws) ({ frames := 3, cells := 0, slots := 0, locals := 40 } : Room)) (fun a U => a = #[(.ref r0), (.int (1 : Int32))] ∧ Z.Warmed39 U.vm ∧ U.heap = h0) (fun _ _ _ _ _ => True) (fun _ U o U' => ∃ v L, o = .returned v ∧ Q6_2 Z r0 va kc sf f h0 n0 v U'.heap L ∧ FrameEnd U o U' L ({ frames := 3, cells := 0, slots := 0, locals := 40 } : Room).cells ({ frames := 3, cells := 0, slots := 0, locals := 40 } : Room).slots) := by
  refine MetFree.of_bodySF (plainFor_of_name pn_5) hisR ?_
  intro p e s m args below meth c s₁ Bd hml0 hP hK
  obtain ⟨rfl, hZ, hh⟩ := hP
  have hx := Bd.exec
  have hby := Bd.bytes
  have hml : c.maxLocals = 2 := hml0
  have hown : s.vm.findClass "java/lang/String" = some m.cls := findClass_of_methodNamed Bd.named
  have hnm := (name_of_methodNamed Bd.named Bd.method).1
  have X0 : Stand p l e ({ frames := 3, cells := 0, slots := 0, locals := 40 } : Room) s m #[(.ref r0), (.int (1 : Int32))] below meth c s₁ [] 0 0 := Stand.of_body Bd
  have e0 : s₁.heap = h0 := by rw [← hh, Bd.state]; rfl
  have N0 := Fr.nil n0
  suffices HH : ∀ G : Outcome → State → Prop, (∀ v L U', Q6_2 Z r0 va kc sf f h0 n0 v U'.heap L → FrameEnd s (.returned v) U' L ({ frames := 3, cells := 0, slots := 0, locals := 40 } : Room).cells ({ frames := 3, cells := 0, slots := 0, locals := 40 } : Room).slots → G (.returned v) U') → Go p.tables e below G (s₁.setTop (mkF m 0 #[rv r0, iv (1 : Int32)] [])) by
    obtain ⟨s2, o, h1, h2, h3, h4⟩ := HH (fun o U' => ∃ v L, o = .returned v ∧ Q6_2 Z r0 va kc sf f h0 n0 v U'.heap L ∧ FrameEnd s o U' L ({ frames := 3, cells := 0, slots := 0, locals := 40 } : Room).cells ({ frames := 3, cells := 0, slots := 0, locals := 40 } : Room).slots) (fun v L U' q f => ⟨v, L, rfl, q, f⟩)
    exact ⟨s2, o, castTop (ef_6_2 m r0) h1, h2, h3, h4⟩
  intro G hG
  show Go p.tables e below G (s₁.setTop (mkF m 0 #[rv r0, iv (1 : Int32)] []))
  refine Go.stp (fun t k => XS.aloadN X0.here hx rfl (hb hby d6_0) rfl rfl k) ?_
  show Go p.tables e below G (s₁.setTop (mkF m 1 #[rv r0, iv (1 : Int32)] [(.ref r0)]))
  obtain ⟨cq1, kq1, q1a, q1b, q1c⟩ := isOf hZ e0 E_r0
  obtain ⟨_, _, ⟨T1, L1, k1, n1⟩, -, X1, ⟨Lc1, hQ1, l1, y1, z1⟩, st1⟩ := X0.virtualBack hx (y := (⟨"java/lang/String", "isLatin1", "()Z"⟩ : MethodName)) (z := (⟨"java/lang/String", "isLatin1", "()Z"⟩ : MethodName)) hown (mvT hZ (hw _ (List.mem_of_getElem? (i := 45) rfl))) (mvT hZ (hw _ (List.mem_of_getElem? (i := 46) rfl))) (notFace_of_selects (args := #[]) (mvT hZ (hw _ (List.mem_of_getElem? (i := 48) rfl)))) (mvT hZ (hw _ (List.mem_of_getElem? (i := 48) rfl))) (mvT hZ (hw _ (List.mem_of_getElem? (i := 47) rfl))) (by decide) (backOf (W := 0) (rm7 l Z a0 hw [] r0 kc h0 n0 Z0 S_cs hkc Fc_r0) hZ (hw _ (List.mem_of_getElem? (i := 49) rfl)) (hw _ (List.mem_of_getElem? (i := 28) rfl)) (by decide) (by decide)) q1a q1c (g := (mkF m 1 #[rv r0, iv (1 : Int32)] [(.ref r0)])) rfl (by rw [hml]; rfl) (Steps.refl _) (argsL := []) (rest := []) (lenOf pd_2 rfl) rfl (by show 2 * 0 + _ ≤ _; exact Nat.le_of_eq rfl) (hb hby d6_1) (fun _ _ => ⟨rfl, e0, (by decide : 0 + 0 ≤ _), (by decide : 0 + 0 ≤ _)⟩)
  dsimp only [Pt.U, Pt.locs, Pt.cells, Pt.slots] at X1 l1 y1 z1 st1 hQ1
  subst l1 y1 z1
  obtain ⟨rfl, Nq1, e1⟩ := hQ1
  have N1 := Fr.app N0 Nq1
  refine Go.stp (fun t k => st1.trans k) ?_
  show Go p.tables e below G (T1.setTop (mkF m 4 #[rv r0, iv (1 : Int32)] [(.int (1 : Int32))]))
  refine Go.stp (fun t k => XS.ifNo X1.here hx rfl (hb hby d6_4) rfl ((if0 _ _).trans (feq (by decide : ¬ ((1 : Int32) = (0 : Int32)))).1) k) ?_
  show Go p.tables e below G (T1.setTop (mkF m 7 #[rv r0, iv (1 : Int32)] []))
  refine Go.stp (fun t k => XS.aloadN X1.here hx rfl (hb hby d6_7) rfl rfl k) ?_
  show Go p.tables e below G (T1.setTop (mkF m 8 #[rv r0, iv (1 : Int32)] [(.ref r0)]))
  obtain ⟨T2, X2, e2, st2⟩ := getF X1 hx hZ hown (host := "") (Or.inl (hw _ (List.mem_of_getElem? (i := 30) rfl))) Via.refl e1 Fv_r0 (g := (mkF m 8 #[rv r0, iv (1 : Int32)] [(.ref r0)])) rfl rfl (hb hby d6_8)
  refine Go.stp (fun t k => st2 t k) ?_
  show Go p.tables e below G (T2.setTop (mkF m 11 #[rv r0, iv (1 : Int32)] [(.ref va)]))
  refine Go.stp (fun t k => XS.iloadN X2.here hx rfl (hb hby d6_11) rfl k) ?_
  show Go p.tables e below G (T2.setTop (mkF m 12 #[rv r0, iv (1 : Int32)] [(.int (1 : Int32)), (.ref va)]))
  obtain ⟨_, _, ⟨T3, L3, k3, n3⟩, -, X3, ⟨Lc3, hQ3, l3, y3, z3⟩, st3⟩ := Jvm.LawKit.callS X2 hx (y := (⟨"java/lang/StringLatin1", "charAt", "([BI)C"⟩ : MethodName)) hown (mvT hZ (hw _ (List.mem_of_getElem? (i := 50) rfl))) (mvT hZ (hw _ (List.mem_of_getElem? (i := 51) rfl))) (mvT hZ (hw _ (List.mem_of_getElem? (i := 52) rfl))) (mvT hZ (hw _ (List.mem_of_getElem? (i := 53) rfl))) (by decide) (backOf (W := 0) (rm8_2 l Z a0 hw [] va sf f h0 n0 Z0 S_sf hsf I_va) hZ (hw _ (List.mem_of_getElem? (i := 53) rfl)) (hw _ (List.mem_of_getElem? (i := 52) rfl)) (by decide) (by decide)) (g := (mkF m 12 #[rv r0, iv (1 : Int32)] [(.int (1 : Int32)), (.ref va)])) rfl (by rw [hml]; rfl) (argsL := [(.ref va), (.int (1 : Int32))]) (rest := []) (lenOf pd_3 rfl) rfl (by show 2 * 0 + _ ≤ _; exact Nat.le_of_eq rfl) (hb hby d6_12) (fun _ _ => ⟨rfl, e2, (by decide : 0 + 0 ≤ _), (by decide : 0 + 0 ≤ _)⟩)
  dsimp only [Pt.U, Pt.locs, Pt.cells, Pt.slots] at X3 l3 y3 z3 st3 hQ3
  subst l3 y3 z3
  obtain ⟨rfl, Nq3, e3⟩ := hQ3
  have N3 := Fr.app N1 Nq3
  refine Go.stp (fun t k => st3 t k) ?_
  show Go p.tables e below G (T3.setTop (mkF m 15 #[rv r0, iv (1 : Int32)] [(.int (own_ch (f 1)))]))
  obtain ⟨fs, hr, hrun, hended, hW, hsame⟩ := X3.leave (v := some (.int (nar .char (own_ch (f 1))))) (fun h => by rw [Bd.returns] at h; cases h)
  refine ⟨_, _, retN X3 hx (t := .char) Bd.returns (by simp) (hb hby d6_15) hr, hrun, hended, hG _ _ _ ?_ ⟨⟨_, rfl⟩, hW, hsame.mono (by decide) (by decide)⟩⟩
  show Q6_2 Z r0 va kc sf f h0 n0 _ T3.heap _
  rw [e3]
  exact ⟨rfl, N3, rfl⟩
theorem d4_0 : decode jdk_42_method_54_code 0 = .ok (.aload_n 0, 1) := by decide +kernel
theorem d4_1 : decode jdk_42_method_54_code 1 = .ok (.getfield 9, 3) := by decide +kernel
theorem d4_4 : decode jdk_42_method_54_code 4 = .ok (.arraylength, 1) := by decide +kernel
theorem d4_5 : decode jdk_42_method_54_code 5 = .ok (.aload_n 0, 1) := by decide +kernel
theorem d4_6 : decode jdk_42_method_54_code 6 = .ok (.invokevirtual 335, 3) := by decide +kernel
theorem d4_9 : decode jdk_42_method_54_code 9 = .ok (.ishr, 1) := by decide +kernel
theorem d4_10 : decode jdk_42_method_54_code 10 = .ok (.ireturn, 1) := by decide +kernel
theorem ef_4_2 (m : MethodId) (r0 : Addr) : entryFrame m #[(.ref r0)] 1 = mkF m 0 #[rv r0] [] := by first | (simp [entryFrame, mkF, argsToLocals, Value.category, iv, rv, lv, un, sd]; done) | rfl
def Q4_2 (Z : State) (r0 : Addr) (va : Addr) (kc : Int32) (f : Nat → Int32) (h0 : Heap) (n0 : Nat) (v : Option Value) (h : Heap) (L : List Loc) : Prop := v = some (.int (2 : Int32)) ∧ Fr n0 L ∧ h = h0
set_option maxRecDepth 65536 in
set_option maxHeartbeats 40000000 in
theorem rm4_2 (l : Launch) (Z : State) (a0 : Array Value) (hw : ∀ d ∈ tables_1, d.before a0 Z = true) (ws : List Jvm.Cond) (r0 : Addr) (va : Addr) (kc : Int32) (f : Nat → Int32) (h0 : Heap) (n0 : Nat) (Z0 : n0 ≤ h0.size) (S_cs : Sta Z h0 "java/lang/String" "COMPACT_STRINGS" "Z" (.int kc)) (hkc : ¬ kc = (0 : Int32)) (E_r0 : Exa Z h0 r0 "java/lang/String") (Fv_r0 : Fld Z h0 r0 "java/lang/String" "value" "[B" (.ref va)) (Fc_r0 : Fld Z h0 r0 "java/lang/String" "coder" "B" (.int (0 : Int32))) (I_va : Ia Z h0 va .byte 2 Value.int f) :
    MetFree l (⟨"java/lang/String", "length", "()I"⟩ : MethodName) (head1 (Jvm.Cond.code (⟨"java/lang/String", "length", "()I"⟩ : MethodName) jdk_42_method_54_code 1 (some .int) :: ws) ({ frames := 1, cells := 0, slots := 0, locals := 13 } : Room)) (fun a U => a = #[(.ref r0)] ∧ Z.Warmed39 U.vm ∧ U.heap = h0) (fun _ _ _ _ _ => True) (fun _ U o U' => ∃ v L, o = .returned v ∧ Q4_2 Z r0 va kc f h0 n0 v U'.heap L ∧ FrameEnd U o U' L ({ frames := 1, cells := 0, slots := 0, locals := 13 } : Room).cells ({ frames := 1, cells := 0, slots := 0, locals := 13 } : Room).slots) := by
  refine MetFree.of_bodySF (plainFor_of_name pn_5) hisR ?_
  intro p e s m args below meth c s₁ Bd hml0 hP hK
  obtain ⟨rfl, hZ, hh⟩ := hP
  have hx := Bd.exec
  have hby := Bd.bytes
  have hml : c.maxLocals = 1 := hml0
  have hown : s.vm.findClass "java/lang/String" = some m.cls := findClass_of_methodNamed Bd.named
  have hnm := (name_of_methodNamed Bd.named Bd.method).1
  have X0 : Stand p l e ({ frames := 1, cells := 0, slots := 0, locals := 13 } : Room) s m #[(.ref r0)] below meth c s₁ [] 0 0 := Stand.of_body Bd
  have e0 : s₁.heap = h0 := by rw [← hh, Bd.state]; rfl
  have N0 := Fr.nil n0
  suffices HH : ∀ G : Outcome → State → Prop, (∀ v L U', Q4_2 Z r0 va kc f h0 n0 v U'.heap L → FrameEnd s (.returned v) U' L ({ frames := 1, cells := 0, slots := 0, locals := 13 } : Room).cells ({ frames := 1, cells := 0, slots := 0, locals := 13 } : Room).slots → G (.returned v) U') → Go p.tables e below G (s₁.setTop (mkF m 0 #[rv r0] [])) by
    obtain ⟨s2, o, h1, h2, h3, h4⟩ := HH (fun o U' => ∃ v L, o = .returned v ∧ Q4_2 Z r0 va kc f h0 n0 v U'.heap L ∧ FrameEnd s o U' L ({ frames := 1, cells := 0, slots := 0, locals := 13 } : Room).cells ({ frames := 1, cells := 0, slots := 0, locals := 13 } : Room).slots) (fun v L U' q f => ⟨v, L, rfl, q, f⟩)
    exact ⟨s2, o, castTop (ef_4_2 m r0) h1, h2, h3, h4⟩
  intro G hG
  show Go p.tables e below G (s₁.setTop (mkF m 0 #[rv r0] []))
  refine Go.stp (fun t k => XS.aloadN X0.here hx rfl (hb hby d4_0) rfl rfl k) ?_
  show Go p.tables e below G (s₁.setTop (mkF m 1 #[rv r0] [(.ref r0)]))
  obtain ⟨T1, X1, e1, st1⟩ := getF X0 hx hZ hown (host := "") (Or.inl (hw _ (List.mem_of_getElem? (i := 30) rfl))) Via.refl e0 Fv_r0 (g := (mkF m 1 #[rv r0] [(.ref r0)])) rfl rfl (hb hby d4_1)
  refine Go.stp (fun t k => st1 t k) ?_
  show Go p.tables e below G (T1.setTop (mkF m 4 #[rv r0] [(.ref va)]))
  obtain ⟨cl2, Ar2, Sz2, -, -⟩ := id I_va
  refine Go.stp (fun t k => X1.arraylength hx (by rw [e1]; exact Ar2.1) (State.isArrayOf_alike hZ.alike Ar2.2.1) (g := (mkF m 4 #[rv r0] [(.ref va)])) rfl rfl (hb hby d4_4) t k) ?_
  rw [Sz2]
  show Go p.tables e below G (T1.setTop (mkF m 5 #[rv r0] [(.int (2 : Int32))]))
  refine Go.stp (fun t k => XS.aloadN X1.here hx rfl (hb hby d4_5) rfl rfl k) ?_
  show Go p.tables e below G (T1.setTop (mkF m 6 #[rv r0] [(.ref r0), (.int (2 : Int32))]))
  obtain ⟨cq3, kq3, q3a, q3b, q3c⟩ := isOf hZ e1 E_r0
  obtain ⟨_, _, ⟨T3, L3, k3, n3⟩, -, X3, ⟨Lc3, hQ3, l3, y3, z3⟩, st3⟩ := X1.virtualBack hx (y := (⟨"java/lang/String", "coder", "()B"⟩ : MethodName)) (z := (⟨"java/lang/String", "coder", "()B"⟩ : MethodName)) hown (mvT hZ (hw _ (List.mem_of_getElem? (i := 32) rfl))) (mvT hZ (hw _ (List.mem_of_getElem? (i := 33) rfl))) (notFace_of_selects (args := #[]) (mvT hZ (hw _ (List.mem_of_getElem? (i := 35) rfl)))) (mvT hZ (hw _ (List.mem_of_getElem? (i := 35) rfl))) (mvT hZ (hw _ (List.mem_of_getElem? (i := 34) rfl))) (by decide) (backOf (W := 1) (rm5 l Z a0 hw [] r0 kc h0 n0 Z0 S_cs hkc Fc_r0) hZ (hw _ (List.mem_of_getElem? (i := 36) rfl)) (hw _ (List.mem_of_getElem? (i := 28) rfl)) (by decide) (by decide)) q3a q3c (g := (mkF m 6 #[rv r0] [(.ref r0), (.int (2 : Int32))])) rfl (by rw [hml]; rfl) (Steps.refl _) (argsL := []) (rest := [(.int (2 : Int32))]) (lenOf pd_4 rfl) rfl (by show 2 * 0 + _ ≤ _; exact Nat.le_of_eq rfl) (hb hby d4_6) (fun _ _ => ⟨rfl, e1, (by decide : 0 + 0 ≤ _), (by decide : 0 + 0 ≤ _)⟩)
  dsimp only [Pt.U, Pt.locs, Pt.cells, Pt.slots] at X3 l3 y3 z3 st3 hQ3
  subst l3 y3 z3
  obtain ⟨rfl, Nq3, e3⟩ := hQ3
  have N3 := Fr.app N0 Nq3
  refine Go.stp (fun t k => st3.trans k) ?_
  show Go p.tables e below G (T3.setTop (mkF m 9 #[rv r0] [(.int (0 : Int32)), (.int (2 : Int32))]))
  refine Go.stp (fun t k => XS.ishr X3.here hx rfl (hb hby d4_9) rfl k) ?_
  show Go p.tables e below G (T3.setTop (mkF m 10 #[rv r0] [(.int ((2 : Int32) >>> ((0 : Int32) &&& 31)))]))
  obtain ⟨fs, hr, hrun, hended, hW, hsame⟩ := X3.leave (v := some (.int ((2 : Int32) >>> ((0 : Int32) &&& 31)))) (fun h => by rw [Bd.returns] at h; cases h)
  refine ⟨_, _, retI X3 hx Bd.returns (hb hby d4_10) hr, hrun, hended, hG _ _ _ ?_ ⟨⟨_, rfl⟩, hW, hsame.mono (by decide) (by decide)⟩⟩
  show Q4_2 Z r0 va kc f h0 n0 _ T3.heap _
  rw [e3]
  exact ⟨rfl, N3, rfl⟩
theorem ef_8_3 (m : MethodId) (r0 : Addr) : entryFrame m #[(.ref r0), (.int (2 : Int32))] 2 = mkF m 0 #[rv r0, iv (2 : Int32)] [] := by first | (simp [entryFrame, mkF, argsToLocals, Value.category, iv, rv, lv, un, sd]; done) | rfl
def Q8_3 (Z : State) (r0 : Addr) (sf : Value) (f : Nat → Int32) (h0 : Heap) (n0 : Nat) (v : Option Value) (h : Heap) (L : List Loc) : Prop := v = some (.int (own_ch (f 2))) ∧ Fr n0 L ∧ h = h0
set_option maxRecDepth 65536 in
set_option maxHeartbeats 40000000 in
theorem rm8_3 (l : Launch) (Z : State) (a0 : Array Value) (hw : ∀ d ∈ tables_1, d.before a0 Z = true) (ws : List Jvm.Cond) (r0 : Addr) (sf : Value) (f : Nat → Int32) (h0 : Heap) (n0 : Nat) (Z0 : n0 ≤ h0.size) (S_sf : Sta Z h0 "jdk/internal/util/Preconditions" "SIOOBE_FORMATTER" "Ljava/util/function/BiFunction;" sf) (hsf : sf.isRef = true) (I_r0 : Ia Z h0 r0 .byte 3 Value.int f) :
    MetFree l (⟨"java/lang/StringLatin1", "charAt", "([BI)C"⟩ : MethodName) (head1 (Jvm.Cond.code (⟨"java/lang/StringLatin1", "charAt", "([BI)C"⟩ : MethodName) jdk_43_method_2_code 2 (some .char) :: ws) ({ frames := 2, cells := 0, slots := 0, locals := 27 } : Room)) (fun a U => a = #[(.ref r0), (.int (2 : Int32))] ∧ Z.Warmed39 U.vm ∧ U.heap = h0) (fun _ _ _ _ _ => True) (fun _ U o U' => ∃ v L, o = .returned v ∧ Q8_3 Z r0 sf f h0 n0 v U'.heap L ∧ FrameEnd U o U' L ({ frames := 2, cells := 0, slots := 0, locals := 27 } : Room).cells ({ frames := 2, cells := 0, slots := 0, locals := 27 } : Room).slots) := by
  refine MetFree.of_bodySF (plainFor_of_name pn_8) hisR ?_
  intro p e s m args below meth c s₁ Bd hml0 hP hK
  obtain ⟨rfl, hZ, hh⟩ := hP
  have hx := Bd.exec
  have hby := Bd.bytes
  have hml : c.maxLocals = 2 := hml0
  have hown : s.vm.findClass "java/lang/StringLatin1" = some m.cls := findClass_of_methodNamed Bd.named
  have hnm := (name_of_methodNamed Bd.named Bd.method).1
  have X0 : Stand p l e ({ frames := 2, cells := 0, slots := 0, locals := 27 } : Room) s m #[(.ref r0), (.int (2 : Int32))] below meth c s₁ [] 0 0 := Stand.of_body Bd
  have e0 : s₁.heap = h0 := by rw [← hh, Bd.state]; rfl
  have N0 := Fr.nil n0
  suffices HH : ∀ G : Outcome → State → Prop, (∀ v L U', Q8_3 Z r0 sf f h0 n0 v U'.heap L → FrameEnd s (.returned v) U' L ({ frames := 2, cells := 0, slots := 0, locals := 27 } : Room).cells ({ frames := 2, cells := 0, slots := 0, locals := 27 } : Room).slots → G (.returned v) U') → Go p.tables e below G (s₁.setTop (mkF m 0 #[rv r0, iv (2 : Int32)] [])) by
    obtain ⟨s2, o, h1, h2, h3, h4⟩ := HH (fun o U' => ∃ v L, o = .returned v ∧ Q8_3 Z r0 sf f h0 n0 v U'.heap L ∧ FrameEnd s o U' L ({ frames := 2, cells := 0, slots := 0, locals := 27 } : Room).cells ({ frames := 2, cells := 0, slots := 0, locals := 27 } : Room).slots) (fun v L U' q f => ⟨v, L, rfl, q, f⟩)
    exact ⟨s2, o, castTop (ef_8_3 m r0) h1, h2, h3, h4⟩
  intro G hG
  show Go p.tables e below G (s₁.setTop (mkF m 0 #[rv r0, iv (2 : Int32)] []))
  refine Go.stp (fun t k => XS.iloadN X0.here hx rfl (hb hby d8_0) rfl k) ?_
  show Go p.tables e below G (s₁.setTop (mkF m 1 #[rv r0, iv (2 : Int32)] [(.int (2 : Int32))]))
  refine Go.stp (fun t k => XS.aloadN X0.here hx rfl (hb hby d8_1) rfl rfl k) ?_
  show Go p.tables e below G (s₁.setTop (mkF m 2 #[rv r0, iv (2 : Int32)] [(.ref r0), (.int (2 : Int32))]))
  obtain ⟨cl1, Ar1, Sz1, -, -⟩ := id I_r0
  refine Go.stp (fun t k => X0.arraylength hx (by rw [e0]; exact Ar1.1) (State.isArrayOf_alike hZ.alike Ar1.2.1) (g := (mkF m 2 #[rv r0, iv (2 : Int32)] [(.ref r0), (.int (2 : Int32))])) rfl rfl (hb hby d8_2) t k) ?_
  rw [Sz1]
  show Go p.tables e below G (s₁.setTop (mkF m 3 #[rv r0, iv (2 : Int32)] [(.int (3 : Int32)), (.int (2 : Int32))]))
  obtain ⟨_, _, ⟨T2, L2, k2, n2⟩, -, X2, ⟨Lc2, hQ2, l2, y2, z2⟩, st2⟩ := Jvm.LawKit.callS X0 hx (y := (⟨"java/lang/String", "checkIndex", "(II)V"⟩ : MethodName)) hown (mvT hZ (hw _ (List.mem_of_getElem? (i := 54) rfl))) (mvT hZ (hw _ (List.mem_of_getElem? (i := 55) rfl))) (mvT hZ (hw _ (List.mem_of_getElem? (i := 28) rfl))) (mvT hZ (hw _ (List.mem_of_getElem? (i := 56) rfl))) (by decide) (backOf (W := 0) (rm9 l Z a0 hw [] (2 : Int32) (3 : Int32) sf h0 n0 Z0 S_sf hsf (by decide) (by decide)) hZ (hw _ (List.mem_of_getElem? (i := 56) rfl)) (hw _ (List.mem_of_getElem? (i := 28) rfl)) (by decide) (by decide)) (g := (mkF m 3 #[rv r0, iv (2 : Int32)] [(.int (3 : Int32)), (.int (2 : Int32))])) rfl (by rw [hml]; rfl) (argsL := [(.int (2 : Int32)), (.int (3 : Int32))]) (rest := []) (lenOf pd_1 rfl) rfl (by show 2 * 0 + _ ≤ _; exact Nat.le_of_eq rfl) (hb hby d8_3) (fun _ _ => ⟨rfl, e0, (by decide : 0 + 0 ≤ _), (by decide : 0 + 0 ≤ _)⟩)
  dsimp only [Pt.U, Pt.locs, Pt.cells, Pt.slots] at X2 l2 y2 z2 st2 hQ2
  subst l2 y2 z2
  obtain ⟨rfl, Nq2, e2⟩ := hQ2
  have N2 := Fr.app N0 Nq2
  refine Go.stp (fun t k => st2 t k) ?_
  show Go p.tables e below G (T2.setTop (mkF m 6 #[rv r0, iv (2 : Int32)] []))
  refine Go.stp (fun t k => XS.aloadN X2.here hx rfl (hb hby d8_6) rfl rfl k) ?_
  show Go p.tables e below G (T2.setTop (mkF m 7 #[rv r0, iv (2 : Int32)] [(.ref r0)]))
  refine Go.stp (fun t k => XS.iloadN X2.here hx rfl (hb hby d8_7) rfl k) ?_
  show Go p.tables e below G (T2.setTop (mkF m 8 #[rv r0, iv (2 : Int32)] [(.int (2 : Int32)), (.ref r0)]))
  obtain ⟨cl3, Ar3, Sz3, -, Hs3⟩ := id I_r0
  have ib3 : 0 ≤ ((2 : Int32)).toInt ∧ ((2 : Int32)).toInt < ((3 : Nat) : Int) := (by decide)
  refine Go.stp (fun t k => X2.baloadBytes hx (j := (2 : Int32)) (v := (Value.int (f 2))) (by rw [e2]; exact Ar3.1) (State.isArrayOf_alike hZ.alike Ar3.2.1) Ar3.2.2 (in_of Sz3 ib3) (Hs3 2 (by decide)) (g := (mkF m 8 #[rv r0, iv (2 : Int32)] [(.int (2 : Int32)), (.ref r0)])) rfl rfl (hb hby d8_8) t k) ?_
  show Go p.tables e below G (T2.setTop (mkF m 9 #[rv r0, iv (2 : Int32)] [(.int (f 2))]))
  refine Go.stp (fun t k => XS.sipush X2.here hx rfl (hb hby d8_9) k) ?_
  show Go p.tables e below G (T2.setTop (mkF m 12 #[rv r0, iv (2 : Int32)] [(.int (255 : Int32)), (.int (f 2))]))
  refine Go.stp (fun t k => XS.iand X2.here hx rfl (hb hby d8_12) rfl k) ?_
  show Go p.tables e below G (T2.setTop (mkF m 13 #[rv r0, iv (2 : Int32)] [(.int ((f 2) &&& (255 : Int32)))]))
  refine Go.stp (fun t k => XS.i2c X2.here hx rfl (hb hby d8_13) rfl k) ?_
  show Go p.tables e below G (T2.setTop (mkF m 14 #[rv r0, iv (2 : Int32)] [(.int (((f 2) &&& (255 : Int32)).toUInt32.toUInt16.toUInt32.toInt32))]))
  obtain ⟨fs, hr, hrun, hended, hW, hsame⟩ := X2.leave (v := some (.int (nar .char (((f 2) &&& (255 : Int32)).toUInt32.toUInt16.toUInt32.toInt32)))) (fun h => by rw [Bd.returns] at h; cases h)
  refine ⟨_, _, retN X2 hx (t := .char) Bd.returns (by simp) (hb hby d8_14) hr, hrun, hended, hG _ _ _ ?_ ⟨⟨_, rfl⟩, hW, hsame.mono (by decide) (by decide)⟩⟩
  show Q8_3 Z r0 sf f h0 n0 _ T2.heap _
  rw [e2]
  exact ⟨rfl, N2, rfl⟩
theorem ef_6_3 (m : MethodId) (r0 : Addr) : entryFrame m #[(.ref r0), (.int (2 : Int32))] 2 = mkF m 0 #[rv r0, iv (2 : Int32)] [] := by first | (simp [entryFrame, mkF, argsToLocals, Value.category, iv, rv, lv, un, sd]; done) | rfl
def Q6_3 (Z : State) (r0 : Addr) (va : Addr) (kc : Int32) (sf : Value) (f : Nat → Int32) (h0 : Heap) (n0 : Nat) (v : Option Value) (h : Heap) (L : List Loc) : Prop := v = some (.int (nar .char (own_ch (f 2)))) ∧ Fr n0 L ∧ h = h0
set_option maxRecDepth 65536 in
set_option maxHeartbeats 40000000 in
theorem rm6_3 (l : Launch) (Z : State) (a0 : Array Value) (hw : ∀ d ∈ tables_1, d.before a0 Z = true) (ws : List Jvm.Cond) (r0 : Addr) (va : Addr) (kc : Int32) (sf : Value) (f : Nat → Int32) (h0 : Heap) (n0 : Nat) (Z0 : n0 ≤ h0.size) (S_cs : Sta Z h0 "java/lang/String" "COMPACT_STRINGS" "Z" (.int kc)) (hkc : ¬ kc = (0 : Int32)) (S_sf : Sta Z h0 "jdk/internal/util/Preconditions" "SIOOBE_FORMATTER" "Ljava/util/function/BiFunction;" sf) (hsf : sf.isRef = true) (E_r0 : Exa Z h0 r0 "java/lang/String") (Fv_r0 : Fld Z h0 r0 "java/lang/String" "value" "[B" (.ref va)) (Fc_r0 : Fld Z h0 r0 "java/lang/String" "coder" "B" (.int (0 : Int32))) (I_va : Ia Z h0 va .byte 3 Value.int f) :
    MetFree l (⟨"java/lang/String", "charAt", "(I)C"⟩ : MethodName) (head1 (Jvm.Cond.code (⟨"java/lang/String", "charAt", "(I)C"⟩ : MethodName) jdk_42_method_56_code 2 (some .char) :: ws) ({ frames := 3, cells := 0, slots := 0, locals := 40 } : Room)) (fun a U => a = #[(.ref r0), (.int (2 : Int32))] ∧ Z.Warmed39 U.vm ∧ U.heap = h0) (fun _ _ _ _ _ => True) (fun _ U o U' => ∃ v L, o = .returned v ∧ Q6_3 Z r0 va kc sf f h0 n0 v U'.heap L ∧ FrameEnd U o U' L ({ frames := 3, cells := 0, slots := 0, locals := 40 } : Room).cells ({ frames := 3, cells := 0, slots := 0, locals := 40 } : Room).slots) := by
  refine MetFree.of_bodySF (plainFor_of_name pn_5) hisR ?_
  intro p e s m args below meth c s₁ Bd hml0 hP hK
  obtain ⟨rfl, hZ, hh⟩ := hP
  have hx := Bd.exec
  have hby := Bd.bytes
  have hml : c.maxLocals = 2 := hml0
  have hown : s.vm.findClass "java/lang/String" = some m.cls := findClass_of_methodNamed Bd.named
  have hnm := (name_of_methodNamed Bd.named Bd.method).1
  have X0 : Stand p l e ({ frames := 3, cells := 0, slots := 0, locals := 40 } : Room) s m #[(.ref r0), (.int (2 : Int32))] below meth c s₁ [] 0 0 := Stand.of_body Bd
  have e0 : s₁.heap = h0 := by rw [← hh, Bd.state]; rfl
  have N0 := Fr.nil n0
  suffices HH : ∀ G : Outcome → State → Prop, (∀ v L U', Q6_3 Z r0 va kc sf f h0 n0 v U'.heap L → FrameEnd s (.returned v) U' L ({ frames := 3, cells := 0, slots := 0, locals := 40 } : Room).cells ({ frames := 3, cells := 0, slots := 0, locals := 40 } : Room).slots → G (.returned v) U') → Go p.tables e below G (s₁.setTop (mkF m 0 #[rv r0, iv (2 : Int32)] [])) by
    obtain ⟨s2, o, h1, h2, h3, h4⟩ := HH (fun o U' => ∃ v L, o = .returned v ∧ Q6_3 Z r0 va kc sf f h0 n0 v U'.heap L ∧ FrameEnd s o U' L ({ frames := 3, cells := 0, slots := 0, locals := 40 } : Room).cells ({ frames := 3, cells := 0, slots := 0, locals := 40 } : Room).slots) (fun v L U' q f => ⟨v, L, rfl, q, f⟩)
    exact ⟨s2, o, castTop (ef_6_3 m r0) h1, h2, h3, h4⟩
  intro G hG
  show Go p.tables e below G (s₁.setTop (mkF m 0 #[rv r0, iv (2 : Int32)] []))
  refine Go.stp (fun t k => XS.aloadN X0.here hx rfl (hb hby d6_0) rfl rfl k) ?_
  show Go p.tables e below G (s₁.setTop (mkF m 1 #[rv r0, iv (2 : Int32)] [(.ref r0)]))
  obtain ⟨cq1, kq1, q1a, q1b, q1c⟩ := isOf hZ e0 E_r0
  obtain ⟨_, _, ⟨T1, L1, k1, n1⟩, -, X1, ⟨Lc1, hQ1, l1, y1, z1⟩, st1⟩ := X0.virtualBack hx (y := (⟨"java/lang/String", "isLatin1", "()Z"⟩ : MethodName)) (z := (⟨"java/lang/String", "isLatin1", "()Z"⟩ : MethodName)) hown (mvT hZ (hw _ (List.mem_of_getElem? (i := 45) rfl))) (mvT hZ (hw _ (List.mem_of_getElem? (i := 46) rfl))) (notFace_of_selects (args := #[]) (mvT hZ (hw _ (List.mem_of_getElem? (i := 48) rfl)))) (mvT hZ (hw _ (List.mem_of_getElem? (i := 48) rfl))) (mvT hZ (hw _ (List.mem_of_getElem? (i := 47) rfl))) (by decide) (backOf (W := 0) (rm7 l Z a0 hw [] r0 kc h0 n0 Z0 S_cs hkc Fc_r0) hZ (hw _ (List.mem_of_getElem? (i := 49) rfl)) (hw _ (List.mem_of_getElem? (i := 28) rfl)) (by decide) (by decide)) q1a q1c (g := (mkF m 1 #[rv r0, iv (2 : Int32)] [(.ref r0)])) rfl (by rw [hml]; rfl) (Steps.refl _) (argsL := []) (rest := []) (lenOf pd_2 rfl) rfl (by show 2 * 0 + _ ≤ _; exact Nat.le_of_eq rfl) (hb hby d6_1) (fun _ _ => ⟨rfl, e0, (by decide : 0 + 0 ≤ _), (by decide : 0 + 0 ≤ _)⟩)
  dsimp only [Pt.U, Pt.locs, Pt.cells, Pt.slots] at X1 l1 y1 z1 st1 hQ1
  subst l1 y1 z1
  obtain ⟨rfl, Nq1, e1⟩ := hQ1
  have N1 := Fr.app N0 Nq1
  refine Go.stp (fun t k => st1.trans k) ?_
  show Go p.tables e below G (T1.setTop (mkF m 4 #[rv r0, iv (2 : Int32)] [(.int (1 : Int32))]))
  refine Go.stp (fun t k => XS.ifNo X1.here hx rfl (hb hby d6_4) rfl ((if0 _ _).trans (feq (by decide : ¬ ((1 : Int32) = (0 : Int32)))).1) k) ?_
  show Go p.tables e below G (T1.setTop (mkF m 7 #[rv r0, iv (2 : Int32)] []))
  refine Go.stp (fun t k => XS.aloadN X1.here hx rfl (hb hby d6_7) rfl rfl k) ?_
  show Go p.tables e below G (T1.setTop (mkF m 8 #[rv r0, iv (2 : Int32)] [(.ref r0)]))
  obtain ⟨T2, X2, e2, st2⟩ := getF X1 hx hZ hown (host := "") (Or.inl (hw _ (List.mem_of_getElem? (i := 30) rfl))) Via.refl e1 Fv_r0 (g := (mkF m 8 #[rv r0, iv (2 : Int32)] [(.ref r0)])) rfl rfl (hb hby d6_8)
  refine Go.stp (fun t k => st2 t k) ?_
  show Go p.tables e below G (T2.setTop (mkF m 11 #[rv r0, iv (2 : Int32)] [(.ref va)]))
  refine Go.stp (fun t k => XS.iloadN X2.here hx rfl (hb hby d6_11) rfl k) ?_
  show Go p.tables e below G (T2.setTop (mkF m 12 #[rv r0, iv (2 : Int32)] [(.int (2 : Int32)), (.ref va)]))
  obtain ⟨_, _, ⟨T3, L3, k3, n3⟩, -, X3, ⟨Lc3, hQ3, l3, y3, z3⟩, st3⟩ := Jvm.LawKit.callS X2 hx (y := (⟨"java/lang/StringLatin1", "charAt", "([BI)C"⟩ : MethodName)) hown (mvT hZ (hw _ (List.mem_of_getElem? (i := 50) rfl))) (mvT hZ (hw _ (List.mem_of_getElem? (i := 51) rfl))) (mvT hZ (hw _ (List.mem_of_getElem? (i := 52) rfl))) (mvT hZ (hw _ (List.mem_of_getElem? (i := 53) rfl))) (by decide) (backOf (W := 0) (rm8_3 l Z a0 hw [] va sf f h0 n0 Z0 S_sf hsf I_va) hZ (hw _ (List.mem_of_getElem? (i := 53) rfl)) (hw _ (List.mem_of_getElem? (i := 52) rfl)) (by decide) (by decide)) (g := (mkF m 12 #[rv r0, iv (2 : Int32)] [(.int (2 : Int32)), (.ref va)])) rfl (by rw [hml]; rfl) (argsL := [(.ref va), (.int (2 : Int32))]) (rest := []) (lenOf pd_3 rfl) rfl (by show 2 * 0 + _ ≤ _; exact Nat.le_of_eq rfl) (hb hby d6_12) (fun _ _ => ⟨rfl, e2, (by decide : 0 + 0 ≤ _), (by decide : 0 + 0 ≤ _)⟩)
  dsimp only [Pt.U, Pt.locs, Pt.cells, Pt.slots] at X3 l3 y3 z3 st3 hQ3
  subst l3 y3 z3
  obtain ⟨rfl, Nq3, e3⟩ := hQ3
  have N3 := Fr.app N1 Nq3
  refine Go.stp (fun t k => st3 t k) ?_
  show Go p.tables e below G (T3.setTop (mkF m 15 #[rv r0, iv (2 : Int32)] [(.int (own_ch (f 2)))]))
  obtain ⟨fs, hr, hrun, hended, hW, hsame⟩ := X3.leave (v := some (.int (nar .char (own_ch (f 2))))) (fun h => by rw [Bd.returns] at h; cases h)
  refine ⟨_, _, retN X3 hx (t := .char) Bd.returns (by simp) (hb hby d6_15) hr, hrun, hended, hG _ _ _ ?_ ⟨⟨_, rfl⟩, hW, hsame.mono (by decide) (by decide)⟩⟩
  show Q6_3 Z r0 va kc sf f h0 n0 _ T3.heap _
  rw [e3]
  exact ⟨rfl, N3, rfl⟩
theorem ef_4_3 (m : MethodId) (r0 : Addr) : entryFrame m #[(.ref r0)] 1 = mkF m 0 #[rv r0] [] := by first | (simp [entryFrame, mkF, argsToLocals, Value.category, iv, rv, lv, un, sd]; done) | rfl
def Q4_3 (Z : State) (r0 : Addr) (va : Addr) (kc : Int32) (f : Nat → Int32) (h0 : Heap) (n0 : Nat) (v : Option Value) (h : Heap) (L : List Loc) : Prop := v = some (.int (3 : Int32)) ∧ Fr n0 L ∧ h = h0
set_option maxRecDepth 65536 in
set_option maxHeartbeats 40000000 in
theorem rm4_3 (l : Launch) (Z : State) (a0 : Array Value) (hw : ∀ d ∈ tables_1, d.before a0 Z = true) (ws : List Jvm.Cond) (r0 : Addr) (va : Addr) (kc : Int32) (f : Nat → Int32) (h0 : Heap) (n0 : Nat) (Z0 : n0 ≤ h0.size) (S_cs : Sta Z h0 "java/lang/String" "COMPACT_STRINGS" "Z" (.int kc)) (hkc : ¬ kc = (0 : Int32)) (E_r0 : Exa Z h0 r0 "java/lang/String") (Fv_r0 : Fld Z h0 r0 "java/lang/String" "value" "[B" (.ref va)) (Fc_r0 : Fld Z h0 r0 "java/lang/String" "coder" "B" (.int (0 : Int32))) (I_va : Ia Z h0 va .byte 3 Value.int f) :
    MetFree l (⟨"java/lang/String", "length", "()I"⟩ : MethodName) (head1 (Jvm.Cond.code (⟨"java/lang/String", "length", "()I"⟩ : MethodName) jdk_42_method_54_code 1 (some .int) :: ws) ({ frames := 1, cells := 0, slots := 0, locals := 13 } : Room)) (fun a U => a = #[(.ref r0)] ∧ Z.Warmed39 U.vm ∧ U.heap = h0) (fun _ _ _ _ _ => True) (fun _ U o U' => ∃ v L, o = .returned v ∧ Q4_3 Z r0 va kc f h0 n0 v U'.heap L ∧ FrameEnd U o U' L ({ frames := 1, cells := 0, slots := 0, locals := 13 } : Room).cells ({ frames := 1, cells := 0, slots := 0, locals := 13 } : Room).slots) := by
  refine MetFree.of_bodySF (plainFor_of_name pn_5) hisR ?_
  intro p e s m args below meth c s₁ Bd hml0 hP hK
  obtain ⟨rfl, hZ, hh⟩ := hP
  have hx := Bd.exec
  have hby := Bd.bytes
  have hml : c.maxLocals = 1 := hml0
  have hown : s.vm.findClass "java/lang/String" = some m.cls := findClass_of_methodNamed Bd.named
  have hnm := (name_of_methodNamed Bd.named Bd.method).1
  have X0 : Stand p l e ({ frames := 1, cells := 0, slots := 0, locals := 13 } : Room) s m #[(.ref r0)] below meth c s₁ [] 0 0 := Stand.of_body Bd
  have e0 : s₁.heap = h0 := by rw [← hh, Bd.state]; rfl
  have N0 := Fr.nil n0
  suffices HH : ∀ G : Outcome → State → Prop, (∀ v L U', Q4_3 Z r0 va kc f h0 n0 v U'.heap L → FrameEnd s (.returned v) U' L ({ frames := 1, cells := 0, slots := 0, locals := 13 } : Room).cells ({ frames := 1, cells := 0, slots := 0, locals := 13 } : Room).slots → G (.returned v) U') → Go p.tables e below G (s₁.setTop (mkF m 0 #[rv r0] [])) by
    obtain ⟨s2, o, h1, h2, h3, h4⟩ := HH (fun o U' => ∃ v L, o = .returned v ∧ Q4_3 Z r0 va kc f h0 n0 v U'.heap L ∧ FrameEnd s o U' L ({ frames := 1, cells := 0, slots := 0, locals := 13 } : Room).cells ({ frames := 1, cells := 0, slots := 0, locals := 13 } : Room).slots) (fun v L U' q f => ⟨v, L, rfl, q, f⟩)
    exact ⟨s2, o, castTop (ef_4_3 m r0) h1, h2, h3, h4⟩
  intro G hG
  show Go p.tables e below G (s₁.setTop (mkF m 0 #[rv r0] []))
  refine Go.stp (fun t k => XS.aloadN X0.here hx rfl (hb hby d4_0) rfl rfl k) ?_
  show Go p.tables e below G (s₁.setTop (mkF m 1 #[rv r0] [(.ref r0)]))
  obtain ⟨T1, X1, e1, st1⟩ := getF X0 hx hZ hown (host := "") (Or.inl (hw _ (List.mem_of_getElem? (i := 30) rfl))) Via.refl e0 Fv_r0 (g := (mkF m 1 #[rv r0] [(.ref r0)])) rfl rfl (hb hby d4_1)
  refine Go.stp (fun t k => st1 t k) ?_
  show Go p.tables e below G (T1.setTop (mkF m 4 #[rv r0] [(.ref va)]))
  obtain ⟨cl2, Ar2, Sz2, -, -⟩ := id I_va
  refine Go.stp (fun t k => X1.arraylength hx (by rw [e1]; exact Ar2.1) (State.isArrayOf_alike hZ.alike Ar2.2.1) (g := (mkF m 4 #[rv r0] [(.ref va)])) rfl rfl (hb hby d4_4) t k) ?_
  rw [Sz2]
  show Go p.tables e below G (T1.setTop (mkF m 5 #[rv r0] [(.int (3 : Int32))]))
  refine Go.stp (fun t k => XS.aloadN X1.here hx rfl (hb hby d4_5) rfl rfl k) ?_
  show Go p.tables e below G (T1.setTop (mkF m 6 #[rv r0] [(.ref r0), (.int (3 : Int32))]))
  obtain ⟨cq3, kq3, q3a, q3b, q3c⟩ := isOf hZ e1 E_r0
  obtain ⟨_, _, ⟨T3, L3, k3, n3⟩, -, X3, ⟨Lc3, hQ3, l3, y3, z3⟩, st3⟩ := X1.virtualBack hx (y := (⟨"java/lang/String", "coder", "()B"⟩ : MethodName)) (z := (⟨"java/lang/String", "coder", "()B"⟩ : MethodName)) hown (mvT hZ (hw _ (List.mem_of_getElem? (i := 32) rfl))) (mvT hZ (hw _ (List.mem_of_getElem? (i := 33) rfl))) (notFace_of_selects (args := #[]) (mvT hZ (hw _ (List.mem_of_getElem? (i := 35) rfl)))) (mvT hZ (hw _ (List.mem_of_getElem? (i := 35) rfl))) (mvT hZ (hw _ (List.mem_of_getElem? (i := 34) rfl))) (by decide) (backOf (W := 1) (rm5 l Z a0 hw [] r0 kc h0 n0 Z0 S_cs hkc Fc_r0) hZ (hw _ (List.mem_of_getElem? (i := 36) rfl)) (hw _ (List.mem_of_getElem? (i := 28) rfl)) (by decide) (by decide)) q3a q3c (g := (mkF m 6 #[rv r0] [(.ref r0), (.int (3 : Int32))])) rfl (by rw [hml]; rfl) (Steps.refl _) (argsL := []) (rest := [(.int (3 : Int32))]) (lenOf pd_4 rfl) rfl (by show 2 * 0 + _ ≤ _; exact Nat.le_of_eq rfl) (hb hby d4_6) (fun _ _ => ⟨rfl, e1, (by decide : 0 + 0 ≤ _), (by decide : 0 + 0 ≤ _)⟩)
  dsimp only [Pt.U, Pt.locs, Pt.cells, Pt.slots] at X3 l3 y3 z3 st3 hQ3
  subst l3 y3 z3
  obtain ⟨rfl, Nq3, e3⟩ := hQ3
  have N3 := Fr.app N0 Nq3
  refine Go.stp (fun t k => st3.trans k) ?_
  show Go p.tables e below G (T3.setTop (mkF m 9 #[rv r0] [(.int (0 : Int32)), (.int (3 : Int32))]))
  refine Go.stp (fun t k => XS.ishr X3.here hx rfl (hb hby d4_9) rfl k) ?_
  show Go p.tables e below G (T3.setTop (mkF m 10 #[rv r0] [(.int ((3 : Int32) >>> ((0 : Int32) &&& 31)))]))
  obtain ⟨fs, hr, hrun, hended, hW, hsame⟩ := X3.leave (v := some (.int ((3 : Int32) >>> ((0 : Int32) &&& 31)))) (fun h => by rw [Bd.returns] at h; cases h)
  refine ⟨_, _, retI X3 hx Bd.returns (hb hby d4_10) hr, hrun, hended, hG _ _ _ ?_ ⟨⟨_, rfl⟩, hW, hsame.mono (by decide) (by decide)⟩⟩
  show Q4_3 Z r0 va kc f h0 n0 _ T3.heap _
  rw [e3]
  exact ⟨rfl, N3, rfl⟩
theorem ef_8_4 (m : MethodId) (r0 : Addr) : entryFrame m #[(.ref r0), (.int (3 : Int32))] 2 = mkF m 0 #[rv r0, iv (3 : Int32)] [] := by first | (simp [entryFrame, mkF, argsToLocals, Value.category, iv, rv, lv, un, sd]; done) | rfl
def Q8_4 (Z : State) (r0 : Addr) (sf : Value) (f : Nat → Int32) (h0 : Heap) (n0 : Nat) (v : Option Value) (h : Heap) (L : List Loc) : Prop := v = some (.int (own_ch (f 3))) ∧ Fr n0 L ∧ h = h0
set_option maxRecDepth 65536 in
set_option maxHeartbeats 40000000 in
theorem rm8_4 (l : Launch) (Z : State) (a0 : Array Value) (hw : ∀ d ∈ tables_1, d.before a0 Z = true) (ws : List Jvm.Cond) (r0 : Addr) (sf : Value) (f : Nat → Int32) (h0 : Heap) (n0 : Nat) (Z0 : n0 ≤ h0.size) (S_sf : Sta Z h0 "jdk/internal/util/Preconditions" "SIOOBE_FORMATTER" "Ljava/util/function/BiFunction;" sf) (hsf : sf.isRef = true) (I_r0 : Ia Z h0 r0 .byte 4 Value.int f) :
    MetFree l (⟨"java/lang/StringLatin1", "charAt", "([BI)C"⟩ : MethodName) (head1 (Jvm.Cond.code (⟨"java/lang/StringLatin1", "charAt", "([BI)C"⟩ : MethodName) jdk_43_method_2_code 2 (some .char) :: ws) ({ frames := 2, cells := 0, slots := 0, locals := 27 } : Room)) (fun a U => a = #[(.ref r0), (.int (3 : Int32))] ∧ Z.Warmed39 U.vm ∧ U.heap = h0) (fun _ _ _ _ _ => True) (fun _ U o U' => ∃ v L, o = .returned v ∧ Q8_4 Z r0 sf f h0 n0 v U'.heap L ∧ FrameEnd U o U' L ({ frames := 2, cells := 0, slots := 0, locals := 27 } : Room).cells ({ frames := 2, cells := 0, slots := 0, locals := 27 } : Room).slots) := by
  refine MetFree.of_bodySF (plainFor_of_name pn_8) hisR ?_
  intro p e s m args below meth c s₁ Bd hml0 hP hK
  obtain ⟨rfl, hZ, hh⟩ := hP
  have hx := Bd.exec
  have hby := Bd.bytes
  have hml : c.maxLocals = 2 := hml0
  have hown : s.vm.findClass "java/lang/StringLatin1" = some m.cls := findClass_of_methodNamed Bd.named
  have hnm := (name_of_methodNamed Bd.named Bd.method).1
  have X0 : Stand p l e ({ frames := 2, cells := 0, slots := 0, locals := 27 } : Room) s m #[(.ref r0), (.int (3 : Int32))] below meth c s₁ [] 0 0 := Stand.of_body Bd
  have e0 : s₁.heap = h0 := by rw [← hh, Bd.state]; rfl
  have N0 := Fr.nil n0
  suffices HH : ∀ G : Outcome → State → Prop, (∀ v L U', Q8_4 Z r0 sf f h0 n0 v U'.heap L → FrameEnd s (.returned v) U' L ({ frames := 2, cells := 0, slots := 0, locals := 27 } : Room).cells ({ frames := 2, cells := 0, slots := 0, locals := 27 } : Room).slots → G (.returned v) U') → Go p.tables e below G (s₁.setTop (mkF m 0 #[rv r0, iv (3 : Int32)] [])) by
    obtain ⟨s2, o, h1, h2, h3, h4⟩ := HH (fun o U' => ∃ v L, o = .returned v ∧ Q8_4 Z r0 sf f h0 n0 v U'.heap L ∧ FrameEnd s o U' L ({ frames := 2, cells := 0, slots := 0, locals := 27 } : Room).cells ({ frames := 2, cells := 0, slots := 0, locals := 27 } : Room).slots) (fun v L U' q f => ⟨v, L, rfl, q, f⟩)
    exact ⟨s2, o, castTop (ef_8_4 m r0) h1, h2, h3, h4⟩
  intro G hG
  show Go p.tables e below G (s₁.setTop (mkF m 0 #[rv r0, iv (3 : Int32)] []))
  refine Go.stp (fun t k => XS.iloadN X0.here hx rfl (hb hby d8_0) rfl k) ?_
  show Go p.tables e below G (s₁.setTop (mkF m 1 #[rv r0, iv (3 : Int32)] [(.int (3 : Int32))]))
  refine Go.stp (fun t k => XS.aloadN X0.here hx rfl (hb hby d8_1) rfl rfl k) ?_
  show Go p.tables e below G (s₁.setTop (mkF m 2 #[rv r0, iv (3 : Int32)] [(.ref r0), (.int (3 : Int32))]))
  obtain ⟨cl1, Ar1, Sz1, -, -⟩ := id I_r0
  refine Go.stp (fun t k => X0.arraylength hx (by rw [e0]; exact Ar1.1) (State.isArrayOf_alike hZ.alike Ar1.2.1) (g := (mkF m 2 #[rv r0, iv (3 : Int32)] [(.ref r0), (.int (3 : Int32))])) rfl rfl (hb hby d8_2) t k) ?_
  rw [Sz1]
  show Go p.tables e below G (s₁.setTop (mkF m 3 #[rv r0, iv (3 : Int32)] [(.int (4 : Int32)), (.int (3 : Int32))]))
  obtain ⟨_, _, ⟨T2, L2, k2, n2⟩, -, X2, ⟨Lc2, hQ2, l2, y2, z2⟩, st2⟩ := Jvm.LawKit.callS X0 hx (y := (⟨"java/lang/String", "checkIndex", "(II)V"⟩ : MethodName)) hown (mvT hZ (hw _ (List.mem_of_getElem? (i := 54) rfl))) (mvT hZ (hw _ (List.mem_of_getElem? (i := 55) rfl))) (mvT hZ (hw _ (List.mem_of_getElem? (i := 28) rfl))) (mvT hZ (hw _ (List.mem_of_getElem? (i := 56) rfl))) (by decide) (backOf (W := 0) (rm9 l Z a0 hw [] (3 : Int32) (4 : Int32) sf h0 n0 Z0 S_sf hsf (by decide) (by decide)) hZ (hw _ (List.mem_of_getElem? (i := 56) rfl)) (hw _ (List.mem_of_getElem? (i := 28) rfl)) (by decide) (by decide)) (g := (mkF m 3 #[rv r0, iv (3 : Int32)] [(.int (4 : Int32)), (.int (3 : Int32))])) rfl (by rw [hml]; rfl) (argsL := [(.int (3 : Int32)), (.int (4 : Int32))]) (rest := []) (lenOf pd_1 rfl) rfl (by show 2 * 0 + _ ≤ _; exact Nat.le_of_eq rfl) (hb hby d8_3) (fun _ _ => ⟨rfl, e0, (by decide : 0 + 0 ≤ _), (by decide : 0 + 0 ≤ _)⟩)
  dsimp only [Pt.U, Pt.locs, Pt.cells, Pt.slots] at X2 l2 y2 z2 st2 hQ2
  subst l2 y2 z2
  obtain ⟨rfl, Nq2, e2⟩ := hQ2
  have N2 := Fr.app N0 Nq2
  refine Go.stp (fun t k => st2 t k) ?_
  show Go p.tables e below G (T2.setTop (mkF m 6 #[rv r0, iv (3 : Int32)] []))
  refine Go.stp (fun t k => XS.aloadN X2.here hx rfl (hb hby d8_6) rfl rfl k) ?_
  show Go p.tables e below G (T2.setTop (mkF m 7 #[rv r0, iv (3 : Int32)] [(.ref r0)]))
  refine Go.stp (fun t k => XS.iloadN X2.here hx rfl (hb hby d8_7) rfl k) ?_
  show Go p.tables e below G (T2.setTop (mkF m 8 #[rv r0, iv (3 : Int32)] [(.int (3 : Int32)), (.ref r0)]))
  obtain ⟨cl3, Ar3, Sz3, -, Hs3⟩ := id I_r0
  have ib3 : 0 ≤ ((3 : Int32)).toInt ∧ ((3 : Int32)).toInt < ((4 : Nat) : Int) := (by decide)
  refine Go.stp (fun t k => X2.baloadBytes hx (j := (3 : Int32)) (v := (Value.int (f 3))) (by rw [e2]; exact Ar3.1) (State.isArrayOf_alike hZ.alike Ar3.2.1) Ar3.2.2 (in_of Sz3 ib3) (Hs3 3 (by decide)) (g := (mkF m 8 #[rv r0, iv (3 : Int32)] [(.int (3 : Int32)), (.ref r0)])) rfl rfl (hb hby d8_8) t k) ?_
  show Go p.tables e below G (T2.setTop (mkF m 9 #[rv r0, iv (3 : Int32)] [(.int (f 3))]))
  refine Go.stp (fun t k => XS.sipush X2.here hx rfl (hb hby d8_9) k) ?_
  show Go p.tables e below G (T2.setTop (mkF m 12 #[rv r0, iv (3 : Int32)] [(.int (255 : Int32)), (.int (f 3))]))
  refine Go.stp (fun t k => XS.iand X2.here hx rfl (hb hby d8_12) rfl k) ?_
  show Go p.tables e below G (T2.setTop (mkF m 13 #[rv r0, iv (3 : Int32)] [(.int ((f 3) &&& (255 : Int32)))]))
  refine Go.stp (fun t k => XS.i2c X2.here hx rfl (hb hby d8_13) rfl k) ?_
  show Go p.tables e below G (T2.setTop (mkF m 14 #[rv r0, iv (3 : Int32)] [(.int (((f 3) &&& (255 : Int32)).toUInt32.toUInt16.toUInt32.toInt32))]))
  obtain ⟨fs, hr, hrun, hended, hW, hsame⟩ := X2.leave (v := some (.int (nar .char (((f 3) &&& (255 : Int32)).toUInt32.toUInt16.toUInt32.toInt32)))) (fun h => by rw [Bd.returns] at h; cases h)
  refine ⟨_, _, retN X2 hx (t := .char) Bd.returns (by simp) (hb hby d8_14) hr, hrun, hended, hG _ _ _ ?_ ⟨⟨_, rfl⟩, hW, hsame.mono (by decide) (by decide)⟩⟩
  show Q8_4 Z r0 sf f h0 n0 _ T2.heap _
  rw [e2]
  exact ⟨rfl, N2, rfl⟩
theorem ef_6_4 (m : MethodId) (r0 : Addr) : entryFrame m #[(.ref r0), (.int (3 : Int32))] 2 = mkF m 0 #[rv r0, iv (3 : Int32)] [] := by first | (simp [entryFrame, mkF, argsToLocals, Value.category, iv, rv, lv, un, sd]; done) | rfl
def Q6_4 (Z : State) (r0 : Addr) (va : Addr) (kc : Int32) (sf : Value) (f : Nat → Int32) (h0 : Heap) (n0 : Nat) (v : Option Value) (h : Heap) (L : List Loc) : Prop := v = some (.int (nar .char (own_ch (f 3)))) ∧ Fr n0 L ∧ h = h0
set_option maxRecDepth 65536 in
set_option maxHeartbeats 40000000 in
theorem rm6_4 (l : Launch) (Z : State) (a0 : Array Value) (hw : ∀ d ∈ tables_1, d.before a0 Z = true) (ws : List Jvm.Cond) (r0 : Addr) (va : Addr) (kc : Int32) (sf : Value) (f : Nat → Int32) (h0 : Heap) (n0 : Nat) (Z0 : n0 ≤ h0.size) (S_cs : Sta Z h0 "java/lang/String" "COMPACT_STRINGS" "Z" (.int kc)) (hkc : ¬ kc = (0 : Int32)) (S_sf : Sta Z h0 "jdk/internal/util/Preconditions" "SIOOBE_FORMATTER" "Ljava/util/function/BiFunction;" sf) (hsf : sf.isRef = true) (E_r0 : Exa Z h0 r0 "java/lang/String") (Fv_r0 : Fld Z h0 r0 "java/lang/String" "value" "[B" (.ref va)) (Fc_r0 : Fld Z h0 r0 "java/lang/String" "coder" "B" (.int (0 : Int32))) (I_va : Ia Z h0 va .byte 4 Value.int f) :
    MetFree l (⟨"java/lang/String", "charAt", "(I)C"⟩ : MethodName) (head1 (Jvm.Cond.code (⟨"java/lang/String", "charAt", "(I)C"⟩ : MethodName) jdk_42_method_56_code 2 (some .char) :: ws) ({ frames := 3, cells := 0, slots := 0, locals := 40 } : Room)) (fun a U => a = #[(.ref r0), (.int (3 : Int32))] ∧ Z.Warmed39 U.vm ∧ U.heap = h0) (fun _ _ _ _ _ => True) (fun _ U o U' => ∃ v L, o = .returned v ∧ Q6_4 Z r0 va kc sf f h0 n0 v U'.heap L ∧ FrameEnd U o U' L ({ frames := 3, cells := 0, slots := 0, locals := 40 } : Room).cells ({ frames := 3, cells := 0, slots := 0, locals := 40 } : Room).slots) := by
  refine MetFree.of_bodySF (plainFor_of_name pn_5) hisR ?_
  intro p e s m args below meth c s₁ Bd hml0 hP hK
  obtain ⟨rfl, hZ, hh⟩ := hP
  have hx := Bd.exec
  have hby := Bd.bytes
  have hml : c.maxLocals = 2 := hml0
  have hown : s.vm.findClass "java/lang/String" = some m.cls := findClass_of_methodNamed Bd.named
  have hnm := (name_of_methodNamed Bd.named Bd.method).1
  have X0 : Stand p l e ({ frames := 3, cells := 0, slots := 0, locals := 40 } : Room) s m #[(.ref r0), (.int (3 : Int32))] below meth c s₁ [] 0 0 := Stand.of_body Bd
  have e0 : s₁.heap = h0 := by rw [← hh, Bd.state]; rfl
  have N0 := Fr.nil n0
  suffices HH : ∀ G : Outcome → State → Prop, (∀ v L U', Q6_4 Z r0 va kc sf f h0 n0 v U'.heap L → FrameEnd s (.returned v) U' L ({ frames := 3, cells := 0, slots := 0, locals := 40 } : Room).cells ({ frames := 3, cells := 0, slots := 0, locals := 40 } : Room).slots → G (.returned v) U') → Go p.tables e below G (s₁.setTop (mkF m 0 #[rv r0, iv (3 : Int32)] [])) by
    obtain ⟨s2, o, h1, h2, h3, h4⟩ := HH (fun o U' => ∃ v L, o = .returned v ∧ Q6_4 Z r0 va kc sf f h0 n0 v U'.heap L ∧ FrameEnd s o U' L ({ frames := 3, cells := 0, slots := 0, locals := 40 } : Room).cells ({ frames := 3, cells := 0, slots := 0, locals := 40 } : Room).slots) (fun v L U' q f => ⟨v, L, rfl, q, f⟩)
    exact ⟨s2, o, castTop (ef_6_4 m r0) h1, h2, h3, h4⟩
  intro G hG
  show Go p.tables e below G (s₁.setTop (mkF m 0 #[rv r0, iv (3 : Int32)] []))
  refine Go.stp (fun t k => XS.aloadN X0.here hx rfl (hb hby d6_0) rfl rfl k) ?_
  show Go p.tables e below G (s₁.setTop (mkF m 1 #[rv r0, iv (3 : Int32)] [(.ref r0)]))
  obtain ⟨cq1, kq1, q1a, q1b, q1c⟩ := isOf hZ e0 E_r0
  obtain ⟨_, _, ⟨T1, L1, k1, n1⟩, -, X1, ⟨Lc1, hQ1, l1, y1, z1⟩, st1⟩ := X0.virtualBack hx (y := (⟨"java/lang/String", "isLatin1", "()Z"⟩ : MethodName)) (z := (⟨"java/lang/String", "isLatin1", "()Z"⟩ : MethodName)) hown (mvT hZ (hw _ (List.mem_of_getElem? (i := 45) rfl))) (mvT hZ (hw _ (List.mem_of_getElem? (i := 46) rfl))) (notFace_of_selects (args := #[]) (mvT hZ (hw _ (List.mem_of_getElem? (i := 48) rfl)))) (mvT hZ (hw _ (List.mem_of_getElem? (i := 48) rfl))) (mvT hZ (hw _ (List.mem_of_getElem? (i := 47) rfl))) (by decide) (backOf (W := 0) (rm7 l Z a0 hw [] r0 kc h0 n0 Z0 S_cs hkc Fc_r0) hZ (hw _ (List.mem_of_getElem? (i := 49) rfl)) (hw _ (List.mem_of_getElem? (i := 28) rfl)) (by decide) (by decide)) q1a q1c (g := (mkF m 1 #[rv r0, iv (3 : Int32)] [(.ref r0)])) rfl (by rw [hml]; rfl) (Steps.refl _) (argsL := []) (rest := []) (lenOf pd_2 rfl) rfl (by show 2 * 0 + _ ≤ _; exact Nat.le_of_eq rfl) (hb hby d6_1) (fun _ _ => ⟨rfl, e0, (by decide : 0 + 0 ≤ _), (by decide : 0 + 0 ≤ _)⟩)
  dsimp only [Pt.U, Pt.locs, Pt.cells, Pt.slots] at X1 l1 y1 z1 st1 hQ1
  subst l1 y1 z1
  obtain ⟨rfl, Nq1, e1⟩ := hQ1
  have N1 := Fr.app N0 Nq1
  refine Go.stp (fun t k => st1.trans k) ?_
  show Go p.tables e below G (T1.setTop (mkF m 4 #[rv r0, iv (3 : Int32)] [(.int (1 : Int32))]))
  refine Go.stp (fun t k => XS.ifNo X1.here hx rfl (hb hby d6_4) rfl ((if0 _ _).trans (feq (by decide : ¬ ((1 : Int32) = (0 : Int32)))).1) k) ?_
  show Go p.tables e below G (T1.setTop (mkF m 7 #[rv r0, iv (3 : Int32)] []))
  refine Go.stp (fun t k => XS.aloadN X1.here hx rfl (hb hby d6_7) rfl rfl k) ?_
  show Go p.tables e below G (T1.setTop (mkF m 8 #[rv r0, iv (3 : Int32)] [(.ref r0)]))
  obtain ⟨T2, X2, e2, st2⟩ := getF X1 hx hZ hown (host := "") (Or.inl (hw _ (List.mem_of_getElem? (i := 30) rfl))) Via.refl e1 Fv_r0 (g := (mkF m 8 #[rv r0, iv (3 : Int32)] [(.ref r0)])) rfl rfl (hb hby d6_8)
  refine Go.stp (fun t k => st2 t k) ?_
  show Go p.tables e below G (T2.setTop (mkF m 11 #[rv r0, iv (3 : Int32)] [(.ref va)]))
  refine Go.stp (fun t k => XS.iloadN X2.here hx rfl (hb hby d6_11) rfl k) ?_
  show Go p.tables e below G (T2.setTop (mkF m 12 #[rv r0, iv (3 : Int32)] [(.int (3 : Int32)), (.ref va)]))
  obtain ⟨_, _, ⟨T3, L3, k3, n3⟩, -, X3, ⟨Lc3, hQ3, l3, y3, z3⟩, st3⟩ := Jvm.LawKit.callS X2 hx (y := (⟨"java/lang/StringLatin1", "charAt", "([BI)C"⟩ : MethodName)) hown (mvT hZ (hw _ (List.mem_of_getElem? (i := 50) rfl))) (mvT hZ (hw _ (List.mem_of_getElem? (i := 51) rfl))) (mvT hZ (hw _ (List.mem_of_getElem? (i := 52) rfl))) (mvT hZ (hw _ (List.mem_of_getElem? (i := 53) rfl))) (by decide) (backOf (W := 0) (rm8_4 l Z a0 hw [] va sf f h0 n0 Z0 S_sf hsf I_va) hZ (hw _ (List.mem_of_getElem? (i := 53) rfl)) (hw _ (List.mem_of_getElem? (i := 52) rfl)) (by decide) (by decide)) (g := (mkF m 12 #[rv r0, iv (3 : Int32)] [(.int (3 : Int32)), (.ref va)])) rfl (by rw [hml]; rfl) (argsL := [(.ref va), (.int (3 : Int32))]) (rest := []) (lenOf pd_3 rfl) rfl (by show 2 * 0 + _ ≤ _; exact Nat.le_of_eq rfl) (hb hby d6_12) (fun _ _ => ⟨rfl, e2, (by decide : 0 + 0 ≤ _), (by decide : 0 + 0 ≤ _)⟩)
  dsimp only [Pt.U, Pt.locs, Pt.cells, Pt.slots] at X3 l3 y3 z3 st3 hQ3
  subst l3 y3 z3
  obtain ⟨rfl, Nq3, e3⟩ := hQ3
  have N3 := Fr.app N1 Nq3
  refine Go.stp (fun t k => st3 t k) ?_
  show Go p.tables e below G (T3.setTop (mkF m 15 #[rv r0, iv (3 : Int32)] [(.int (own_ch (f 3)))]))
  obtain ⟨fs, hr, hrun, hended, hW, hsame⟩ := X3.leave (v := some (.int (nar .char (own_ch (f 3))))) (fun h => by rw [Bd.returns] at h; cases h)
  refine ⟨_, _, retN X3 hx (t := .char) Bd.returns (by simp) (hb hby d6_15) hr, hrun, hended, hG _ _ _ ?_ ⟨⟨_, rfl⟩, hW, hsame.mono (by decide) (by decide)⟩⟩
  show Q6_4 Z r0 va kc sf f h0 n0 _ T3.heap _
  rw [e3]
  exact ⟨rfl, N3, rfl⟩
theorem ef_4_4 (m : MethodId) (r0 : Addr) : entryFrame m #[(.ref r0)] 1 = mkF m 0 #[rv r0] [] := by first | (simp [entryFrame, mkF, argsToLocals, Value.category, iv, rv, lv, un, sd]; done) | rfl
def Q4_4 (Z : State) (r0 : Addr) (va : Addr) (kc : Int32) (f : Nat → Int32) (h0 : Heap) (n0 : Nat) (v : Option Value) (h : Heap) (L : List Loc) : Prop := v = some (.int (4 : Int32)) ∧ Fr n0 L ∧ h = h0
set_option maxRecDepth 65536 in
set_option maxHeartbeats 40000000 in
theorem rm4_4 (l : Launch) (Z : State) (a0 : Array Value) (hw : ∀ d ∈ tables_1, d.before a0 Z = true) (ws : List Jvm.Cond) (r0 : Addr) (va : Addr) (kc : Int32) (f : Nat → Int32) (h0 : Heap) (n0 : Nat) (Z0 : n0 ≤ h0.size) (S_cs : Sta Z h0 "java/lang/String" "COMPACT_STRINGS" "Z" (.int kc)) (hkc : ¬ kc = (0 : Int32)) (E_r0 : Exa Z h0 r0 "java/lang/String") (Fv_r0 : Fld Z h0 r0 "java/lang/String" "value" "[B" (.ref va)) (Fc_r0 : Fld Z h0 r0 "java/lang/String" "coder" "B" (.int (0 : Int32))) (I_va : Ia Z h0 va .byte 4 Value.int f) :
    MetFree l (⟨"java/lang/String", "length", "()I"⟩ : MethodName) (head1 (Jvm.Cond.code (⟨"java/lang/String", "length", "()I"⟩ : MethodName) jdk_42_method_54_code 1 (some .int) :: ws) ({ frames := 1, cells := 0, slots := 0, locals := 13 } : Room)) (fun a U => a = #[(.ref r0)] ∧ Z.Warmed39 U.vm ∧ U.heap = h0) (fun _ _ _ _ _ => True) (fun _ U o U' => ∃ v L, o = .returned v ∧ Q4_4 Z r0 va kc f h0 n0 v U'.heap L ∧ FrameEnd U o U' L ({ frames := 1, cells := 0, slots := 0, locals := 13 } : Room).cells ({ frames := 1, cells := 0, slots := 0, locals := 13 } : Room).slots) := by
  refine MetFree.of_bodySF (plainFor_of_name pn_5) hisR ?_
  intro p e s m args below meth c s₁ Bd hml0 hP hK
  obtain ⟨rfl, hZ, hh⟩ := hP
  have hx := Bd.exec
  have hby := Bd.bytes
  have hml : c.maxLocals = 1 := hml0
  have hown : s.vm.findClass "java/lang/String" = some m.cls := findClass_of_methodNamed Bd.named
  have hnm := (name_of_methodNamed Bd.named Bd.method).1
  have X0 : Stand p l e ({ frames := 1, cells := 0, slots := 0, locals := 13 } : Room) s m #[(.ref r0)] below meth c s₁ [] 0 0 := Stand.of_body Bd
  have e0 : s₁.heap = h0 := by rw [← hh, Bd.state]; rfl
  have N0 := Fr.nil n0
  suffices HH : ∀ G : Outcome → State → Prop, (∀ v L U', Q4_4 Z r0 va kc f h0 n0 v U'.heap L → FrameEnd s (.returned v) U' L ({ frames := 1, cells := 0, slots := 0, locals := 13 } : Room).cells ({ frames := 1, cells := 0, slots := 0, locals := 13 } : Room).slots → G (.returned v) U') → Go p.tables e below G (s₁.setTop (mkF m 0 #[rv r0] [])) by
    obtain ⟨s2, o, h1, h2, h3, h4⟩ := HH (fun o U' => ∃ v L, o = .returned v ∧ Q4_4 Z r0 va kc f h0 n0 v U'.heap L ∧ FrameEnd s o U' L ({ frames := 1, cells := 0, slots := 0, locals := 13 } : Room).cells ({ frames := 1, cells := 0, slots := 0, locals := 13 } : Room).slots) (fun v L U' q f => ⟨v, L, rfl, q, f⟩)
    exact ⟨s2, o, castTop (ef_4_4 m r0) h1, h2, h3, h4⟩
  intro G hG
  show Go p.tables e below G (s₁.setTop (mkF m 0 #[rv r0] []))
  refine Go.stp (fun t k => XS.aloadN X0.here hx rfl (hb hby d4_0) rfl rfl k) ?_
  show Go p.tables e below G (s₁.setTop (mkF m 1 #[rv r0] [(.ref r0)]))
  obtain ⟨T1, X1, e1, st1⟩ := getF X0 hx hZ hown (host := "") (Or.inl (hw _ (List.mem_of_getElem? (i := 30) rfl))) Via.refl e0 Fv_r0 (g := (mkF m 1 #[rv r0] [(.ref r0)])) rfl rfl (hb hby d4_1)
  refine Go.stp (fun t k => st1 t k) ?_
  show Go p.tables e below G (T1.setTop (mkF m 4 #[rv r0] [(.ref va)]))
  obtain ⟨cl2, Ar2, Sz2, -, -⟩ := id I_va
  refine Go.stp (fun t k => X1.arraylength hx (by rw [e1]; exact Ar2.1) (State.isArrayOf_alike hZ.alike Ar2.2.1) (g := (mkF m 4 #[rv r0] [(.ref va)])) rfl rfl (hb hby d4_4) t k) ?_
  rw [Sz2]
  show Go p.tables e below G (T1.setTop (mkF m 5 #[rv r0] [(.int (4 : Int32))]))
  refine Go.stp (fun t k => XS.aloadN X1.here hx rfl (hb hby d4_5) rfl rfl k) ?_
  show Go p.tables e below G (T1.setTop (mkF m 6 #[rv r0] [(.ref r0), (.int (4 : Int32))]))
  obtain ⟨cq3, kq3, q3a, q3b, q3c⟩ := isOf hZ e1 E_r0
  obtain ⟨_, _, ⟨T3, L3, k3, n3⟩, -, X3, ⟨Lc3, hQ3, l3, y3, z3⟩, st3⟩ := X1.virtualBack hx (y := (⟨"java/lang/String", "coder", "()B"⟩ : MethodName)) (z := (⟨"java/lang/String", "coder", "()B"⟩ : MethodName)) hown (mvT hZ (hw _ (List.mem_of_getElem? (i := 32) rfl))) (mvT hZ (hw _ (List.mem_of_getElem? (i := 33) rfl))) (notFace_of_selects (args := #[]) (mvT hZ (hw _ (List.mem_of_getElem? (i := 35) rfl)))) (mvT hZ (hw _ (List.mem_of_getElem? (i := 35) rfl))) (mvT hZ (hw _ (List.mem_of_getElem? (i := 34) rfl))) (by decide) (backOf (W := 1) (rm5 l Z a0 hw [] r0 kc h0 n0 Z0 S_cs hkc Fc_r0) hZ (hw _ (List.mem_of_getElem? (i := 36) rfl)) (hw _ (List.mem_of_getElem? (i := 28) rfl)) (by decide) (by decide)) q3a q3c (g := (mkF m 6 #[rv r0] [(.ref r0), (.int (4 : Int32))])) rfl (by rw [hml]; rfl) (Steps.refl _) (argsL := []) (rest := [(.int (4 : Int32))]) (lenOf pd_4 rfl) rfl (by show 2 * 0 + _ ≤ _; exact Nat.le_of_eq rfl) (hb hby d4_6) (fun _ _ => ⟨rfl, e1, (by decide : 0 + 0 ≤ _), (by decide : 0 + 0 ≤ _)⟩)
  dsimp only [Pt.U, Pt.locs, Pt.cells, Pt.slots] at X3 l3 y3 z3 st3 hQ3
  subst l3 y3 z3
  obtain ⟨rfl, Nq3, e3⟩ := hQ3
  have N3 := Fr.app N0 Nq3
  refine Go.stp (fun t k => st3.trans k) ?_
  show Go p.tables e below G (T3.setTop (mkF m 9 #[rv r0] [(.int (0 : Int32)), (.int (4 : Int32))]))
  refine Go.stp (fun t k => XS.ishr X3.here hx rfl (hb hby d4_9) rfl k) ?_
  show Go p.tables e below G (T3.setTop (mkF m 10 #[rv r0] [(.int ((4 : Int32) >>> ((0 : Int32) &&& 31)))]))
  obtain ⟨fs, hr, hrun, hended, hW, hsame⟩ := X3.leave (v := some (.int ((4 : Int32) >>> ((0 : Int32) &&& 31)))) (fun h => by rw [Bd.returns] at h; cases h)
  refine ⟨_, _, retI X3 hx Bd.returns (hb hby d4_10) hr, hrun, hended, hG _ _ _ ?_ ⟨⟨_, rfl⟩, hW, hsame.mono (by decide) (by decide)⟩⟩
  show Q4_4 Z r0 va kc f h0 n0 _ T3.heap _
  rw [e3]
  exact ⟨rfl, N3, rfl⟩
theorem pn_2 : plainName "com/example/stutter/stutter/eval/TemporalNode$Kind" = true := by first | (simp [plainName, overriddenIn]; done) | decide +kernel
theorem d2_0 : decode prog_103_method_6_code 0 = .ok (.aload_n 0, 1) := by decide +kernel
theorem d2_1 : decode prog_103_method_6_code 1 = .ok (.getstatic 16, 3) := by decide +kernel
theorem d2_4 : decode prog_103_method_6_code 4 = .ok (.if_acmp .eq 10, 3) := by decide +kernel
theorem d2_7 : decode prog_103_method_6_code 7 = .ok (.aload_n 0, 1) := by decide +kernel
theorem d2_8 : decode prog_103_method_6_code 8 = .ok (.getstatic 19, 3) := by decide +kernel
theorem d2_11 : decode prog_103_method_6_code 11 = .ok (.if_acmp .ne 7, 3) := by decide +kernel
theorem d2_14 : decode prog_103_method_6_code 14 = .ok (.iconst 1, 1) := by decide +kernel
theorem d2_15 : decode prog_103_method_6_code 15 = .ok (.goto 4, 3) := by decide +kernel
theorem d2_18 : decode prog_103_method_6_code 18 = .ok (.iconst 0, 1) := by decide +kernel
theorem d2_19 : decode prog_103_method_6_code 19 = .ok (.ireturn, 1) := by decide +kernel
theorem ef_2 (m : MethodId) (r0 : Addr) : entryFrame m #[(.ref r0)] 1 = mkF m 0 #[rv r0] [] := by first | (simp [entryFrame, mkF, argsToLocals, Value.category, iv, rv, lv, un, sd]; done) | rfl
def Q2 (Z : State) (r0 : Addr) (a4' : Addr) (a5' : Addr) (h0 : Heap) (n0 : Nat) (v : Option Value) (h : Heap) (L : List Loc) : Prop := v = some (.int (own_fair r0 a4' a5')) ∧ Fr n0 L ∧ h = h0
set_option maxRecDepth 65536 in
set_option maxHeartbeats 40000000 in
theorem rm2 (l : Launch) (Z : State) (a0 : Array Value) (hw : ∀ d ∈ tables_1, d.before a0 Z = true) (ws : List Jvm.Cond) (r0 : Addr) (a4' : Addr) (a5' : Addr) (h0 : Heap) (n0 : Nat) (Z0 : n0 ≤ h0.size) (S_a4' : Sta Z h0 "com/example/stutter/stutter/eval/TemporalNode$Kind" "WEAK_FAIRNESS" "Lcom/example/stutter/stutter/eval/TemporalNode$Kind;" (.ref a4')) (S_a5' : Sta Z h0 "com/example/stutter/stutter/eval/TemporalNode$Kind" "STRONG_FAIRNESS" "Lcom/example/stutter/stutter/eval/TemporalNode$Kind;" (.ref a5')) :
    MetFree l (⟨"com/example/stutter/stutter/eval/TemporalNode$Kind", "fairness", "()Z"⟩ : MethodName) (head1 (Jvm.Cond.code (⟨"com/example/stutter/stutter/eval/TemporalNode$Kind", "fairness", "()Z"⟩ : MethodName) prog_103_method_6_code 1 (some .boolean) :: ws) ({ frames := 0, cells := 0, slots := 0, locals := 0 } : Room)) (fun a U => a = #[(.ref r0)] ∧ Z.Warmed39 U.vm ∧ U.heap = h0) (fun _ _ _ _ _ => True) (fun _ U o U' => ∃ v L, o = .returned v ∧ Q2 Z r0 a4' a5' h0 n0 v U'.heap L ∧ FrameEnd U o U' L ({ frames := 0, cells := 0, slots := 0, locals := 0 } : Room).cells ({ frames := 0, cells := 0, slots := 0, locals := 0 } : Room).slots) := by
  refine MetFree.of_bodySF (plainFor_of_name pn_2) hisR ?_
  intro p e s m args below meth c s₁ Bd hml0 hP hK
  obtain ⟨rfl, hZ, hh⟩ := hP
  have hx := Bd.exec
  have hby := Bd.bytes
  have hml : c.maxLocals = 1 := hml0
  have hown : s.vm.findClass "com/example/stutter/stutter/eval/TemporalNode$Kind" = some m.cls := findClass_of_methodNamed Bd.named
  have hnm := (name_of_methodNamed Bd.named Bd.method).1
  have X0 : Stand p l e ({ frames := 0, cells := 0, slots := 0, locals := 0 } : Room) s m #[(.ref r0)] below meth c s₁ [] 0 0 := Stand.of_body Bd
  have e0 : s₁.heap = h0 := by rw [← hh, Bd.state]; rfl
  have N0 := Fr.nil n0
  suffices HH : ∀ G : Outcome → State → Prop, (∀ v L U', Q2 Z r0 a4' a5' h0 n0 v U'.heap L → FrameEnd s (.returned v) U' L ({ frames := 0, cells := 0, slots := 0, locals := 0 } : Room).cells ({ frames := 0, cells := 0, slots := 0, locals := 0 } : Room).slots → G (.returned v) U') → Go p.tables e below G (s₁.setTop (mkF m 0 #[rv r0] [])) by
    obtain ⟨s2, o, h1, h2, h3, h4⟩ := HH (fun o U' => ∃ v L, o = .returned v ∧ Q2 Z r0 a4' a5' h0 n0 v U'.heap L ∧ FrameEnd s o U' L ({ frames := 0, cells := 0, slots := 0, locals := 0 } : Room).cells ({ frames := 0, cells := 0, slots := 0, locals := 0 } : Room).slots) (fun v L U' q f => ⟨v, L, rfl, q, f⟩)
    exact ⟨s2, o, castTop (ef_2 m r0) h1, h2, h3, h4⟩
  intro G hG
  show Go p.tables e below G (s₁.setTop (mkF m 0 #[rv r0] []))
  refine Go.stp (fun t k => XS.aloadN X0.here hx rfl (hb hby d2_0) rfl rfl k) ?_
  show Go p.tables e below G (s₁.setTop (mkF m 1 #[rv r0] [(.ref r0)]))
  obtain ⟨T1, X1, e1, st1⟩ := getS2 X0 hx hZ hown (host := "") (Or.inl (hw _ (List.mem_of_getElem? (i := 13) rfl))) Via.refl e0 S_a4' (g := (mkF m 1 #[rv r0] [(.ref r0)])) rfl (hb hby d2_1)
  refine Go.stp (fun t k => st1 t k) ?_
  show Go p.tables e below G (T1.setTop (mkF m 4 #[rv r0] [(.ref a4'), (.ref r0)]))
  by_cases hc4 : r0 = a4'
  · refine Go.stp (fun t k => Jvm.RoadKit.acmp (g := (mkF m 4 #[rv r0] [(.ref a4'), (.ref r0)])) X1 hx rfl rfl rfl (pc0 := 4) (pc' := 14) (same := true) rfl (hb hby d2_4) rfl (decide_eq_true (congrArg Value.ref hc4)) (by decide) (by decide) k) ?_
    show Go p.tables e below G (T1.setTop (mkF m 14 #[rv r0] []))
    refine Go.stp (fun t k => XS.iconst X1.here hx rfl (hb hby d2_14) k) ?_
    show Go p.tables e below G (T1.setTop (mkF m 15 #[rv r0] [(.int (1 : Int32))]))
    refine Go.stp (fun t k => XS.goto X1.here hx rfl (pc0 := 15) (pc' := 19) rfl (hb hby d2_15) (by decide) (by decide) k) ?_
    show Go p.tables e below G (T1.setTop (mkF m 19 #[rv r0] [(.int (1 : Int32))]))
    obtain ⟨fs, hr, hrun, hended, hW, hsame⟩ := X1.leave (v := some (.int (1 : Int32))) (fun h => by rw [Bd.returns] at h; cases h)
    refine ⟨_, _, retN X1 hx (t := .boolean) Bd.returns (by simp) (hb hby d2_19) hr, hrun, hended, hG _ _ _ ?_ ⟨⟨_, rfl⟩, hW, hsame.mono (by decide) (by decide)⟩⟩
    show Q2 Z r0 a4' a5' h0 n0 _ T1.heap _
    rw [e1]
    exact ⟨by simp [own_fair, hc4], N0, rfl⟩
  · refine Go.stp (fun t k => Jvm.RoadKit.acmp (g := (mkF m 4 #[rv r0] [(.ref a4'), (.ref r0)])) X1 hx rfl rfl rfl (pc0 := 4) (pc' := 7) (same := false) rfl (hb hby d2_4) rfl (decide_eq_false (fun q => hc4 (Value.ref.inj q))) (by decide) (by decide) k) ?_
    show Go p.tables e below G (T1.setTop (mkF m 7 #[rv r0] []))
    refine Go.stp (fun t k => XS.aloadN X1.here hx rfl (hb hby d2_7) rfl rfl k) ?_
    show Go p.tables e below G (T1.setTop (mkF m 8 #[rv r0] [(.ref r0)]))
    obtain ⟨T2, X2, e2, st2⟩ := getS2 X1 hx hZ hown (host := "") (Or.inl (hw _ (List.mem_of_getElem? (i := 15) rfl))) Via.refl e1 S_a5' (g := (mkF m 8 #[rv r0] [(.ref r0)])) rfl (hb hby d2_8)
    refine Go.stp (fun t k => st2 t k) ?_
    show Go p.tables e below G (T2.setTop (mkF m 11 #[rv r0] [(.ref a5'), (.ref r0)]))
    by_cases hc11 : r0 = a5'
    · refine Go.stp (fun t k => Jvm.RoadKit.acmp (g := (mkF m 11 #[rv r0] [(.ref a5'), (.ref r0)])) X2 hx rfl rfl rfl (pc0 := 11) (pc' := 14) (same := true) rfl (hb hby d2_11) rfl (decide_eq_true (congrArg Value.ref hc11)) (by decide) (by decide) k) ?_
      show Go p.tables e below G (T2.setTop (mkF m 14 #[rv r0] []))
      refine Go.stp (fun t k => XS.iconst X2.here hx rfl (hb hby d2_14) k) ?_
      show Go p.tables e below G (T2.setTop (mkF m 15 #[rv r0] [(.int (1 : Int32))]))
      refine Go.stp (fun t k => XS.goto X2.here hx rfl (pc0 := 15) (pc' := 19) rfl (hb hby d2_15) (by decide) (by decide) k) ?_
      show Go p.tables e below G (T2.setTop (mkF m 19 #[rv r0] [(.int (1 : Int32))]))
      obtain ⟨fs, hr, hrun, hended, hW, hsame⟩ := X2.leave (v := some (.int (1 : Int32))) (fun h => by rw [Bd.returns] at h; cases h)
      refine ⟨_, _, retN X2 hx (t := .boolean) Bd.returns (by simp) (hb hby d2_19) hr, hrun, hended, hG _ _ _ ?_ ⟨⟨_, rfl⟩, hW, hsame.mono (by decide) (by decide)⟩⟩
      show Q2 Z r0 a4' a5' h0 n0 _ T2.heap _
      rw [e2]
      exact ⟨by simp [own_fair, hc4, hc11], N0, rfl⟩
    · refine Go.stp (fun t k => Jvm.RoadKit.acmp (g := (mkF m 11 #[rv r0] [(.ref a5'), (.ref r0)])) X2 hx rfl rfl rfl (pc0 := 11) (pc' := 18) (same := false) rfl (hb hby d2_11) rfl (decide_eq_false (fun q => hc11 (Value.ref.inj q))) (by decide) (by decide) k) ?_
      show Go p.tables e below G (T2.setTop (mkF m 18 #[rv r0] []))
      refine Go.stp (fun t k => XS.iconst X2.here hx rfl (hb hby d2_18) k) ?_
      show Go p.tables e below G (T2.setTop (mkF m 19 #[rv r0] [(.int (0 : Int32))]))
      obtain ⟨fs, hr, hrun, hended, hW, hsame⟩ := X2.leave (v := some (.int (0 : Int32))) (fun h => by rw [Bd.returns] at h; cases h)
      refine ⟨_, _, retN X2 hx (t := .boolean) Bd.returns (by simp) (hb hby d2_19) hr, hrun, hended, hG _ _ _ ?_ ⟨⟨_, rfl⟩, hW, hsame.mono (by decide) (by decide)⟩⟩
      show Q2 Z r0 a4' a5' h0 n0 _ T2.heap _
      rw [e2]
      exact ⟨by simp [own_fair, hc4, hc11], N0, rfl⟩
theorem d3_0 : decode prog_103_method_4_code 0 = .ok (.aload_n 0, 1) := by decide +kernel
theorem d3_1 : decode prog_103_method_4_code 1 = .ok (.getfield 41, 3) := by decide +kernel
theorem d3_4 : decode prog_103_method_4_code 4 = .ok (.areturn, 1) := by decide +kernel
theorem ef_3 (m : MethodId) (r0 : Addr) : entryFrame m #[(.ref r0)] 1 = mkF m 0 #[rv r0] [] := by first | (simp [entryFrame, mkF, argsToLocals, Value.category, iv, rv, lv, un, sd]; done) | rfl
def Q3 (Z : State) (r0 : Addr) (z : Addr) (h0 : Heap) (n0 : Nat) (v : Option Value) (h : Heap) (L : List Loc) : Prop := v = some (.ref z) ∧ Fr n0 L ∧ h = h0
set_option maxRecDepth 65536 in
set_option maxHeartbeats 40000000 in
theorem rm3 (l : Launch) (Z : State) (a0 : Array Value) (hw : ∀ d ∈ tables_1, d.before a0 Z = true) (ws : List Jvm.Cond) (r0 : Addr) (z : Addr) (h0 : Heap) (n0 : Nat) (Z0 : n0 ≤ h0.size) (F : Fld Z h0 r0 "com/example/stutter/stutter/eval/TemporalNode$Kind" "spelling" "Ljava/lang/String;" (.ref z)) :
    MetFree l (⟨"com/example/stutter/stutter/eval/TemporalNode$Kind", "spelling", "()Ljava/lang/String;"⟩ : MethodName) (head1 (Jvm.Cond.code (⟨"com/example/stutter/stutter/eval/TemporalNode$Kind", "spelling", "()Ljava/lang/String;"⟩ : MethodName) prog_103_method_4_code 1 (some (.object "java/lang/String")) :: ws) ({ frames := 0, cells := 0, slots := 0, locals := 0 } : Room)) (fun a U => a = #[(.ref r0)] ∧ Z.Warmed39 U.vm ∧ U.heap = h0) (fun _ _ _ _ _ => True) (fun _ U o U' => ∃ v L, o = .returned v ∧ Q3 Z r0 z h0 n0 v U'.heap L ∧ FrameEnd U o U' L ({ frames := 0, cells := 0, slots := 0, locals := 0 } : Room).cells ({ frames := 0, cells := 0, slots := 0, locals := 0 } : Room).slots) := by
  refine MetFree.of_bodySF (plainFor_of_name pn_2) hisR ?_
  intro p e s m args below meth c s₁ Bd hml0 hP hK
  obtain ⟨rfl, hZ, hh⟩ := hP
  have hx := Bd.exec
  have hby := Bd.bytes
  have hml : c.maxLocals = 1 := hml0
  have hown : s.vm.findClass "com/example/stutter/stutter/eval/TemporalNode$Kind" = some m.cls := findClass_of_methodNamed Bd.named
  have hnm := (name_of_methodNamed Bd.named Bd.method).1
  have X0 : Stand p l e ({ frames := 0, cells := 0, slots := 0, locals := 0 } : Room) s m #[(.ref r0)] below meth c s₁ [] 0 0 := Stand.of_body Bd
  have e0 : s₁.heap = h0 := by rw [← hh, Bd.state]; rfl
  have N0 := Fr.nil n0
  suffices HH : ∀ G : Outcome → State → Prop, (∀ v L U', Q3 Z r0 z h0 n0 v U'.heap L → FrameEnd s (.returned v) U' L ({ frames := 0, cells := 0, slots := 0, locals := 0 } : Room).cells ({ frames := 0, cells := 0, slots := 0, locals := 0 } : Room).slots → G (.returned v) U') → Go p.tables e below G (s₁.setTop (mkF m 0 #[rv r0] [])) by
    obtain ⟨s2, o, h1, h2, h3, h4⟩ := HH (fun o U' => ∃ v L, o = .returned v ∧ Q3 Z r0 z h0 n0 v U'.heap L ∧ FrameEnd s o U' L ({ frames := 0, cells := 0, slots := 0, locals := 0 } : Room).cells ({ frames := 0, cells := 0, slots := 0, locals := 0 } : Room).slots) (fun v L U' q f => ⟨v, L, rfl, q, f⟩)
    exact ⟨s2, o, castTop (ef_3 m r0) h1, h2, h3, h4⟩
  intro G hG
  show Go p.tables e below G (s₁.setTop (mkF m 0 #[rv r0] []))
  refine Go.stp (fun t k => XS.aloadN X0.here hx rfl (hb hby d3_0) rfl rfl k) ?_
  show Go p.tables e below G (s₁.setTop (mkF m 1 #[rv r0] [(.ref r0)]))
  obtain ⟨T1, X1, e1, st1⟩ := getF X0 hx hZ hown (host := "") (Or.inl (hw _ (List.mem_of_getElem? (i := 22) rfl))) Via.refl e0 F (g := (mkF m 1 #[rv r0] [(.ref r0)])) rfl rfl (hb hby d3_1)
  refine Go.stp (fun t k => st1 t k) ?_
  show Go p.tables e below G (T1.setTop (mkF m 4 #[rv r0] [(.ref z)]))
  obtain ⟨fs, hr, hrun, hended, hW, hsame⟩ := X1.leave (v := some (.ref z)) (fun h => by rw [Bd.returns] at h; cases h)
  refine ⟨_, _, retR X1 hx rfl rfl Bd.returns (hb hby d3_4) hr, hrun, hended, hG _ _ _ ?_ ⟨⟨_, rfl⟩, hW, hsame.mono (by decide) (by decide)⟩⟩
  show Q3 Z r0 z h0 n0 _ T1.heap _
  rw [e1]
  exact ⟨rfl, N0, rfl⟩
theorem pn_1 : plainName "com/example/stutter/stutter/eval/KindFairnessPinLaw" = true := by first | (simp [plainName, overriddenIn]; done) | decide +kernel
theorem d1_0 : decode method_3_code 0 = .ok (.iload_n 0, 1) := by decide +kernel
theorem d1_1 : decode method_3_code 1 = .ok (.ifCond .ne 10, 3) := by decide +kernel
theorem d1_4 : decode method_3_code 4 = .ok (.getstatic 34, 3) := by decide +kernel
theorem d1_7 : decode method_3_code 7 = .ok (.astore_n 1, 1) := by decide +kernel
theorem d1_8 : decode method_3_code 8 = .ok (.goto 55, 3) := by decide +kernel
theorem d1_63 : decode method_3_code 63 = .ok (.aload_n 1, 1) := by decide +kernel
theorem d1_64 : decode method_3_code 64 = .ok (.areturn, 1) := by decide +kernel
theorem ef_1_0 (m : MethodId)  : entryFrame m #[(.int (0 : Int32))] 2 = mkF m 0 #[iv (0 : Int32), un] [] := by first | (simp [entryFrame, mkF, argsToLocals, Value.category, iv, rv, lv, un, sd]; done) | rfl
def Q1_0 (Z : State) (a0' : Addr) (h0 : Heap) (n0 : Nat) (v : Option Value) (h : Heap) (L : List Loc) : Prop := v = some (.ref a0') ∧ Fr n0 L ∧ h = h0
set_option maxRecDepth 65536 in
set_option maxHeartbeats 40000000 in
theorem rm1_0 (l : Launch) (Z : State) (a0 : Array Value) (hw : ∀ d ∈ tables_1, d.before a0 Z = true) (ws : List Jvm.Cond) (a0' : Addr) (h0 : Heap) (n0 : Nat) (Z0 : n0 ≤ h0.size) (S_a0' : Sta Z h0 "com/example/stutter/stutter/eval/TemporalNode$Kind" "ALWAYS" "Lcom/example/stutter/stutter/eval/TemporalNode$Kind;" (.ref a0')) :
    MetFree l (⟨"com/example/stutter/stutter/eval/KindFairnessPinLaw", "kindAt", "(I)Lcom/example/stutter/stutter/eval/TemporalNode$Kind;"⟩ : MethodName) (head1 (Jvm.Cond.code (⟨"com/example/stutter/stutter/eval/KindFairnessPinLaw", "kindAt", "(I)Lcom/example/stutter/stutter/eval/TemporalNode$Kind;"⟩ : MethodName) method_3_code 2 (some (.object "com/example/stutter/stutter/eval/TemporalNode$Kind")) :: ws) ({ frames := 0, cells := 0, slots := 0, locals := 0 } : Room)) (fun a U => a = #[(.int (0 : Int32))] ∧ Z.Warmed39 U.vm ∧ U.heap = h0) (fun _ _ _ _ _ => True) (fun _ U o U' => ∃ v L, o = .returned v ∧ Q1_0 Z a0' h0 n0 v U'.heap L ∧ FrameEnd U o U' L ({ frames := 0, cells := 0, slots := 0, locals := 0 } : Room).cells ({ frames := 0, cells := 0, slots := 0, locals := 0 } : Room).slots) := by
  refine MetFree.of_bodySF (plainFor_of_name pn_1) hisR ?_
  intro p e s m args below meth c s₁ Bd hml0 hP hK
  obtain ⟨rfl, hZ, hh⟩ := hP
  have hx := Bd.exec
  have hby := Bd.bytes
  have hml : c.maxLocals = 2 := hml0
  have hown : s.vm.findClass "com/example/stutter/stutter/eval/KindFairnessPinLaw" = some m.cls := findClass_of_methodNamed Bd.named
  have hnm := (name_of_methodNamed Bd.named Bd.method).1
  have X0 : Stand p l e ({ frames := 0, cells := 0, slots := 0, locals := 0 } : Room) s m #[(.int (0 : Int32))] below meth c s₁ [] 0 0 := Stand.of_body Bd
  have e0 : s₁.heap = h0 := by rw [← hh, Bd.state]; rfl
  have N0 := Fr.nil n0
  suffices HH : ∀ G : Outcome → State → Prop, (∀ v L U', Q1_0 Z a0' h0 n0 v U'.heap L → FrameEnd s (.returned v) U' L ({ frames := 0, cells := 0, slots := 0, locals := 0 } : Room).cells ({ frames := 0, cells := 0, slots := 0, locals := 0 } : Room).slots → G (.returned v) U') → Go p.tables e below G (s₁.setTop (mkF m 0 #[iv (0 : Int32), un] [])) by
    obtain ⟨s2, o, h1, h2, h3, h4⟩ := HH (fun o U' => ∃ v L, o = .returned v ∧ Q1_0 Z a0' h0 n0 v U'.heap L ∧ FrameEnd s o U' L ({ frames := 0, cells := 0, slots := 0, locals := 0 } : Room).cells ({ frames := 0, cells := 0, slots := 0, locals := 0 } : Room).slots) (fun v L U' q f => ⟨v, L, rfl, q, f⟩)
    exact ⟨s2, o, castTop (ef_1_0 m ) h1, h2, h3, h4⟩
  intro G hG
  show Go p.tables e below G (s₁.setTop (mkF m 0 #[iv (0 : Int32), un] []))
  refine Go.stp (fun t k => XS.iloadN X0.here hx rfl (hb hby d1_0) rfl k) ?_
  show Go p.tables e below G (s₁.setTop (mkF m 1 #[iv (0 : Int32), un] [(.int (0 : Int32))]))
  refine Go.stp (fun t k => XS.ifNo X0.here hx rfl (hb hby d1_1) rfl ((if0 _ _).trans (teq (by decide : (0 : Int32) = (0 : Int32))).2) k) ?_
  show Go p.tables e below G (s₁.setTop (mkF m 4 #[iv (0 : Int32), un] []))
  obtain ⟨T1, X1, e1, st1⟩ := getS2 X0 hx hZ hown (host := "") (Or.inl (hw _ (List.mem_of_getElem? (i := 5) rfl))) Via.refl e0 S_a0' (g := (mkF m 4 #[iv (0 : Int32), un] [])) rfl (hb hby d1_4)
  refine Go.stp (fun t k => st1 t k) ?_
  show Go p.tables e below G (T1.setTop (mkF m 7 #[iv (0 : Int32), un] [(.ref a0')]))
  refine Go.stp (fun t k => XS.astoreN X1.here hx rfl (hb hby d1_7) rfl rfl (l' := #[iv (0 : Int32), rv a0']) rfl k) ?_
  show Go p.tables e below G (T1.setTop (mkF m 8 #[iv (0 : Int32), rv a0'] []))
  refine Go.stp (fun t k => XS.goto X1.here hx rfl (pc0 := 8) (pc' := 63) rfl (hb hby d1_8) (by decide) (by decide) k) ?_
  show Go p.tables e below G (T1.setTop (mkF m 63 #[iv (0 : Int32), rv a0'] []))
  refine Go.stp (fun t k => XS.aloadN X1.here hx rfl (hb hby d1_63) rfl rfl k) ?_
  show Go p.tables e below G (T1.setTop (mkF m 64 #[iv (0 : Int32), rv a0'] [(.ref a0')]))
  obtain ⟨fs, hr, hrun, hended, hW, hsame⟩ := X1.leave (v := some (.ref a0')) (fun h => by rw [Bd.returns] at h; cases h)
  refine ⟨_, _, retR X1 hx rfl rfl Bd.returns (hb hby d1_64) hr, hrun, hended, hG _ _ _ ?_ ⟨⟨_, rfl⟩, hW, hsame.mono (by decide) (by decide)⟩⟩
  show Q1_0 Z a0' h0 n0 _ T1.heap _
  rw [e1]
  exact ⟨rfl, N0, rfl⟩
theorem d1_11 : decode method_3_code 11 = .ok (.iload_n 0, 1) := by decide +kernel
theorem d1_12 : decode method_3_code 12 = .ok (.iconst 1, 1) := by decide +kernel
theorem d1_13 : decode method_3_code 13 = .ok (.if_icmp .ne 10, 3) := by decide +kernel
theorem d1_16 : decode method_3_code 16 = .ok (.getstatic 38, 3) := by decide +kernel
theorem d1_19 : decode method_3_code 19 = .ok (.astore_n 1, 1) := by decide +kernel
theorem d1_20 : decode method_3_code 20 = .ok (.goto 43, 3) := by decide +kernel
theorem ef_1_1 (m : MethodId)  : entryFrame m #[(.int (1 : Int32))] 2 = mkF m 0 #[iv (1 : Int32), un] [] := by first | (simp [entryFrame, mkF, argsToLocals, Value.category, iv, rv, lv, un, sd]; done) | rfl
def Q1_1 (Z : State) (a1' : Addr) (h0 : Heap) (n0 : Nat) (v : Option Value) (h : Heap) (L : List Loc) : Prop := v = some (.ref a1') ∧ Fr n0 L ∧ h = h0
set_option maxRecDepth 65536 in
set_option maxHeartbeats 40000000 in
theorem rm1_1 (l : Launch) (Z : State) (a0 : Array Value) (hw : ∀ d ∈ tables_1, d.before a0 Z = true) (ws : List Jvm.Cond) (a1' : Addr) (h0 : Heap) (n0 : Nat) (Z0 : n0 ≤ h0.size) (S_a1' : Sta Z h0 "com/example/stutter/stutter/eval/TemporalNode$Kind" "EVENTUALLY" "Lcom/example/stutter/stutter/eval/TemporalNode$Kind;" (.ref a1')) :
    MetFree l (⟨"com/example/stutter/stutter/eval/KindFairnessPinLaw", "kindAt", "(I)Lcom/example/stutter/stutter/eval/TemporalNode$Kind;"⟩ : MethodName) (head1 (Jvm.Cond.code (⟨"com/example/stutter/stutter/eval/KindFairnessPinLaw", "kindAt", "(I)Lcom/example/stutter/stutter/eval/TemporalNode$Kind;"⟩ : MethodName) method_3_code 2 (some (.object "com/example/stutter/stutter/eval/TemporalNode$Kind")) :: ws) ({ frames := 0, cells := 0, slots := 0, locals := 0 } : Room)) (fun a U => a = #[(.int (1 : Int32))] ∧ Z.Warmed39 U.vm ∧ U.heap = h0) (fun _ _ _ _ _ => True) (fun _ U o U' => ∃ v L, o = .returned v ∧ Q1_1 Z a1' h0 n0 v U'.heap L ∧ FrameEnd U o U' L ({ frames := 0, cells := 0, slots := 0, locals := 0 } : Room).cells ({ frames := 0, cells := 0, slots := 0, locals := 0 } : Room).slots) := by
  refine MetFree.of_bodySF (plainFor_of_name pn_1) hisR ?_
  intro p e s m args below meth c s₁ Bd hml0 hP hK
  obtain ⟨rfl, hZ, hh⟩ := hP
  have hx := Bd.exec
  have hby := Bd.bytes
  have hml : c.maxLocals = 2 := hml0
  have hown : s.vm.findClass "com/example/stutter/stutter/eval/KindFairnessPinLaw" = some m.cls := findClass_of_methodNamed Bd.named
  have hnm := (name_of_methodNamed Bd.named Bd.method).1
  have X0 : Stand p l e ({ frames := 0, cells := 0, slots := 0, locals := 0 } : Room) s m #[(.int (1 : Int32))] below meth c s₁ [] 0 0 := Stand.of_body Bd
  have e0 : s₁.heap = h0 := by rw [← hh, Bd.state]; rfl
  have N0 := Fr.nil n0
  suffices HH : ∀ G : Outcome → State → Prop, (∀ v L U', Q1_1 Z a1' h0 n0 v U'.heap L → FrameEnd s (.returned v) U' L ({ frames := 0, cells := 0, slots := 0, locals := 0 } : Room).cells ({ frames := 0, cells := 0, slots := 0, locals := 0 } : Room).slots → G (.returned v) U') → Go p.tables e below G (s₁.setTop (mkF m 0 #[iv (1 : Int32), un] [])) by
    obtain ⟨s2, o, h1, h2, h3, h4⟩ := HH (fun o U' => ∃ v L, o = .returned v ∧ Q1_1 Z a1' h0 n0 v U'.heap L ∧ FrameEnd s o U' L ({ frames := 0, cells := 0, slots := 0, locals := 0 } : Room).cells ({ frames := 0, cells := 0, slots := 0, locals := 0 } : Room).slots) (fun v L U' q f => ⟨v, L, rfl, q, f⟩)
    exact ⟨s2, o, castTop (ef_1_1 m ) h1, h2, h3, h4⟩
  intro G hG
  show Go p.tables e below G (s₁.setTop (mkF m 0 #[iv (1 : Int32), un] []))
  refine Go.stp (fun t k => XS.iloadN X0.here hx rfl (hb hby d1_0) rfl k) ?_
  show Go p.tables e below G (s₁.setTop (mkF m 1 #[iv (1 : Int32), un] [(.int (1 : Int32))]))
  refine Go.stp (fun t k => XS.ifYes X0.here hx rfl (pc0 := 1) (pc' := 11) rfl (hb hby d1_1) rfl ((if0 _ _).trans (feq (by decide : ¬ ((1 : Int32) = (0 : Int32)))).2) (by decide) (by decide) k) ?_
  show Go p.tables e below G (s₁.setTop (mkF m 11 #[iv (1 : Int32), un] []))
  refine Go.stp (fun t k => XS.iloadN X0.here hx rfl (hb hby d1_11) rfl k) ?_
  show Go p.tables e below G (s₁.setTop (mkF m 12 #[iv (1 : Int32), un] [(.int (1 : Int32))]))
  refine Go.stp (fun t k => XS.iconst X0.here hx rfl (hb hby d1_12) k) ?_
  show Go p.tables e below G (s₁.setTop (mkF m 13 #[iv (1 : Int32), un] [(.int (1 : Int32)), (.int (1 : Int32))]))
  refine Go.stp (fun t k => XS.icmpNo X0.here hx rfl (hb hby d1_13) rfl (teq (by decide : (1 : Int32) = (1 : Int32))).2 k) ?_
  show Go p.tables e below G (s₁.setTop (mkF m 16 #[iv (1 : Int32), un] []))
  obtain ⟨T1, X1, e1, st1⟩ := getS2 X0 hx hZ hown (host := "") (Or.inl (hw _ (List.mem_of_getElem? (i := 66) rfl))) Via.refl e0 S_a1' (g := (mkF m 16 #[iv (1 : Int32), un] [])) rfl (hb hby d1_16)
  refine Go.stp (fun t k => st1 t k) ?_
  show Go p.tables e below G (T1.setTop (mkF m 19 #[iv (1 : Int32), un] [(.ref a1')]))
  refine Go.stp (fun t k => XS.astoreN X1.here hx rfl (hb hby d1_19) rfl rfl (l' := #[iv (1 : Int32), rv a1']) rfl k) ?_
  show Go p.tables e below G (T1.setTop (mkF m 20 #[iv (1 : Int32), rv a1'] []))
  refine Go.stp (fun t k => XS.goto X1.here hx rfl (pc0 := 20) (pc' := 63) rfl (hb hby d1_20) (by decide) (by decide) k) ?_
  show Go p.tables e below G (T1.setTop (mkF m 63 #[iv (1 : Int32), rv a1'] []))
  refine Go.stp (fun t k => XS.aloadN X1.here hx rfl (hb hby d1_63) rfl rfl k) ?_
  show Go p.tables e below G (T1.setTop (mkF m 64 #[iv (1 : Int32), rv a1'] [(.ref a1')]))
  obtain ⟨fs, hr, hrun, hended, hW, hsame⟩ := X1.leave (v := some (.ref a1')) (fun h => by rw [Bd.returns] at h; cases h)
  refine ⟨_, _, retR X1 hx rfl rfl Bd.returns (hb hby d1_64) hr, hrun, hended, hG _ _ _ ?_ ⟨⟨_, rfl⟩, hW, hsame.mono (by decide) (by decide)⟩⟩
  show Q1_1 Z a1' h0 n0 _ T1.heap _
  rw [e1]
  exact ⟨rfl, N0, rfl⟩
theorem d1_23 : decode method_3_code 23 = .ok (.iload_n 0, 1) := by decide +kernel
theorem d1_24 : decode method_3_code 24 = .ok (.iconst 2, 1) := by decide +kernel
theorem d1_25 : decode method_3_code 25 = .ok (.if_icmp .ne 10, 3) := by decide +kernel
theorem d1_28 : decode method_3_code 28 = .ok (.getstatic 41, 3) := by decide +kernel
theorem d1_31 : decode method_3_code 31 = .ok (.astore_n 1, 1) := by decide +kernel
theorem d1_32 : decode method_3_code 32 = .ok (.goto 31, 3) := by decide +kernel
theorem ef_1_2 (m : MethodId)  : entryFrame m #[(.int (2 : Int32))] 2 = mkF m 0 #[iv (2 : Int32), un] [] := by first | (simp [entryFrame, mkF, argsToLocals, Value.category, iv, rv, lv, un, sd]; done) | rfl
def Q1_2 (Z : State) (a2' : Addr) (h0 : Heap) (n0 : Nat) (v : Option Value) (h : Heap) (L : List Loc) : Prop := v = some (.ref a2') ∧ Fr n0 L ∧ h = h0
set_option maxRecDepth 65536 in
set_option maxHeartbeats 40000000 in
theorem rm1_2 (l : Launch) (Z : State) (a0 : Array Value) (hw : ∀ d ∈ tables_1, d.before a0 Z = true) (ws : List Jvm.Cond) (a2' : Addr) (h0 : Heap) (n0 : Nat) (Z0 : n0 ≤ h0.size) (S_a2' : Sta Z h0 "com/example/stutter/stutter/eval/TemporalNode$Kind" "LEADS_TO" "Lcom/example/stutter/stutter/eval/TemporalNode$Kind;" (.ref a2')) :
    MetFree l (⟨"com/example/stutter/stutter/eval/KindFairnessPinLaw", "kindAt", "(I)Lcom/example/stutter/stutter/eval/TemporalNode$Kind;"⟩ : MethodName) (head1 (Jvm.Cond.code (⟨"com/example/stutter/stutter/eval/KindFairnessPinLaw", "kindAt", "(I)Lcom/example/stutter/stutter/eval/TemporalNode$Kind;"⟩ : MethodName) method_3_code 2 (some (.object "com/example/stutter/stutter/eval/TemporalNode$Kind")) :: ws) ({ frames := 0, cells := 0, slots := 0, locals := 0 } : Room)) (fun a U => a = #[(.int (2 : Int32))] ∧ Z.Warmed39 U.vm ∧ U.heap = h0) (fun _ _ _ _ _ => True) (fun _ U o U' => ∃ v L, o = .returned v ∧ Q1_2 Z a2' h0 n0 v U'.heap L ∧ FrameEnd U o U' L ({ frames := 0, cells := 0, slots := 0, locals := 0 } : Room).cells ({ frames := 0, cells := 0, slots := 0, locals := 0 } : Room).slots) := by
  refine MetFree.of_bodySF (plainFor_of_name pn_1) hisR ?_
  intro p e s m args below meth c s₁ Bd hml0 hP hK
  obtain ⟨rfl, hZ, hh⟩ := hP
  have hx := Bd.exec
  have hby := Bd.bytes
  have hml : c.maxLocals = 2 := hml0
  have hown : s.vm.findClass "com/example/stutter/stutter/eval/KindFairnessPinLaw" = some m.cls := findClass_of_methodNamed Bd.named
  have hnm := (name_of_methodNamed Bd.named Bd.method).1
  have X0 : Stand p l e ({ frames := 0, cells := 0, slots := 0, locals := 0 } : Room) s m #[(.int (2 : Int32))] below meth c s₁ [] 0 0 := Stand.of_body Bd
  have e0 : s₁.heap = h0 := by rw [← hh, Bd.state]; rfl
  have N0 := Fr.nil n0
  suffices HH : ∀ G : Outcome → State → Prop, (∀ v L U', Q1_2 Z a2' h0 n0 v U'.heap L → FrameEnd s (.returned v) U' L ({ frames := 0, cells := 0, slots := 0, locals := 0 } : Room).cells ({ frames := 0, cells := 0, slots := 0, locals := 0 } : Room).slots → G (.returned v) U') → Go p.tables e below G (s₁.setTop (mkF m 0 #[iv (2 : Int32), un] [])) by
    obtain ⟨s2, o, h1, h2, h3, h4⟩ := HH (fun o U' => ∃ v L, o = .returned v ∧ Q1_2 Z a2' h0 n0 v U'.heap L ∧ FrameEnd s o U' L ({ frames := 0, cells := 0, slots := 0, locals := 0 } : Room).cells ({ frames := 0, cells := 0, slots := 0, locals := 0 } : Room).slots) (fun v L U' q f => ⟨v, L, rfl, q, f⟩)
    exact ⟨s2, o, castTop (ef_1_2 m ) h1, h2, h3, h4⟩
  intro G hG
  show Go p.tables e below G (s₁.setTop (mkF m 0 #[iv (2 : Int32), un] []))
  refine Go.stp (fun t k => XS.iloadN X0.here hx rfl (hb hby d1_0) rfl k) ?_
  show Go p.tables e below G (s₁.setTop (mkF m 1 #[iv (2 : Int32), un] [(.int (2 : Int32))]))
  refine Go.stp (fun t k => XS.ifYes X0.here hx rfl (pc0 := 1) (pc' := 11) rfl (hb hby d1_1) rfl ((if0 _ _).trans (feq (by decide : ¬ ((2 : Int32) = (0 : Int32)))).2) (by decide) (by decide) k) ?_
  show Go p.tables e below G (s₁.setTop (mkF m 11 #[iv (2 : Int32), un] []))
  refine Go.stp (fun t k => XS.iloadN X0.here hx rfl (hb hby d1_11) rfl k) ?_
  show Go p.tables e below G (s₁.setTop (mkF m 12 #[iv (2 : Int32), un] [(.int (2 : Int32))]))
  refine Go.stp (fun t k => XS.iconst X0.here hx rfl (hb hby d1_12) k) ?_
  show Go p.tables e below G (s₁.setTop (mkF m 13 #[iv (2 : Int32), un] [(.int (1 : Int32)), (.int (2 : Int32))]))
  refine Go.stp (fun t k => XS.icmpYes X0.here hx rfl (pc0 := 13) (pc' := 23) rfl (hb hby d1_13) rfl (feq (by decide : ¬ ((2 : Int32) = (1 : Int32)))).2 (by decide) (by decide) k) ?_
  show Go p.tables e below G (s₁.setTop (mkF m 23 #[iv (2 : Int32), un] []))
  refine Go.stp (fun t k => XS.iloadN X0.here hx rfl (hb hby d1_23) rfl k) ?_
  show Go p.tables e below G (s₁.setTop (mkF m 24 #[iv (2 : Int32), un] [(.int (2 : Int32))]))
  refine Go.stp (fun t k => XS.iconst X0.here hx rfl (hb hby d1_24) k) ?_
  show Go p.tables e below G (s₁.setTop (mkF m 25 #[iv (2 : Int32), un] [(.int (2 : Int32)), (.int (2 : Int32))]))
  refine Go.stp (fun t k => XS.icmpNo X0.here hx rfl (hb hby d1_25) rfl (teq (by decide : (2 : Int32) = (2 : Int32))).2 k) ?_
  show Go p.tables e below G (s₁.setTop (mkF m 28 #[iv (2 : Int32), un] []))
  obtain ⟨T1, X1, e1, st1⟩ := getS2 X0 hx hZ hown (host := "") (Or.inl (hw _ (List.mem_of_getElem? (i := 64) rfl))) Via.refl e0 S_a2' (g := (mkF m 28 #[iv (2 : Int32), un] [])) rfl (hb hby d1_28)
  refine Go.stp (fun t k => st1 t k) ?_
  show Go p.tables e below G (T1.setTop (mkF m 31 #[iv (2 : Int32), un] [(.ref a2')]))
  refine Go.stp (fun t k => XS.astoreN X1.here hx rfl (hb hby d1_31) rfl rfl (l' := #[iv (2 : Int32), rv a2']) rfl k) ?_
  show Go p.tables e below G (T1.setTop (mkF m 32 #[iv (2 : Int32), rv a2'] []))
  refine Go.stp (fun t k => XS.goto X1.here hx rfl (pc0 := 32) (pc' := 63) rfl (hb hby d1_32) (by decide) (by decide) k) ?_
  show Go p.tables e below G (T1.setTop (mkF m 63 #[iv (2 : Int32), rv a2'] []))
  refine Go.stp (fun t k => XS.aloadN X1.here hx rfl (hb hby d1_63) rfl rfl k) ?_
  show Go p.tables e below G (T1.setTop (mkF m 64 #[iv (2 : Int32), rv a2'] [(.ref a2')]))
  obtain ⟨fs, hr, hrun, hended, hW, hsame⟩ := X1.leave (v := some (.ref a2')) (fun h => by rw [Bd.returns] at h; cases h)
  refine ⟨_, _, retR X1 hx rfl rfl Bd.returns (hb hby d1_64) hr, hrun, hended, hG _ _ _ ?_ ⟨⟨_, rfl⟩, hW, hsame.mono (by decide) (by decide)⟩⟩
  show Q1_2 Z a2' h0 n0 _ T1.heap _
  rw [e1]
  exact ⟨rfl, N0, rfl⟩
theorem d1_35 : decode method_3_code 35 = .ok (.iload_n 0, 1) := by decide +kernel
theorem d1_36 : decode method_3_code 36 = .ok (.iconst 3, 1) := by decide +kernel
theorem d1_37 : decode method_3_code 37 = .ok (.if_icmp .ne 10, 3) := by decide +kernel
theorem d1_40 : decode method_3_code 40 = .ok (.getstatic 44, 3) := by decide +kernel
theorem d1_43 : decode method_3_code 43 = .ok (.astore_n 1, 1) := by decide +kernel
theorem d1_44 : decode method_3_code 44 = .ok (.goto 19, 3) := by decide +kernel
theorem ef_1_3 (m : MethodId)  : entryFrame m #[(.int (3 : Int32))] 2 = mkF m 0 #[iv (3 : Int32), un] [] := by first | (simp [entryFrame, mkF, argsToLocals, Value.category, iv, rv, lv, un, sd]; done) | rfl
def Q1_3 (Z : State) (a3' : Addr) (h0 : Heap) (n0 : Nat) (v : Option Value) (h : Heap) (L : List Loc) : Prop := v = some (.ref a3') ∧ Fr n0 L ∧ h = h0
set_option maxRecDepth 65536 in
set_option maxHeartbeats 40000000 in
theorem rm1_3 (l : Launch) (Z : State) (a0 : Array Value) (hw : ∀ d ∈ tables_1, d.before a0 Z = true) (ws : List Jvm.Cond) (a3' : Addr) (h0 : Heap) (n0 : Nat) (Z0 : n0 ≤ h0.size) (S_a3' : Sta Z h0 "com/example/stutter/stutter/eval/TemporalNode$Kind" "PLUS_ARROW" "Lcom/example/stutter/stutter/eval/TemporalNode$Kind;" (.ref a3')) :
    MetFree l (⟨"com/example/stutter/stutter/eval/KindFairnessPinLaw", "kindAt", "(I)Lcom/example/stutter/stutter/eval/TemporalNode$Kind;"⟩ : MethodName) (head1 (Jvm.Cond.code (⟨"com/example/stutter/stutter/eval/KindFairnessPinLaw", "kindAt", "(I)Lcom/example/stutter/stutter/eval/TemporalNode$Kind;"⟩ : MethodName) method_3_code 2 (some (.object "com/example/stutter/stutter/eval/TemporalNode$Kind")) :: ws) ({ frames := 0, cells := 0, slots := 0, locals := 0 } : Room)) (fun a U => a = #[(.int (3 : Int32))] ∧ Z.Warmed39 U.vm ∧ U.heap = h0) (fun _ _ _ _ _ => True) (fun _ U o U' => ∃ v L, o = .returned v ∧ Q1_3 Z a3' h0 n0 v U'.heap L ∧ FrameEnd U o U' L ({ frames := 0, cells := 0, slots := 0, locals := 0 } : Room).cells ({ frames := 0, cells := 0, slots := 0, locals := 0 } : Room).slots) := by
  refine MetFree.of_bodySF (plainFor_of_name pn_1) hisR ?_
  intro p e s m args below meth c s₁ Bd hml0 hP hK
  obtain ⟨rfl, hZ, hh⟩ := hP
  have hx := Bd.exec
  have hby := Bd.bytes
  have hml : c.maxLocals = 2 := hml0
  have hown : s.vm.findClass "com/example/stutter/stutter/eval/KindFairnessPinLaw" = some m.cls := findClass_of_methodNamed Bd.named
  have hnm := (name_of_methodNamed Bd.named Bd.method).1
  have X0 : Stand p l e ({ frames := 0, cells := 0, slots := 0, locals := 0 } : Room) s m #[(.int (3 : Int32))] below meth c s₁ [] 0 0 := Stand.of_body Bd
  have e0 : s₁.heap = h0 := by rw [← hh, Bd.state]; rfl
  have N0 := Fr.nil n0
  suffices HH : ∀ G : Outcome → State → Prop, (∀ v L U', Q1_3 Z a3' h0 n0 v U'.heap L → FrameEnd s (.returned v) U' L ({ frames := 0, cells := 0, slots := 0, locals := 0 } : Room).cells ({ frames := 0, cells := 0, slots := 0, locals := 0 } : Room).slots → G (.returned v) U') → Go p.tables e below G (s₁.setTop (mkF m 0 #[iv (3 : Int32), un] [])) by
    obtain ⟨s2, o, h1, h2, h3, h4⟩ := HH (fun o U' => ∃ v L, o = .returned v ∧ Q1_3 Z a3' h0 n0 v U'.heap L ∧ FrameEnd s o U' L ({ frames := 0, cells := 0, slots := 0, locals := 0 } : Room).cells ({ frames := 0, cells := 0, slots := 0, locals := 0 } : Room).slots) (fun v L U' q f => ⟨v, L, rfl, q, f⟩)
    exact ⟨s2, o, castTop (ef_1_3 m ) h1, h2, h3, h4⟩
  intro G hG
  show Go p.tables e below G (s₁.setTop (mkF m 0 #[iv (3 : Int32), un] []))
  refine Go.stp (fun t k => XS.iloadN X0.here hx rfl (hb hby d1_0) rfl k) ?_
  show Go p.tables e below G (s₁.setTop (mkF m 1 #[iv (3 : Int32), un] [(.int (3 : Int32))]))
  refine Go.stp (fun t k => XS.ifYes X0.here hx rfl (pc0 := 1) (pc' := 11) rfl (hb hby d1_1) rfl ((if0 _ _).trans (feq (by decide : ¬ ((3 : Int32) = (0 : Int32)))).2) (by decide) (by decide) k) ?_
  show Go p.tables e below G (s₁.setTop (mkF m 11 #[iv (3 : Int32), un] []))
  refine Go.stp (fun t k => XS.iloadN X0.here hx rfl (hb hby d1_11) rfl k) ?_
  show Go p.tables e below G (s₁.setTop (mkF m 12 #[iv (3 : Int32), un] [(.int (3 : Int32))]))
  refine Go.stp (fun t k => XS.iconst X0.here hx rfl (hb hby d1_12) k) ?_
  show Go p.tables e below G (s₁.setTop (mkF m 13 #[iv (3 : Int32), un] [(.int (1 : Int32)), (.int (3 : Int32))]))
  refine Go.stp (fun t k => XS.icmpYes X0.here hx rfl (pc0 := 13) (pc' := 23) rfl (hb hby d1_13) rfl (feq (by decide : ¬ ((3 : Int32) = (1 : Int32)))).2 (by decide) (by decide) k) ?_
  show Go p.tables e below G (s₁.setTop (mkF m 23 #[iv (3 : Int32), un] []))
  refine Go.stp (fun t k => XS.iloadN X0.here hx rfl (hb hby d1_23) rfl k) ?_
  show Go p.tables e below G (s₁.setTop (mkF m 24 #[iv (3 : Int32), un] [(.int (3 : Int32))]))
  refine Go.stp (fun t k => XS.iconst X0.here hx rfl (hb hby d1_24) k) ?_
  show Go p.tables e below G (s₁.setTop (mkF m 25 #[iv (3 : Int32), un] [(.int (2 : Int32)), (.int (3 : Int32))]))
  refine Go.stp (fun t k => XS.icmpYes X0.here hx rfl (pc0 := 25) (pc' := 35) rfl (hb hby d1_25) rfl (feq (by decide : ¬ ((3 : Int32) = (2 : Int32)))).2 (by decide) (by decide) k) ?_
  show Go p.tables e below G (s₁.setTop (mkF m 35 #[iv (3 : Int32), un] []))
  refine Go.stp (fun t k => XS.iloadN X0.here hx rfl (hb hby d1_35) rfl k) ?_
  show Go p.tables e below G (s₁.setTop (mkF m 36 #[iv (3 : Int32), un] [(.int (3 : Int32))]))
  refine Go.stp (fun t k => XS.iconst X0.here hx rfl (hb hby d1_36) k) ?_
  show Go p.tables e below G (s₁.setTop (mkF m 37 #[iv (3 : Int32), un] [(.int (3 : Int32)), (.int (3 : Int32))]))
  refine Go.stp (fun t k => XS.icmpNo X0.here hx rfl (hb hby d1_37) rfl (teq (by decide : (3 : Int32) = (3 : Int32))).2 k) ?_
  show Go p.tables e below G (s₁.setTop (mkF m 40 #[iv (3 : Int32), un] []))
  obtain ⟨T1, X1, e1, st1⟩ := getS2 X0 hx hZ hown (host := "") (Or.inl (hw _ (List.mem_of_getElem? (i := 62) rfl))) Via.refl e0 S_a3' (g := (mkF m 40 #[iv (3 : Int32), un] [])) rfl (hb hby d1_40)
  refine Go.stp (fun t k => st1 t k) ?_
  show Go p.tables e below G (T1.setTop (mkF m 43 #[iv (3 : Int32), un] [(.ref a3')]))
  refine Go.stp (fun t k => XS.astoreN X1.here hx rfl (hb hby d1_43) rfl rfl (l' := #[iv (3 : Int32), rv a3']) rfl k) ?_
  show Go p.tables e below G (T1.setTop (mkF m 44 #[iv (3 : Int32), rv a3'] []))
  refine Go.stp (fun t k => XS.goto X1.here hx rfl (pc0 := 44) (pc' := 63) rfl (hb hby d1_44) (by decide) (by decide) k) ?_
  show Go p.tables e below G (T1.setTop (mkF m 63 #[iv (3 : Int32), rv a3'] []))
  refine Go.stp (fun t k => XS.aloadN X1.here hx rfl (hb hby d1_63) rfl rfl k) ?_
  show Go p.tables e below G (T1.setTop (mkF m 64 #[iv (3 : Int32), rv a3'] [(.ref a3')]))
  obtain ⟨fs, hr, hrun, hended, hW, hsame⟩ := X1.leave (v := some (.ref a3')) (fun h => by rw [Bd.returns] at h; cases h)
  refine ⟨_, _, retR X1 hx rfl rfl Bd.returns (hb hby d1_64) hr, hrun, hended, hG _ _ _ ?_ ⟨⟨_, rfl⟩, hW, hsame.mono (by decide) (by decide)⟩⟩
  show Q1_3 Z a3' h0 n0 _ T1.heap _
  rw [e1]
  exact ⟨rfl, N0, rfl⟩
theorem d1_47 : decode method_3_code 47 = .ok (.iload_n 0, 1) := by decide +kernel
theorem d1_48 : decode method_3_code 48 = .ok (.iconst 4, 1) := by decide +kernel
theorem d1_49 : decode method_3_code 49 = .ok (.if_icmp .ne 10, 3) := by decide +kernel
theorem d1_52 : decode method_3_code 52 = .ok (.getstatic 47, 3) := by decide +kernel
theorem d1_55 : decode method_3_code 55 = .ok (.astore_n 1, 1) := by decide +kernel
theorem d1_56 : decode method_3_code 56 = .ok (.goto 7, 3) := by decide +kernel
theorem ef_1_4 (m : MethodId)  : entryFrame m #[(.int (4 : Int32))] 2 = mkF m 0 #[iv (4 : Int32), un] [] := by first | (simp [entryFrame, mkF, argsToLocals, Value.category, iv, rv, lv, un, sd]; done) | rfl
def Q1_4 (Z : State) (a4' : Addr) (h0 : Heap) (n0 : Nat) (v : Option Value) (h : Heap) (L : List Loc) : Prop := v = some (.ref a4') ∧ Fr n0 L ∧ h = h0
set_option maxRecDepth 65536 in
set_option maxHeartbeats 40000000 in
theorem rm1_4 (l : Launch) (Z : State) (a0 : Array Value) (hw : ∀ d ∈ tables_1, d.before a0 Z = true) (ws : List Jvm.Cond) (a4' : Addr) (h0 : Heap) (n0 : Nat) (Z0 : n0 ≤ h0.size) (S_a4' : Sta Z h0 "com/example/stutter/stutter/eval/TemporalNode$Kind" "WEAK_FAIRNESS" "Lcom/example/stutter/stutter/eval/TemporalNode$Kind;" (.ref a4')) :
    MetFree l (⟨"com/example/stutter/stutter/eval/KindFairnessPinLaw", "kindAt", "(I)Lcom/example/stutter/stutter/eval/TemporalNode$Kind;"⟩ : MethodName) (head1 (Jvm.Cond.code (⟨"com/example/stutter/stutter/eval/KindFairnessPinLaw", "kindAt", "(I)Lcom/example/stutter/stutter/eval/TemporalNode$Kind;"⟩ : MethodName) method_3_code 2 (some (.object "com/example/stutter/stutter/eval/TemporalNode$Kind")) :: ws) ({ frames := 0, cells := 0, slots := 0, locals := 0 } : Room)) (fun a U => a = #[(.int (4 : Int32))] ∧ Z.Warmed39 U.vm ∧ U.heap = h0) (fun _ _ _ _ _ => True) (fun _ U o U' => ∃ v L, o = .returned v ∧ Q1_4 Z a4' h0 n0 v U'.heap L ∧ FrameEnd U o U' L ({ frames := 0, cells := 0, slots := 0, locals := 0 } : Room).cells ({ frames := 0, cells := 0, slots := 0, locals := 0 } : Room).slots) := by
  refine MetFree.of_bodySF (plainFor_of_name pn_1) hisR ?_
  intro p e s m args below meth c s₁ Bd hml0 hP hK
  obtain ⟨rfl, hZ, hh⟩ := hP
  have hx := Bd.exec
  have hby := Bd.bytes
  have hml : c.maxLocals = 2 := hml0
  have hown : s.vm.findClass "com/example/stutter/stutter/eval/KindFairnessPinLaw" = some m.cls := findClass_of_methodNamed Bd.named
  have hnm := (name_of_methodNamed Bd.named Bd.method).1
  have X0 : Stand p l e ({ frames := 0, cells := 0, slots := 0, locals := 0 } : Room) s m #[(.int (4 : Int32))] below meth c s₁ [] 0 0 := Stand.of_body Bd
  have e0 : s₁.heap = h0 := by rw [← hh, Bd.state]; rfl
  have N0 := Fr.nil n0
  suffices HH : ∀ G : Outcome → State → Prop, (∀ v L U', Q1_4 Z a4' h0 n0 v U'.heap L → FrameEnd s (.returned v) U' L ({ frames := 0, cells := 0, slots := 0, locals := 0 } : Room).cells ({ frames := 0, cells := 0, slots := 0, locals := 0 } : Room).slots → G (.returned v) U') → Go p.tables e below G (s₁.setTop (mkF m 0 #[iv (4 : Int32), un] [])) by
    obtain ⟨s2, o, h1, h2, h3, h4⟩ := HH (fun o U' => ∃ v L, o = .returned v ∧ Q1_4 Z a4' h0 n0 v U'.heap L ∧ FrameEnd s o U' L ({ frames := 0, cells := 0, slots := 0, locals := 0 } : Room).cells ({ frames := 0, cells := 0, slots := 0, locals := 0 } : Room).slots) (fun v L U' q f => ⟨v, L, rfl, q, f⟩)
    exact ⟨s2, o, castTop (ef_1_4 m ) h1, h2, h3, h4⟩
  intro G hG
  show Go p.tables e below G (s₁.setTop (mkF m 0 #[iv (4 : Int32), un] []))
  refine Go.stp (fun t k => XS.iloadN X0.here hx rfl (hb hby d1_0) rfl k) ?_
  show Go p.tables e below G (s₁.setTop (mkF m 1 #[iv (4 : Int32), un] [(.int (4 : Int32))]))
  refine Go.stp (fun t k => XS.ifYes X0.here hx rfl (pc0 := 1) (pc' := 11) rfl (hb hby d1_1) rfl ((if0 _ _).trans (feq (by decide : ¬ ((4 : Int32) = (0 : Int32)))).2) (by decide) (by decide) k) ?_
  show Go p.tables e below G (s₁.setTop (mkF m 11 #[iv (4 : Int32), un] []))
  refine Go.stp (fun t k => XS.iloadN X0.here hx rfl (hb hby d1_11) rfl k) ?_
  show Go p.tables e below G (s₁.setTop (mkF m 12 #[iv (4 : Int32), un] [(.int (4 : Int32))]))
  refine Go.stp (fun t k => XS.iconst X0.here hx rfl (hb hby d1_12) k) ?_
  show Go p.tables e below G (s₁.setTop (mkF m 13 #[iv (4 : Int32), un] [(.int (1 : Int32)), (.int (4 : Int32))]))
  refine Go.stp (fun t k => XS.icmpYes X0.here hx rfl (pc0 := 13) (pc' := 23) rfl (hb hby d1_13) rfl (feq (by decide : ¬ ((4 : Int32) = (1 : Int32)))).2 (by decide) (by decide) k) ?_
  show Go p.tables e below G (s₁.setTop (mkF m 23 #[iv (4 : Int32), un] []))
  refine Go.stp (fun t k => XS.iloadN X0.here hx rfl (hb hby d1_23) rfl k) ?_
  show Go p.tables e below G (s₁.setTop (mkF m 24 #[iv (4 : Int32), un] [(.int (4 : Int32))]))
  refine Go.stp (fun t k => XS.iconst X0.here hx rfl (hb hby d1_24) k) ?_
  show Go p.tables e below G (s₁.setTop (mkF m 25 #[iv (4 : Int32), un] [(.int (2 : Int32)), (.int (4 : Int32))]))
  refine Go.stp (fun t k => XS.icmpYes X0.here hx rfl (pc0 := 25) (pc' := 35) rfl (hb hby d1_25) rfl (feq (by decide : ¬ ((4 : Int32) = (2 : Int32)))).2 (by decide) (by decide) k) ?_
  show Go p.tables e below G (s₁.setTop (mkF m 35 #[iv (4 : Int32), un] []))
  refine Go.stp (fun t k => XS.iloadN X0.here hx rfl (hb hby d1_35) rfl k) ?_
  show Go p.tables e below G (s₁.setTop (mkF m 36 #[iv (4 : Int32), un] [(.int (4 : Int32))]))
  refine Go.stp (fun t k => XS.iconst X0.here hx rfl (hb hby d1_36) k) ?_
  show Go p.tables e below G (s₁.setTop (mkF m 37 #[iv (4 : Int32), un] [(.int (3 : Int32)), (.int (4 : Int32))]))
  refine Go.stp (fun t k => XS.icmpYes X0.here hx rfl (pc0 := 37) (pc' := 47) rfl (hb hby d1_37) rfl (feq (by decide : ¬ ((4 : Int32) = (3 : Int32)))).2 (by decide) (by decide) k) ?_
  show Go p.tables e below G (s₁.setTop (mkF m 47 #[iv (4 : Int32), un] []))
  refine Go.stp (fun t k => XS.iloadN X0.here hx rfl (hb hby d1_47) rfl k) ?_
  show Go p.tables e below G (s₁.setTop (mkF m 48 #[iv (4 : Int32), un] [(.int (4 : Int32))]))
  refine Go.stp (fun t k => XS.iconst X0.here hx rfl (hb hby d1_48) k) ?_
  show Go p.tables e below G (s₁.setTop (mkF m 49 #[iv (4 : Int32), un] [(.int (4 : Int32)), (.int (4 : Int32))]))
  refine Go.stp (fun t k => XS.icmpNo X0.here hx rfl (hb hby d1_49) rfl (teq (by decide : (4 : Int32) = (4 : Int32))).2 k) ?_
  show Go p.tables e below G (s₁.setTop (mkF m 52 #[iv (4 : Int32), un] []))
  obtain ⟨T1, X1, e1, st1⟩ := getS2 X0 hx hZ hown (host := "") (Or.inl (hw _ (List.mem_of_getElem? (i := 69) rfl))) Via.refl e0 S_a4' (g := (mkF m 52 #[iv (4 : Int32), un] [])) rfl (hb hby d1_52)
  refine Go.stp (fun t k => st1 t k) ?_
  show Go p.tables e below G (T1.setTop (mkF m 55 #[iv (4 : Int32), un] [(.ref a4')]))
  refine Go.stp (fun t k => XS.astoreN X1.here hx rfl (hb hby d1_55) rfl rfl (l' := #[iv (4 : Int32), rv a4']) rfl k) ?_
  show Go p.tables e below G (T1.setTop (mkF m 56 #[iv (4 : Int32), rv a4'] []))
  refine Go.stp (fun t k => XS.goto X1.here hx rfl (pc0 := 56) (pc' := 63) rfl (hb hby d1_56) (by decide) (by decide) k) ?_
  show Go p.tables e below G (T1.setTop (mkF m 63 #[iv (4 : Int32), rv a4'] []))
  refine Go.stp (fun t k => XS.aloadN X1.here hx rfl (hb hby d1_63) rfl rfl k) ?_
  show Go p.tables e below G (T1.setTop (mkF m 64 #[iv (4 : Int32), rv a4'] [(.ref a4')]))
  obtain ⟨fs, hr, hrun, hended, hW, hsame⟩ := X1.leave (v := some (.ref a4')) (fun h => by rw [Bd.returns] at h; cases h)
  refine ⟨_, _, retR X1 hx rfl rfl Bd.returns (hb hby d1_64) hr, hrun, hended, hG _ _ _ ?_ ⟨⟨_, rfl⟩, hW, hsame.mono (by decide) (by decide)⟩⟩
  show Q1_4 Z a4' h0 n0 _ T1.heap _
  rw [e1]
  exact ⟨rfl, N0, rfl⟩
theorem d1_59 : decode method_3_code 59 = .ok (.getstatic 50, 3) := by decide +kernel
theorem d1_62 : decode method_3_code 62 = .ok (.astore_n 1, 1) := by decide +kernel
theorem ef_1_5 (m : MethodId)  : entryFrame m #[(.int (5 : Int32))] 2 = mkF m 0 #[iv (5 : Int32), un] [] := by first | (simp [entryFrame, mkF, argsToLocals, Value.category, iv, rv, lv, un, sd]; done) | rfl
def Q1_5 (Z : State) (a5' : Addr) (h0 : Heap) (n0 : Nat) (v : Option Value) (h : Heap) (L : List Loc) : Prop := v = some (.ref a5') ∧ Fr n0 L ∧ h = h0
set_option maxRecDepth 65536 in
set_option maxHeartbeats 40000000 in
theorem rm1_5 (l : Launch) (Z : State) (a0 : Array Value) (hw : ∀ d ∈ tables_1, d.before a0 Z = true) (ws : List Jvm.Cond) (a5' : Addr) (h0 : Heap) (n0 : Nat) (Z0 : n0 ≤ h0.size) (S_a5' : Sta Z h0 "com/example/stutter/stutter/eval/TemporalNode$Kind" "STRONG_FAIRNESS" "Lcom/example/stutter/stutter/eval/TemporalNode$Kind;" (.ref a5')) :
    MetFree l (⟨"com/example/stutter/stutter/eval/KindFairnessPinLaw", "kindAt", "(I)Lcom/example/stutter/stutter/eval/TemporalNode$Kind;"⟩ : MethodName) (head1 (Jvm.Cond.code (⟨"com/example/stutter/stutter/eval/KindFairnessPinLaw", "kindAt", "(I)Lcom/example/stutter/stutter/eval/TemporalNode$Kind;"⟩ : MethodName) method_3_code 2 (some (.object "com/example/stutter/stutter/eval/TemporalNode$Kind")) :: ws) ({ frames := 0, cells := 0, slots := 0, locals := 0 } : Room)) (fun a U => a = #[(.int (5 : Int32))] ∧ Z.Warmed39 U.vm ∧ U.heap = h0) (fun _ _ _ _ _ => True) (fun _ U o U' => ∃ v L, o = .returned v ∧ Q1_5 Z a5' h0 n0 v U'.heap L ∧ FrameEnd U o U' L ({ frames := 0, cells := 0, slots := 0, locals := 0 } : Room).cells ({ frames := 0, cells := 0, slots := 0, locals := 0 } : Room).slots) := by
  refine MetFree.of_bodySF (plainFor_of_name pn_1) hisR ?_
  intro p e s m args below meth c s₁ Bd hml0 hP hK
  obtain ⟨rfl, hZ, hh⟩ := hP
  have hx := Bd.exec
  have hby := Bd.bytes
  have hml : c.maxLocals = 2 := hml0
  have hown : s.vm.findClass "com/example/stutter/stutter/eval/KindFairnessPinLaw" = some m.cls := findClass_of_methodNamed Bd.named
  have hnm := (name_of_methodNamed Bd.named Bd.method).1
  have X0 : Stand p l e ({ frames := 0, cells := 0, slots := 0, locals := 0 } : Room) s m #[(.int (5 : Int32))] below meth c s₁ [] 0 0 := Stand.of_body Bd
  have e0 : s₁.heap = h0 := by rw [← hh, Bd.state]; rfl
  have N0 := Fr.nil n0
  suffices HH : ∀ G : Outcome → State → Prop, (∀ v L U', Q1_5 Z a5' h0 n0 v U'.heap L → FrameEnd s (.returned v) U' L ({ frames := 0, cells := 0, slots := 0, locals := 0 } : Room).cells ({ frames := 0, cells := 0, slots := 0, locals := 0 } : Room).slots → G (.returned v) U') → Go p.tables e below G (s₁.setTop (mkF m 0 #[iv (5 : Int32), un] [])) by
    obtain ⟨s2, o, h1, h2, h3, h4⟩ := HH (fun o U' => ∃ v L, o = .returned v ∧ Q1_5 Z a5' h0 n0 v U'.heap L ∧ FrameEnd s o U' L ({ frames := 0, cells := 0, slots := 0, locals := 0 } : Room).cells ({ frames := 0, cells := 0, slots := 0, locals := 0 } : Room).slots) (fun v L U' q f => ⟨v, L, rfl, q, f⟩)
    exact ⟨s2, o, castTop (ef_1_5 m ) h1, h2, h3, h4⟩
  intro G hG
  show Go p.tables e below G (s₁.setTop (mkF m 0 #[iv (5 : Int32), un] []))
  refine Go.stp (fun t k => XS.iloadN X0.here hx rfl (hb hby d1_0) rfl k) ?_
  show Go p.tables e below G (s₁.setTop (mkF m 1 #[iv (5 : Int32), un] [(.int (5 : Int32))]))
  refine Go.stp (fun t k => XS.ifYes X0.here hx rfl (pc0 := 1) (pc' := 11) rfl (hb hby d1_1) rfl ((if0 _ _).trans (feq (by decide : ¬ ((5 : Int32) = (0 : Int32)))).2) (by decide) (by decide) k) ?_
  show Go p.tables e below G (s₁.setTop (mkF m 11 #[iv (5 : Int32), un] []))
  refine Go.stp (fun t k => XS.iloadN X0.here hx rfl (hb hby d1_11) rfl k) ?_
  show Go p.tables e below G (s₁.setTop (mkF m 12 #[iv (5 : Int32), un] [(.int (5 : Int32))]))
  refine Go.stp (fun t k => XS.iconst X0.here hx rfl (hb hby d1_12) k) ?_
  show Go p.tables e below G (s₁.setTop (mkF m 13 #[iv (5 : Int32), un] [(.int (1 : Int32)), (.int (5 : Int32))]))
  refine Go.stp (fun t k => XS.icmpYes X0.here hx rfl (pc0 := 13) (pc' := 23) rfl (hb hby d1_13) rfl (feq (by decide : ¬ ((5 : Int32) = (1 : Int32)))).2 (by decide) (by decide) k) ?_
  show Go p.tables e below G (s₁.setTop (mkF m 23 #[iv (5 : Int32), un] []))
  refine Go.stp (fun t k => XS.iloadN X0.here hx rfl (hb hby d1_23) rfl k) ?_
  show Go p.tables e below G (s₁.setTop (mkF m 24 #[iv (5 : Int32), un] [(.int (5 : Int32))]))
  refine Go.stp (fun t k => XS.iconst X0.here hx rfl (hb hby d1_24) k) ?_
  show Go p.tables e below G (s₁.setTop (mkF m 25 #[iv (5 : Int32), un] [(.int (2 : Int32)), (.int (5 : Int32))]))
  refine Go.stp (fun t k => XS.icmpYes X0.here hx rfl (pc0 := 25) (pc' := 35) rfl (hb hby d1_25) rfl (feq (by decide : ¬ ((5 : Int32) = (2 : Int32)))).2 (by decide) (by decide) k) ?_
  show Go p.tables e below G (s₁.setTop (mkF m 35 #[iv (5 : Int32), un] []))
  refine Go.stp (fun t k => XS.iloadN X0.here hx rfl (hb hby d1_35) rfl k) ?_
  show Go p.tables e below G (s₁.setTop (mkF m 36 #[iv (5 : Int32), un] [(.int (5 : Int32))]))
  refine Go.stp (fun t k => XS.iconst X0.here hx rfl (hb hby d1_36) k) ?_
  show Go p.tables e below G (s₁.setTop (mkF m 37 #[iv (5 : Int32), un] [(.int (3 : Int32)), (.int (5 : Int32))]))
  refine Go.stp (fun t k => XS.icmpYes X0.here hx rfl (pc0 := 37) (pc' := 47) rfl (hb hby d1_37) rfl (feq (by decide : ¬ ((5 : Int32) = (3 : Int32)))).2 (by decide) (by decide) k) ?_
  show Go p.tables e below G (s₁.setTop (mkF m 47 #[iv (5 : Int32), un] []))
  refine Go.stp (fun t k => XS.iloadN X0.here hx rfl (hb hby d1_47) rfl k) ?_
  show Go p.tables e below G (s₁.setTop (mkF m 48 #[iv (5 : Int32), un] [(.int (5 : Int32))]))
  refine Go.stp (fun t k => XS.iconst X0.here hx rfl (hb hby d1_48) k) ?_
  show Go p.tables e below G (s₁.setTop (mkF m 49 #[iv (5 : Int32), un] [(.int (4 : Int32)), (.int (5 : Int32))]))
  refine Go.stp (fun t k => XS.icmpYes X0.here hx rfl (pc0 := 49) (pc' := 59) rfl (hb hby d1_49) rfl (feq (by decide : ¬ ((5 : Int32) = (4 : Int32)))).2 (by decide) (by decide) k) ?_
  show Go p.tables e below G (s₁.setTop (mkF m 59 #[iv (5 : Int32), un] []))
  obtain ⟨T1, X1, e1, st1⟩ := getS2 X0 hx hZ hown (host := "") (Or.inl (hw _ (List.mem_of_getElem? (i := 68) rfl))) Via.refl e0 S_a5' (g := (mkF m 59 #[iv (5 : Int32), un] [])) rfl (hb hby d1_59)
  refine Go.stp (fun t k => st1 t k) ?_
  show Go p.tables e below G (T1.setTop (mkF m 62 #[iv (5 : Int32), un] [(.ref a5')]))
  refine Go.stp (fun t k => XS.astoreN X1.here hx rfl (hb hby d1_62) rfl rfl (l' := #[iv (5 : Int32), rv a5']) rfl k) ?_
  show Go p.tables e below G (T1.setTop (mkF m 63 #[iv (5 : Int32), rv a5'] []))
  refine Go.stp (fun t k => XS.aloadN X1.here hx rfl (hb hby d1_63) rfl rfl k) ?_
  show Go p.tables e below G (T1.setTop (mkF m 64 #[iv (5 : Int32), rv a5'] [(.ref a5')]))
  obtain ⟨fs, hr, hrun, hended, hW, hsame⟩ := X1.leave (v := some (.ref a5')) (fun h => by rw [Bd.returns] at h; cases h)
  refine ⟨_, _, retR X1 hx rfl rfl Bd.returns (hb hby d1_64) hr, hrun, hended, hG _ _ _ ?_ ⟨⟨_, rfl⟩, hW, hsame.mono (by decide) (by decide)⟩⟩
  show Q1_5 Z a5' h0 n0 _ T1.heap _
  rw [e1]
  exact ⟨rfl, N0, rfl⟩
theorem ef_0 (m : MethodId) (p0 : Int32) : entryFrame m #[(.int p0)] maxLocals = mkF m 0 #[iv p0, un, un, un, un, un, un] [] := by first | (simp [entryFrame, mkF, argsToLocals, Value.category, iv, rv, lv, un, sd, maxLocals]; done) | rfl
def Q0 (Z : State) (p0 : Int32) (kc : Int32) (sf : Value) (a0' : Addr) (a1' : Addr) (a2' : Addr) (a3' : Addr) (a4' : Addr) (a5' : Addr) (s0' : Addr) (s1' : Addr) (s2' : Addr) (s3' : Addr) (s4' : Addr) (s5' : Addr) (v0' : Addr) (v1' : Addr) (v2' : Addr) (v3' : Addr) (v4' : Addr) (v5' : Addr) (h0 : Heap) (n0 : Nat) (v : Option Value) (h : Heap) (L : List Loc) : Prop := v = some (.int (1 : Int32)) ∧ Fr n0 L
set_option maxRecDepth 65536 in
set_option maxHeartbeats 40000000 in
theorem rm0 (l : Launch) (Z : State) (a0 : Array Value) (hw : ∀ d ∈ tables_1, d.before a0 Z = true) (ws : List Jvm.Cond) (p0 : Int32) (kc : Int32) (sf : Value) (a0' : Addr) (a1' : Addr) (a2' : Addr) (a3' : Addr) (a4' : Addr) (a5' : Addr) (s0' : Addr) (s1' : Addr) (s2' : Addr) (s3' : Addr) (s4' : Addr) (s5' : Addr) (v0' : Addr) (v1' : Addr) (v2' : Addr) (v3' : Addr) (v4' : Addr) (v5' : Addr) (h0 : Heap) (n0 : Nat) (Z0 : n0 ≤ h0.size) (S_cs : Sta Z h0 "java/lang/String" "COMPACT_STRINGS" "Z" (.int kc)) (hkc : ¬ kc = (0 : Int32)) (S_sf : Sta Z h0 "jdk/internal/util/Preconditions" "SIOOBE_FORMATTER" "Ljava/util/function/BiFunction;" sf) (hsf : sf.isRef = true) (S_a0' : Sta Z h0 "com/example/stutter/stutter/eval/TemporalNode$Kind" "ALWAYS" "Lcom/example/stutter/stutter/eval/TemporalNode$Kind;" (.ref a0')) (S_a1' : Sta Z h0 "com/example/stutter/stutter/eval/TemporalNode$Kind" "EVENTUALLY" "Lcom/example/stutter/stutter/eval/TemporalNode$Kind;" (.ref a1')) (S_a2' : Sta Z h0 "com/example/stutter/stutter/eval/TemporalNode$Kind" "LEADS_TO" "Lcom/example/stutter/stutter/eval/TemporalNode$Kind;" (.ref a2')) (S_a3' : Sta Z h0 "com/example/stutter/stutter/eval/TemporalNode$Kind" "PLUS_ARROW" "Lcom/example/stutter/stutter/eval/TemporalNode$Kind;" (.ref a3')) (S_a4' : Sta Z h0 "com/example/stutter/stutter/eval/TemporalNode$Kind" "WEAK_FAIRNESS" "Lcom/example/stutter/stutter/eval/TemporalNode$Kind;" (.ref a4')) (S_a5' : Sta Z h0 "com/example/stutter/stutter/eval/TemporalNode$Kind" "STRONG_FAIRNESS" "Lcom/example/stutter/stutter/eval/TemporalNode$Kind;" (.ref a5')) (E_a0' : Exa Z h0 a0' "com/example/stutter/stutter/eval/TemporalNode$Kind") (E_a1' : Exa Z h0 a1' "com/example/stutter/stutter/eval/TemporalNode$Kind") (E_a2' : Exa Z h0 a2' "com/example/stutter/stutter/eval/TemporalNode$Kind") (E_a3' : Exa Z h0 a3' "com/example/stutter/stutter/eval/TemporalNode$Kind") (E_a4' : Exa Z h0 a4' "com/example/stutter/stutter/eval/TemporalNode$Kind") (E_a5' : Exa Z h0 a5' "com/example/stutter/stutter/eval/TemporalNode$Kind") (Fs0 : Fld Z h0 a0' "com/example/stutter/stutter/eval/TemporalNode$Kind" "spelling" "Ljava/lang/String;" (.ref s0')) (Fs1 : Fld Z h0 a1' "com/example/stutter/stutter/eval/TemporalNode$Kind" "spelling" "Ljava/lang/String;" (.ref s1')) (Fs2 : Fld Z h0 a2' "com/example/stutter/stutter/eval/TemporalNode$Kind" "spelling" "Ljava/lang/String;" (.ref s2')) (Fs3 : Fld Z h0 a3' "com/example/stutter/stutter/eval/TemporalNode$Kind" "spelling" "Ljava/lang/String;" (.ref s3')) (Fs4 : Fld Z h0 a4' "com/example/stutter/stutter/eval/TemporalNode$Kind" "spelling" "Ljava/lang/String;" (.ref s4')) (Fs5 : Fld Z h0 a5' "com/example/stutter/stutter/eval/TemporalNode$Kind" "spelling" "Ljava/lang/String;" (.ref s5')) (E_s0' : Exa Z h0 s0' "java/lang/String") (Fv_s0' : Fld Z h0 s0' "java/lang/String" "value" "[B" (.ref v0')) (Fc_s0' : Fld Z h0 s0' "java/lang/String" "coder" "B" (.int (0 : Int32))) (I_v0' : Ia Z h0 v0' .byte 2 Value.int (fun j => [(91 : Int32), (93 : Int32)].getD j 0)) (E_s1' : Exa Z h0 s1' "java/lang/String") (Fv_s1' : Fld Z h0 s1' "java/lang/String" "value" "[B" (.ref v1')) (Fc_s1' : Fld Z h0 s1' "java/lang/String" "coder" "B" (.int (0 : Int32))) (I_v1' : Ia Z h0 v1' .byte 2 Value.int (fun j => [(60 : Int32), (62 : Int32)].getD j 0)) (E_s2' : Exa Z h0 s2' "java/lang/String") (Fv_s2' : Fld Z h0 s2' "java/lang/String" "value" "[B" (.ref v2')) (Fc_s2' : Fld Z h0 s2' "java/lang/String" "coder" "B" (.int (0 : Int32))) (I_v2' : Ia Z h0 v2' .byte 2 Value.int (fun j => [(126 : Int32), (62 : Int32)].getD j 0)) (E_s3' : Exa Z h0 s3' "java/lang/String") (Fv_s3' : Fld Z h0 s3' "java/lang/String" "value" "[B" (.ref v3')) (Fc_s3' : Fld Z h0 s3' "java/lang/String" "coder" "B" (.int (0 : Int32))) (I_v3' : Ia Z h0 v3' .byte 4 Value.int (fun j => [(45 : Int32), (43 : Int32), (45 : Int32), (62 : Int32)].getD j 0)) (E_s4' : Exa Z h0 s4' "java/lang/String") (Fv_s4' : Fld Z h0 s4' "java/lang/String" "value" "[B" (.ref v4')) (Fc_s4' : Fld Z h0 s4' "java/lang/String" "coder" "B" (.int (0 : Int32))) (I_v4' : Ia Z h0 v4' .byte 3 Value.int (fun j => [(87 : Int32), (70 : Int32), (95 : Int32)].getD j 0)) (E_s5' : Exa Z h0 s5' "java/lang/String") (Fv_s5' : Fld Z h0 s5' "java/lang/String" "value" "[B" (.ref v5')) (Fc_s5' : Fld Z h0 s5' "java/lang/String" "coder" "B" (.int (0 : Int32))) (I_v5' : Ia Z h0 v5' .byte 3 Value.int (fun j => [(83 : Int32), (70 : Int32), (95 : Int32)].getD j 0)) (ne_a0'_a4' : a0' ≠ a4') (ne_a0'_a5' : a0' ≠ a5') (ne_a1'_a4' : a1' ≠ a4') (ne_a1'_a5' : a1' ≠ a5') (ne_a2'_a4' : a2' ≠ a4') (ne_a2'_a5' : a2' ≠ a5') (ne_a3'_a4' : a3' ≠ a4') (ne_a3'_a5' : a3' ≠ a5') :
    MetFree l x (head1 (Jvm.Cond.code x code maxLocals ret :: ws) room_1) (fun a U => a = #[(.int p0)] ∧ Z.Warmed39 U.vm ∧ U.heap = h0) (fun _ _ _ _ _ => True) (fun _ U o U' => ∃ v L, o = .returned v ∧ Q0 Z p0 kc sf a0' a1' a2' a3' a4' a5' s0' s1' s2' s3' s4' s5' v0' v1' v2' v3' v4' v5' h0 n0 v U'.heap L ∧ FrameEnd U o U' L room_1.cells room_1.slots) := by
  refine MetFree.of_bodySF (plainFor_of_name pn_1) hisR ?_
  intro p e s m args below meth c s₁ Bd hml0 hP hK
  obtain ⟨rfl, hZ, hh⟩ := hP
  have hx := Bd.exec
  have hby := Bd.bytes
  have hml : c.maxLocals = 7 := hml0
  have hown : s.vm.findClass "com/example/stutter/stutter/eval/KindFairnessPinLaw" = some m.cls := findClass_of_methodNamed Bd.named
  have hnm := (name_of_methodNamed Bd.named Bd.method).1
  have X0 : Stand p l e room_1 s m #[(.int p0)] below meth c s₁ [] 0 0 := Stand.of_body Bd
  have e0 : s₁.heap = h0 := by rw [← hh, Bd.state]; rfl
  have N0 := Fr.nil n0
  suffices HH : ∀ G : Outcome → State → Prop, (∀ v L U', Q0 Z p0 kc sf a0' a1' a2' a3' a4' a5' s0' s1' s2' s3' s4' s5' v0' v1' v2' v3' v4' v5' h0 n0 v U'.heap L → FrameEnd s (.returned v) U' L room_1.cells room_1.slots → G (.returned v) U') → Go p.tables e below G (s₁.setTop (mkF m 0 #[iv p0, un, un, un, un, un, un] [])) by
    obtain ⟨s2, o, h1, h2, h3, h4⟩ := HH (fun o U' => ∃ v L, o = .returned v ∧ Q0 Z p0 kc sf a0' a1' a2' a3' a4' a5' s0' s1' s2' s3' s4' s5' v0' v1' v2' v3' v4' v5' h0 n0 v U'.heap L ∧ FrameEnd s o U' L room_1.cells room_1.slots) (fun v L U' q f => ⟨v, L, rfl, q, f⟩)
    exact ⟨s2, o, castTop (ef_0 m p0) h1, h2, h3, h4⟩
  intro G hG
  show Go p.tables e below G (s₁.setTop (mkF m 0 #[iv p0, un, un, un, un, un, un] []))
  refine Go.stp (fun t k => XS.iloadN X0.here hx rfl (hb hby at_0) rfl k) ?_
  show Go p.tables e below G (s₁.setTop (mkF m 1 #[iv p0, un, un, un, un, un, un] [(.int p0)]))
  refine Go.stp (fun t k => X0.ldcInt hx hown (mvT hZ (hw _ (List.mem_of_getElem? (i := 0) rfl))) (g := (mkF m 1 #[iv p0, un, un, un, un, un, un] [(.int p0)])) rfl (hb hby at_1) t k) ?_
  show Go p.tables e below G (s₁.setTop (mkF m 3 #[iv p0, un, un, un, un, un, un] [(.int (2147483647 : Int32)), (.int p0)]))
  refine Go.stp (fun t k => XS.iand X0.here hx rfl (hb hby at_3) rfl k) ?_
  show Go p.tables e below G (s₁.setTop (mkF m 4 #[iv p0, un, un, un, un, un, un] [(.int (p0 &&& (2147483647 : Int32)))]))
  refine Go.stp (fun t k => XS.bipush X0.here hx rfl (hb hby at_4) k) ?_
  show Go p.tables e below G (s₁.setTop (mkF m 6 #[iv p0, un, un, un, un, un, un] [(.int (6 : Int32)), (.int (p0 &&& (2147483647 : Int32)))]))
  refine Go.stp (fun t k => XS.irem X0.here hx rfl (hb hby at_6) rfl (by decide) k) ?_
  show Go p.tables e below G (s₁.setTop (mkF m 7 #[iv p0, un, un, un, un, un, un] [(.int ((p0 &&& (2147483647 : Int32)) - ((p0 &&& (2147483647 : Int32)) / (6 : Int32)) * (6 : Int32)))]))
  refine Go.stp (fun t k => XS.istoreN X0.here hx rfl (hb hby at_7) rfl (l' := #[iv p0, iv ((p0 &&& (2147483647 : Int32)) - ((p0 &&& (2147483647 : Int32)) / (6 : Int32)) * (6 : Int32)), un, un, un, un, un]) rfl k) ?_
  show Go p.tables e below G (s₁.setTop (mkF m 8 #[iv p0, iv ((p0 &&& (2147483647 : Int32)) - ((p0 &&& (2147483647 : Int32)) / (6 : Int32)) * (6 : Int32)), un, un, un, un, un] []))
  obtain ⟨hd, hd'⟩ : ∃ z, z = ((p0 &&& (2147483647 : Int32)) - ((p0 &&& (2147483647 : Int32)) / (6 : Int32)) * (6 : Int32)) := ⟨_, rfl⟩
  have hr := own_rem p0 (6 : Int32) 6 (by decide) (by decide)
  rw [← hd'] at hr ⊢
  rcases own_d6 hd hr.1 hr.2 with rfl | rfl | rfl | rfl | rfl | rfl
  · show Go p.tables e below G (s₁.setTop (mkF m 8 #[iv p0, iv (0 : Int32), un, un, un, un, un] []))
    refine Go.stp (fun t k => XS.iloadN X0.here hx rfl (hb hby at_8) rfl k) ?_
    show Go p.tables e below G (s₁.setTop (mkF m 9 #[iv p0, iv (0 : Int32), un, un, un, un, un] [(.int (0 : Int32))]))
    obtain ⟨_, _, ⟨T1, L1, k1, n1⟩, -, X1, ⟨Lc1, hQ1, l1, y1, z1⟩, st1⟩ := Jvm.LawKit.callS X0 hx (y := (⟨"com/example/stutter/stutter/eval/KindFairnessPinLaw", "kindAt", "(I)Lcom/example/stutter/stutter/eval/TemporalNode$Kind;"⟩ : MethodName)) hown (mvT hZ (hw _ (List.mem_of_getElem? (i := 1) rfl))) (mvT hZ (hw _ (List.mem_of_getElem? (i := 2) rfl))) (mvT hZ (hw _ (List.mem_of_getElem? (i := 3) rfl))) (mvT hZ (hw _ (List.mem_of_getElem? (i := 4) rfl))) (by decide) (backOf (W := 0) (rm1_0 l Z a0 hw [] a0' h0 n0 Z0 S_a0') hZ (hw _ (List.mem_of_getElem? (i := 4) rfl)) (hw _ (List.mem_of_getElem? (i := 3) rfl)) (by decide) (by decide)) (g := (mkF m 9 #[iv p0, iv (0 : Int32), un, un, un, un, un] [(.int (0 : Int32))])) rfl (by rw [hml]; rfl) (argsL := [(.int (0 : Int32))]) (rest := []) (lenOf pd_5 rfl) rfl (by show 2 * 0 + _ ≤ _; exact Nat.le_of_eq rfl) (hb hby at_9) (fun _ _ => ⟨rfl, e0, (by decide : 0 + 0 ≤ _), (by decide : 0 + 0 ≤ _)⟩)
    dsimp only [Pt.U, Pt.locs, Pt.cells, Pt.slots] at X1 l1 y1 z1 st1 hQ1
    subst l1 y1 z1
    obtain ⟨rfl, Nq1, e1⟩ := hQ1
    have N1 := Fr.app N0 Nq1
    refine Go.stp (fun t k => st1 t k) ?_
    show Go p.tables e below G (T1.setTop (mkF m 12 #[iv p0, iv (0 : Int32), un, un, un, un, un] [(.ref a0')]))
    refine Go.stp (fun t k => XS.astoreN X1.here hx rfl (hb hby at_12) rfl rfl (l' := #[iv p0, iv (0 : Int32), rv a0', un, un, un, un]) rfl k) ?_
    show Go p.tables e below G (T1.setTop (mkF m 13 #[iv p0, iv (0 : Int32), rv a0', un, un, un, un] []))
    refine Go.stp (fun t k => XS.aloadN X1.here hx rfl (hb hby at_13) rfl rfl k) ?_
    show Go p.tables e below G (T1.setTop (mkF m 14 #[iv p0, iv (0 : Int32), rv a0', un, un, un, un] [(.ref a0')]))
    obtain ⟨cq2, kq2, q2a, q2b, q2c⟩ := isOf hZ e1 E_a0'
    obtain ⟨_, _, ⟨T2, L2, k2, n2⟩, -, X2, ⟨Lc2, hQ2, l2, y2, z2⟩, st2⟩ := X1.virtualBack hx (y := (⟨"com/example/stutter/stutter/eval/TemporalNode$Kind", "fairness", "()Z"⟩ : MethodName)) (z := (⟨"com/example/stutter/stutter/eval/TemporalNode$Kind", "fairness", "()Z"⟩ : MethodName)) hown (mvT hZ (hw _ (List.mem_of_getElem? (i := 8) rfl))) (mvT hZ (hw _ (List.mem_of_getElem? (i := 9) rfl))) (notFace_of_selects (args := #[]) (mvT hZ (hw _ (List.mem_of_getElem? (i := 11) rfl)))) (mvT hZ (hw _ (List.mem_of_getElem? (i := 11) rfl))) (mvT hZ (hw _ (List.mem_of_getElem? (i := 10) rfl))) (by decide) (backOf (W := 0) (rm2 l Z a0 hw [] a0' a4' a5' h0 n0 Z0 S_a4' S_a5') hZ (hw _ (List.mem_of_getElem? (i := 12) rfl)) (hw _ (List.mem_of_getElem? (i := 6) rfl)) (by decide) (by decide)) q2a q2c (g := (mkF m 14 #[iv p0, iv (0 : Int32), rv a0', un, un, un, un] [(.ref a0')])) rfl (by rw [hml]; rfl) (Steps.refl _) (argsL := []) (rest := []) (lenOf pd_2 rfl) rfl (by show 2 * 0 + _ ≤ _; exact Nat.le_of_eq rfl) (hb hby at_14) (fun _ _ => ⟨rfl, e1, (by decide : 0 + 0 ≤ _), (by decide : 0 + 0 ≤ _)⟩)
    dsimp only [Pt.U, Pt.locs, Pt.cells, Pt.slots] at X2 l2 y2 z2 st2 hQ2
    subst l2 y2 z2
    obtain ⟨rfl, Nq2, e2⟩ := hQ2
    have N2 := Fr.app N1 Nq2
    have pp2 : own_fair a0' a4' a5' = (0 : Int32) := by simp [own_fair, ne_a0'_a4', ne_a0'_a5']
    rw [pp2] at st2
    refine Go.stp (fun t k => st2.trans k) ?_
    show Go p.tables e below G (T2.setTop (mkF m 17 #[iv p0, iv (0 : Int32), rv a0', un, un, un, un] [(.int (0 : Int32))]))
    refine Go.stp (fun t k => XS.istoreN X2.here hx rfl (hb hby at_17) rfl (l' := #[iv p0, iv (0 : Int32), rv a0', iv (0 : Int32), un, un, un]) rfl k) ?_
    show Go p.tables e below G (T2.setTop (mkF m 18 #[iv p0, iv (0 : Int32), rv a0', iv (0 : Int32), un, un, un] []))
    refine Go.stp (fun t k => XS.aloadN X2.here hx rfl (hb hby at_18) rfl rfl k) ?_
    show Go p.tables e below G (T2.setTop (mkF m 19 #[iv p0, iv (0 : Int32), rv a0', iv (0 : Int32), un, un, un] [(.ref a0')]))
    obtain ⟨cq3, kq3, q3a, q3b, q3c⟩ := isOf hZ e2 E_a0'
    obtain ⟨_, _, ⟨T3, L3, k3, n3⟩, -, X3, ⟨Lc3, hQ3, l3, y3, z3⟩, st3⟩ := X2.virtualBack hx (y := (⟨"com/example/stutter/stutter/eval/TemporalNode$Kind", "spelling", "()Ljava/lang/String;"⟩ : MethodName)) (z := (⟨"com/example/stutter/stutter/eval/TemporalNode$Kind", "spelling", "()Ljava/lang/String;"⟩ : MethodName)) hown (mvT hZ (hw _ (List.mem_of_getElem? (i := 17) rfl))) (mvT hZ (hw _ (List.mem_of_getElem? (i := 18) rfl))) (notFace_of_selects (args := #[]) (mvT hZ (hw _ (List.mem_of_getElem? (i := 20) rfl)))) (mvT hZ (hw _ (List.mem_of_getElem? (i := 20) rfl))) (mvT hZ (hw _ (List.mem_of_getElem? (i := 19) rfl))) (by decide) (backOf (W := 0) (rm3 l Z a0 hw [] a0' s0' h0 n0 Z0 Fs0) hZ (hw _ (List.mem_of_getElem? (i := 21) rfl)) (hw _ (List.mem_of_getElem? (i := 6) rfl)) (by decide) (by decide)) q3a q3c (g := (mkF m 19 #[iv p0, iv (0 : Int32), rv a0', iv (0 : Int32), un, un, un] [(.ref a0')])) rfl (by rw [hml]; rfl) (Steps.refl _) (argsL := []) (rest := []) (lenOf pd_6 rfl) rfl (by show 2 * 0 + _ ≤ _; exact Nat.le_of_eq rfl) (hb hby at_19) (fun _ _ => ⟨rfl, e2, (by decide : 0 + 0 ≤ _), (by decide : 0 + 0 ≤ _)⟩)
    dsimp only [Pt.U, Pt.locs, Pt.cells, Pt.slots] at X3 l3 y3 z3 st3 hQ3
    subst l3 y3 z3
    obtain ⟨rfl, Nq3, e3⟩ := hQ3
    have N3 := Fr.app N2 Nq3
    refine Go.stp (fun t k => st3.trans k) ?_
    show Go p.tables e below G (T3.setTop (mkF m 22 #[iv p0, iv (0 : Int32), rv a0', iv (0 : Int32), un, un, un] [(.ref s0')]))
    refine Go.stp (fun t k => XS.astore X3.here hx rfl (hb hby at_22) rfl rfl (l' := #[iv p0, iv (0 : Int32), rv a0', iv (0 : Int32), rv s0', un, un]) rfl k) ?_
    show Go p.tables e below G (T3.setTop (mkF m 24 #[iv p0, iv (0 : Int32), rv a0', iv (0 : Int32), rv s0', un, un] []))
    refine Go.stp (fun t k => XS.aload X3.here hx rfl (hb hby at_24) rfl rfl k) ?_
    show Go p.tables e below G (T3.setTop (mkF m 26 #[iv p0, iv (0 : Int32), rv a0', iv (0 : Int32), rv s0', un, un] [(.ref s0')]))
    obtain ⟨cq4, kq4, q4a, q4b, q4c⟩ := isOf hZ e3 E_s0'
    obtain ⟨_, _, ⟨T4, L4, k4, n4⟩, -, X4, ⟨Lc4, hQ4, l4, y4, z4⟩, st4⟩ := X3.virtualBack hx (y := (⟨"java/lang/String", "length", "()I"⟩ : MethodName)) (z := (⟨"java/lang/String", "length", "()I"⟩ : MethodName)) hown (mvT hZ (hw _ (List.mem_of_getElem? (i := 24) rfl))) (mvT hZ (hw _ (List.mem_of_getElem? (i := 25) rfl))) (notFace_of_selects (args := #[]) (mvT hZ (hw _ (List.mem_of_getElem? (i := 27) rfl)))) (mvT hZ (hw _ (List.mem_of_getElem? (i := 27) rfl))) (mvT hZ (hw _ (List.mem_of_getElem? (i := 26) rfl))) (by decide) (backOf (W := 0) (rm4_2 l Z a0 hw [] s0' v0' kc (fun j => [(91 : Int32), (93 : Int32)].getD j 0) h0 n0 Z0 S_cs hkc E_s0' Fv_s0' Fc_s0' I_v0') hZ (hw _ (List.mem_of_getElem? (i := 29) rfl)) (hw _ (List.mem_of_getElem? (i := 28) rfl)) (by decide) (by decide)) q4a q4c (g := (mkF m 26 #[iv p0, iv (0 : Int32), rv a0', iv (0 : Int32), rv s0', un, un] [(.ref s0')])) rfl (by rw [hml]; rfl) (Steps.refl _) (argsL := []) (rest := []) (lenOf pd_7 rfl) rfl (by show 2 * 0 + _ ≤ _; exact Nat.le_of_eq rfl) (hb hby at_26) (fun _ _ => ⟨rfl, e3, (by decide : 0 + 0 ≤ _), (by decide : 0 + 0 ≤ _)⟩)
    dsimp only [Pt.U, Pt.locs, Pt.cells, Pt.slots] at X4 l4 y4 z4 st4 hQ4
    subst l4 y4 z4
    obtain ⟨rfl, Nq4, e4⟩ := hQ4
    have N4 := Fr.app N3 Nq4
    refine Go.stp (fun t k => st4.trans k) ?_
    show Go p.tables e below G (T4.setTop (mkF m 29 #[iv p0, iv (0 : Int32), rv a0', iv (0 : Int32), rv s0', un, un] [(.int (2 : Int32))]))
    refine Go.stp (fun t k => XS.ifNo X4.here hx rfl (hb hby at_29) rfl ((if0 _ _).trans (tlt (by decide : (0 : Int32) < (2 : Int32))).2.2.2) k) ?_
    show Go p.tables e below G (T4.setTop (mkF m 32 #[iv p0, iv (0 : Int32), rv a0', iv (0 : Int32), rv s0', un, un] []))
    refine Go.stp (fun t k => XS.aload X4.here hx rfl (hb hby at_32) rfl rfl k) ?_
    show Go p.tables e below G (T4.setTop (mkF m 34 #[iv p0, iv (0 : Int32), rv a0', iv (0 : Int32), rv s0', un, un] [(.ref s0')]))
    refine Go.stp (fun t k => XS.aload X4.here hx rfl (hb hby at_34) rfl rfl k) ?_
    show Go p.tables e below G (T4.setTop (mkF m 36 #[iv p0, iv (0 : Int32), rv a0', iv (0 : Int32), rv s0', un, un] [(.ref s0'), (.ref s0')]))
    obtain ⟨cq5, kq5, q5a, q5b, q5c⟩ := isOf hZ e4 E_s0'
    obtain ⟨_, _, ⟨T5, L5, k5, n5⟩, -, X5, ⟨Lc5, hQ5, l5, y5, z5⟩, st5⟩ := X4.virtualBack hx (y := (⟨"java/lang/String", "length", "()I"⟩ : MethodName)) (z := (⟨"java/lang/String", "length", "()I"⟩ : MethodName)) hown (mvT hZ (hw _ (List.mem_of_getElem? (i := 24) rfl))) (mvT hZ (hw _ (List.mem_of_getElem? (i := 25) rfl))) (notFace_of_selects (args := #[]) (mvT hZ (hw _ (List.mem_of_getElem? (i := 27) rfl)))) (mvT hZ (hw _ (List.mem_of_getElem? (i := 27) rfl))) (mvT hZ (hw _ (List.mem_of_getElem? (i := 26) rfl))) (by decide) (backOf (W := 1) (rm4_2 l Z a0 hw [] s0' v0' kc (fun j => [(91 : Int32), (93 : Int32)].getD j 0) h0 n0 Z0 S_cs hkc E_s0' Fv_s0' Fc_s0' I_v0') hZ (hw _ (List.mem_of_getElem? (i := 29) rfl)) (hw _ (List.mem_of_getElem? (i := 28) rfl)) (by decide) (by decide)) q5a q5c (g := (mkF m 36 #[iv p0, iv (0 : Int32), rv a0', iv (0 : Int32), rv s0', un, un] [(.ref s0'), (.ref s0')])) rfl (by rw [hml]; rfl) (Steps.refl _) (argsL := []) (rest := [(.ref s0')]) (lenOf pd_7 rfl) rfl (by show 2 * 0 + _ ≤ _; exact Nat.le_of_eq rfl) (hb hby at_36) (fun _ _ => ⟨rfl, e4, (by decide : 0 + 0 ≤ _), (by decide : 0 + 0 ≤ _)⟩)
    dsimp only [Pt.U, Pt.locs, Pt.cells, Pt.slots] at X5 l5 y5 z5 st5 hQ5
    subst l5 y5 z5
    obtain ⟨rfl, Nq5, e5⟩ := hQ5
    have N5 := Fr.app N4 Nq5
    refine Go.stp (fun t k => st5.trans k) ?_
    show Go p.tables e below G (T5.setTop (mkF m 39 #[iv p0, iv (0 : Int32), rv a0', iv (0 : Int32), rv s0', un, un] [(.int (2 : Int32)), (.ref s0')]))
    refine Go.stp (fun t k => XS.iconst X5.here hx rfl (hb hby at_39) k) ?_
    show Go p.tables e below G (T5.setTop (mkF m 40 #[iv p0, iv (0 : Int32), rv a0', iv (0 : Int32), rv s0', un, un] [(.int (1 : Int32)), (.int (2 : Int32)), (.ref s0')]))
    refine Go.stp (fun t k => XS.isub X5.here hx rfl (hb hby at_40) rfl k) ?_
    show Go p.tables e below G (T5.setTop (mkF m 41 #[iv p0, iv (0 : Int32), rv a0', iv (0 : Int32), rv s0', un, un] [(.int ((2 : Int32) - (1 : Int32))), (.ref s0')]))
    obtain ⟨cq6, kq6, q6a, q6b, q6c⟩ := isOf hZ e5 E_s0'
    obtain ⟨_, _, ⟨T6, L6, k6, n6⟩, -, X6, ⟨Lc6, hQ6, l6, y6, z6⟩, st6⟩ := X5.virtualBack hx (y := (⟨"java/lang/String", "charAt", "(I)C"⟩ : MethodName)) (z := (⟨"java/lang/String", "charAt", "(I)C"⟩ : MethodName)) hown (mvT hZ (hw _ (List.mem_of_getElem? (i := 40) rfl))) (mvT hZ (hw _ (List.mem_of_getElem? (i := 41) rfl))) (notFace_of_selects (args := #[]) (mvT hZ (hw _ (List.mem_of_getElem? (i := 43) rfl)))) (mvT hZ (hw _ (List.mem_of_getElem? (i := 43) rfl))) (mvT hZ (hw _ (List.mem_of_getElem? (i := 42) rfl))) (by decide) (backOf (W := 0) (rm6_2 l Z a0 hw [] s0' v0' kc sf (fun j => [(91 : Int32), (93 : Int32)].getD j 0) h0 n0 Z0 S_cs hkc S_sf hsf E_s0' Fv_s0' Fc_s0' I_v0') hZ (hw _ (List.mem_of_getElem? (i := 44) rfl)) (hw _ (List.mem_of_getElem? (i := 28) rfl)) (by decide) (by decide)) q6a q6c (g := (mkF m 41 #[iv p0, iv (0 : Int32), rv a0', iv (0 : Int32), rv s0', un, un] [(.int ((2 : Int32) - (1 : Int32))), (.ref s0')])) rfl (by rw [hml]; rfl) (Steps.refl _) (argsL := [(.int ((2 : Int32) - (1 : Int32)))]) (rest := []) (lenOf pd_8 rfl) rfl (by show 2 * 0 + _ ≤ _; exact Nat.le_of_eq rfl) (hb hby at_41) (fun _ _ => ⟨rfl, e5, (by decide : 0 + 0 ≤ _), (by decide : 0 + 0 ≤ _)⟩)
    dsimp only [Pt.U, Pt.locs, Pt.cells, Pt.slots] at X6 l6 y6 z6 st6 hQ6
    subst l6 y6 z6
    obtain ⟨rfl, Nq6, e6⟩ := hQ6
    have N6 := Fr.app N5 Nq6
    have pp6 : nar .char (own_ch ((fun j => [(91 : Int32), (93 : Int32)].getD j 0) 1)) = (93 : Int32) := by decide
    rw [pp6] at st6
    refine Go.stp (fun t k => st6.trans k) ?_
    show Go p.tables e below G (T6.setTop (mkF m 44 #[iv p0, iv (0 : Int32), rv a0', iv (0 : Int32), rv s0', un, un] [(.int (93 : Int32))]))
    refine Go.stp (fun t k => XS.bipush X6.here hx rfl (hb hby at_44) k) ?_
    show Go p.tables e below G (T6.setTop (mkF m 46 #[iv p0, iv (0 : Int32), rv a0', iv (0 : Int32), rv s0', un, un] [(.int (95 : Int32)), (.int (93 : Int32))]))
    refine Go.stp (fun t k => XS.icmpYes X6.here hx rfl (pc0 := 46) (pc' := 53) rfl (hb hby at_46) rfl (feq (by decide : ¬ ((93 : Int32) = (95 : Int32)))).2 (by decide) (by decide) k) ?_
    show Go p.tables e below G (T6.setTop (mkF m 53 #[iv p0, iv (0 : Int32), rv a0', iv (0 : Int32), rv s0', un, un] []))
    refine Go.stp (fun t k => XS.iconst X6.here hx rfl (hb hby at_53) k) ?_
    show Go p.tables e below G (T6.setTop (mkF m 54 #[iv p0, iv (0 : Int32), rv a0', iv (0 : Int32), rv s0', un, un] [(.int (0 : Int32))]))
    refine Go.stp (fun t k => XS.istore X6.here hx rfl (hb hby at_54) rfl (l' := #[iv p0, iv (0 : Int32), rv a0', iv (0 : Int32), rv s0', iv (0 : Int32), un]) rfl k) ?_
    show Go p.tables e below G (T6.setTop (mkF m 56 #[iv p0, iv (0 : Int32), rv a0', iv (0 : Int32), rv s0', iv (0 : Int32), un] []))
    refine Go.stp (fun t k => XS.iloadN X6.here hx rfl (hb hby at_56) rfl k) ?_
    show Go p.tables e below G (T6.setTop (mkF m 57 #[iv p0, iv (0 : Int32), rv a0', iv (0 : Int32), rv s0', iv (0 : Int32), un] [(.int (0 : Int32))]))
    refine Go.stp (fun t k => XS.iconst X6.here hx rfl (hb hby at_57) k) ?_
    show Go p.tables e below G (T6.setTop (mkF m 58 #[iv p0, iv (0 : Int32), rv a0', iv (0 : Int32), rv s0', iv (0 : Int32), un] [(.int (4 : Int32)), (.int (0 : Int32))]))
    refine Go.stp (fun t k => XS.icmpNo X6.here hx rfl (hb hby at_58) rfl (feq (by decide : ¬ ((0 : Int32) = (4 : Int32)))).1 k) ?_
    show Go p.tables e below G (T6.setTop (mkF m 61 #[iv p0, iv (0 : Int32), rv a0', iv (0 : Int32), rv s0', iv (0 : Int32), un] []))
    refine Go.stp (fun t k => XS.iloadN X6.here hx rfl (hb hby at_61) rfl k) ?_
    show Go p.tables e below G (T6.setTop (mkF m 62 #[iv p0, iv (0 : Int32), rv a0', iv (0 : Int32), rv s0', iv (0 : Int32), un] [(.int (0 : Int32))]))
    refine Go.stp (fun t k => XS.iconst X6.here hx rfl (hb hby at_62) k) ?_
    show Go p.tables e below G (T6.setTop (mkF m 63 #[iv p0, iv (0 : Int32), rv a0', iv (0 : Int32), rv s0', iv (0 : Int32), un] [(.int (5 : Int32)), (.int (0 : Int32))]))
    refine Go.stp (fun t k => XS.icmpYes X6.here hx rfl (pc0 := 63) (pc' := 70) rfl (hb hby at_63) rfl (feq (by decide : ¬ ((0 : Int32) = (5 : Int32)))).2 (by decide) (by decide) k) ?_
    show Go p.tables e below G (T6.setTop (mkF m 70 #[iv p0, iv (0 : Int32), rv a0', iv (0 : Int32), rv s0', iv (0 : Int32), un] []))
    refine Go.stp (fun t k => XS.iconst X6.here hx rfl (hb hby at_70) k) ?_
    show Go p.tables e below G (T6.setTop (mkF m 71 #[iv p0, iv (0 : Int32), rv a0', iv (0 : Int32), rv s0', iv (0 : Int32), un] [(.int (0 : Int32))]))
    refine Go.stp (fun t k => XS.istore X6.here hx rfl (hb hby at_71) rfl (l' := #[iv p0, iv (0 : Int32), rv a0', iv (0 : Int32), rv s0', iv (0 : Int32), iv (0 : Int32)]) rfl k) ?_
    show Go p.tables e below G (T6.setTop (mkF m 73 #[iv p0, iv (0 : Int32), rv a0', iv (0 : Int32), rv s0', iv (0 : Int32), iv (0 : Int32)] []))
    refine Go.stp (fun t k => XS.iloadN X6.here hx rfl (hb hby at_73) rfl k) ?_
    show Go p.tables e below G (T6.setTop (mkF m 74 #[iv p0, iv (0 : Int32), rv a0', iv (0 : Int32), rv s0', iv (0 : Int32), iv (0 : Int32)] [(.int (0 : Int32))]))
    refine Go.stp (fun t k => XS.iload X6.here hx rfl (hb hby at_74) rfl k) ?_
    show Go p.tables e below G (T6.setTop (mkF m 76 #[iv p0, iv (0 : Int32), rv a0', iv (0 : Int32), rv s0', iv (0 : Int32), iv (0 : Int32)] [(.int (0 : Int32)), (.int (0 : Int32))]))
    refine Go.stp (fun t k => XS.icmpNo X6.here hx rfl (hb hby at_76) rfl (teq (by decide : (0 : Int32) = (0 : Int32))).2 k) ?_
    show Go p.tables e below G (T6.setTop (mkF m 79 #[iv p0, iv (0 : Int32), rv a0', iv (0 : Int32), rv s0', iv (0 : Int32), iv (0 : Int32)] []))
    refine Go.stp (fun t k => XS.iloadN X6.here hx rfl (hb hby at_79) rfl k) ?_
    show Go p.tables e below G (T6.setTop (mkF m 80 #[iv p0, iv (0 : Int32), rv a0', iv (0 : Int32), rv s0', iv (0 : Int32), iv (0 : Int32)] [(.int (0 : Int32))]))
    refine Go.stp (fun t k => XS.iload X6.here hx rfl (hb hby at_80) rfl k) ?_
    show Go p.tables e below G (T6.setTop (mkF m 82 #[iv p0, iv (0 : Int32), rv a0', iv (0 : Int32), rv s0', iv (0 : Int32), iv (0 : Int32)] [(.int (0 : Int32)), (.int (0 : Int32))]))
    refine Go.stp (fun t k => XS.icmpNo X6.here hx rfl (hb hby at_82) rfl (teq (by decide : (0 : Int32) = (0 : Int32))).2 k) ?_
    show Go p.tables e below G (T6.setTop (mkF m 85 #[iv p0, iv (0 : Int32), rv a0', iv (0 : Int32), rv s0', iv (0 : Int32), iv (0 : Int32)] []))
    refine Go.stp (fun t k => XS.iconst X6.here hx rfl (hb hby at_85) k) ?_
    show Go p.tables e below G (T6.setTop (mkF m 86 #[iv p0, iv (0 : Int32), rv a0', iv (0 : Int32), rv s0', iv (0 : Int32), iv (0 : Int32)] [(.int (1 : Int32))]))
    refine Go.stp (fun t k => XS.goto X6.here hx rfl (pc0 := 86) (pc' := 90) rfl (hb hby at_86) (by decide) (by decide) k) ?_
    show Go p.tables e below G (T6.setTop (mkF m 90 #[iv p0, iv (0 : Int32), rv a0', iv (0 : Int32), rv s0', iv (0 : Int32), iv (0 : Int32)] [(.int (1 : Int32))]))
    obtain ⟨fs, hr, hrun, hended, hW, hsame⟩ := X6.leave (v := some (.int (1 : Int32))) (fun h => by rw [Bd.returns] at h; cases h)
    refine ⟨_, _, retN X6 hx (t := .boolean) Bd.returns (by simp) (hb hby at_90) hr, hrun, hended, hG _ _ _ ?_ ⟨⟨_, rfl⟩, hW, hsame.mono (by decide) (by decide)⟩⟩
    show Q0 Z p0 kc sf a0' a1' a2' a3' a4' a5' s0' s1' s2' s3' s4' s5' v0' v1' v2' v3' v4' v5' h0 n0 _ T6.heap _
    rw [e6]
    exact ⟨rfl, N6⟩
  · show Go p.tables e below G (s₁.setTop (mkF m 8 #[iv p0, iv (1 : Int32), un, un, un, un, un] []))
    refine Go.stp (fun t k => XS.iloadN X0.here hx rfl (hb hby at_8) rfl k) ?_
    show Go p.tables e below G (s₁.setTop (mkF m 9 #[iv p0, iv (1 : Int32), un, un, un, un, un] [(.int (1 : Int32))]))
    obtain ⟨_, _, ⟨T7, L7, k7, n7⟩, -, X7, ⟨Lc7, hQ7, l7, y7, z7⟩, st7⟩ := Jvm.LawKit.callS X0 hx (y := (⟨"com/example/stutter/stutter/eval/KindFairnessPinLaw", "kindAt", "(I)Lcom/example/stutter/stutter/eval/TemporalNode$Kind;"⟩ : MethodName)) hown (mvT hZ (hw _ (List.mem_of_getElem? (i := 1) rfl))) (mvT hZ (hw _ (List.mem_of_getElem? (i := 2) rfl))) (mvT hZ (hw _ (List.mem_of_getElem? (i := 3) rfl))) (mvT hZ (hw _ (List.mem_of_getElem? (i := 4) rfl))) (by decide) (backOf (W := 0) (rm1_1 l Z a0 hw [] a1' h0 n0 Z0 S_a1') hZ (hw _ (List.mem_of_getElem? (i := 4) rfl)) (hw _ (List.mem_of_getElem? (i := 3) rfl)) (by decide) (by decide)) (g := (mkF m 9 #[iv p0, iv (1 : Int32), un, un, un, un, un] [(.int (1 : Int32))])) rfl (by rw [hml]; rfl) (argsL := [(.int (1 : Int32))]) (rest := []) (lenOf pd_5 rfl) rfl (by show 2 * 0 + _ ≤ _; exact Nat.le_of_eq rfl) (hb hby at_9) (fun _ _ => ⟨rfl, e0, (by decide : 0 + 0 ≤ _), (by decide : 0 + 0 ≤ _)⟩)
    dsimp only [Pt.U, Pt.locs, Pt.cells, Pt.slots] at X7 l7 y7 z7 st7 hQ7
    subst l7 y7 z7
    obtain ⟨rfl, Nq7, e7⟩ := hQ7
    have N7 := Fr.app N0 Nq7
    refine Go.stp (fun t k => st7 t k) ?_
    show Go p.tables e below G (T7.setTop (mkF m 12 #[iv p0, iv (1 : Int32), un, un, un, un, un] [(.ref a1')]))
    refine Go.stp (fun t k => XS.astoreN X7.here hx rfl (hb hby at_12) rfl rfl (l' := #[iv p0, iv (1 : Int32), rv a1', un, un, un, un]) rfl k) ?_
    show Go p.tables e below G (T7.setTop (mkF m 13 #[iv p0, iv (1 : Int32), rv a1', un, un, un, un] []))
    refine Go.stp (fun t k => XS.aloadN X7.here hx rfl (hb hby at_13) rfl rfl k) ?_
    show Go p.tables e below G (T7.setTop (mkF m 14 #[iv p0, iv (1 : Int32), rv a1', un, un, un, un] [(.ref a1')]))
    obtain ⟨cq8, kq8, q8a, q8b, q8c⟩ := isOf hZ e7 E_a1'
    obtain ⟨_, _, ⟨T8, L8, k8, n8⟩, -, X8, ⟨Lc8, hQ8, l8, y8, z8⟩, st8⟩ := X7.virtualBack hx (y := (⟨"com/example/stutter/stutter/eval/TemporalNode$Kind", "fairness", "()Z"⟩ : MethodName)) (z := (⟨"com/example/stutter/stutter/eval/TemporalNode$Kind", "fairness", "()Z"⟩ : MethodName)) hown (mvT hZ (hw _ (List.mem_of_getElem? (i := 8) rfl))) (mvT hZ (hw _ (List.mem_of_getElem? (i := 9) rfl))) (notFace_of_selects (args := #[]) (mvT hZ (hw _ (List.mem_of_getElem? (i := 11) rfl)))) (mvT hZ (hw _ (List.mem_of_getElem? (i := 11) rfl))) (mvT hZ (hw _ (List.mem_of_getElem? (i := 10) rfl))) (by decide) (backOf (W := 0) (rm2 l Z a0 hw [] a1' a4' a5' h0 n0 Z0 S_a4' S_a5') hZ (hw _ (List.mem_of_getElem? (i := 12) rfl)) (hw _ (List.mem_of_getElem? (i := 6) rfl)) (by decide) (by decide)) q8a q8c (g := (mkF m 14 #[iv p0, iv (1 : Int32), rv a1', un, un, un, un] [(.ref a1')])) rfl (by rw [hml]; rfl) (Steps.refl _) (argsL := []) (rest := []) (lenOf pd_2 rfl) rfl (by show 2 * 0 + _ ≤ _; exact Nat.le_of_eq rfl) (hb hby at_14) (fun _ _ => ⟨rfl, e7, (by decide : 0 + 0 ≤ _), (by decide : 0 + 0 ≤ _)⟩)
    dsimp only [Pt.U, Pt.locs, Pt.cells, Pt.slots] at X8 l8 y8 z8 st8 hQ8
    subst l8 y8 z8
    obtain ⟨rfl, Nq8, e8⟩ := hQ8
    have N8 := Fr.app N7 Nq8
    have pp8 : own_fair a1' a4' a5' = (0 : Int32) := by simp [own_fair, ne_a1'_a4', ne_a1'_a5']
    rw [pp8] at st8
    refine Go.stp (fun t k => st8.trans k) ?_
    show Go p.tables e below G (T8.setTop (mkF m 17 #[iv p0, iv (1 : Int32), rv a1', un, un, un, un] [(.int (0 : Int32))]))
    refine Go.stp (fun t k => XS.istoreN X8.here hx rfl (hb hby at_17) rfl (l' := #[iv p0, iv (1 : Int32), rv a1', iv (0 : Int32), un, un, un]) rfl k) ?_
    show Go p.tables e below G (T8.setTop (mkF m 18 #[iv p0, iv (1 : Int32), rv a1', iv (0 : Int32), un, un, un] []))
    refine Go.stp (fun t k => XS.aloadN X8.here hx rfl (hb hby at_18) rfl rfl k) ?_
    show Go p.tables e below G (T8.setTop (mkF m 19 #[iv p0, iv (1 : Int32), rv a1', iv (0 : Int32), un, un, un] [(.ref a1')]))
    obtain ⟨cq9, kq9, q9a, q9b, q9c⟩ := isOf hZ e8 E_a1'
    obtain ⟨_, _, ⟨T9, L9, k9, n9⟩, -, X9, ⟨Lc9, hQ9, l9, y9, z9⟩, st9⟩ := X8.virtualBack hx (y := (⟨"com/example/stutter/stutter/eval/TemporalNode$Kind", "spelling", "()Ljava/lang/String;"⟩ : MethodName)) (z := (⟨"com/example/stutter/stutter/eval/TemporalNode$Kind", "spelling", "()Ljava/lang/String;"⟩ : MethodName)) hown (mvT hZ (hw _ (List.mem_of_getElem? (i := 17) rfl))) (mvT hZ (hw _ (List.mem_of_getElem? (i := 18) rfl))) (notFace_of_selects (args := #[]) (mvT hZ (hw _ (List.mem_of_getElem? (i := 20) rfl)))) (mvT hZ (hw _ (List.mem_of_getElem? (i := 20) rfl))) (mvT hZ (hw _ (List.mem_of_getElem? (i := 19) rfl))) (by decide) (backOf (W := 0) (rm3 l Z a0 hw [] a1' s1' h0 n0 Z0 Fs1) hZ (hw _ (List.mem_of_getElem? (i := 21) rfl)) (hw _ (List.mem_of_getElem? (i := 6) rfl)) (by decide) (by decide)) q9a q9c (g := (mkF m 19 #[iv p0, iv (1 : Int32), rv a1', iv (0 : Int32), un, un, un] [(.ref a1')])) rfl (by rw [hml]; rfl) (Steps.refl _) (argsL := []) (rest := []) (lenOf pd_6 rfl) rfl (by show 2 * 0 + _ ≤ _; exact Nat.le_of_eq rfl) (hb hby at_19) (fun _ _ => ⟨rfl, e8, (by decide : 0 + 0 ≤ _), (by decide : 0 + 0 ≤ _)⟩)
    dsimp only [Pt.U, Pt.locs, Pt.cells, Pt.slots] at X9 l9 y9 z9 st9 hQ9
    subst l9 y9 z9
    obtain ⟨rfl, Nq9, e9⟩ := hQ9
    have N9 := Fr.app N8 Nq9
    refine Go.stp (fun t k => st9.trans k) ?_
    show Go p.tables e below G (T9.setTop (mkF m 22 #[iv p0, iv (1 : Int32), rv a1', iv (0 : Int32), un, un, un] [(.ref s1')]))
    refine Go.stp (fun t k => XS.astore X9.here hx rfl (hb hby at_22) rfl rfl (l' := #[iv p0, iv (1 : Int32), rv a1', iv (0 : Int32), rv s1', un, un]) rfl k) ?_
    show Go p.tables e below G (T9.setTop (mkF m 24 #[iv p0, iv (1 : Int32), rv a1', iv (0 : Int32), rv s1', un, un] []))
    refine Go.stp (fun t k => XS.aload X9.here hx rfl (hb hby at_24) rfl rfl k) ?_
    show Go p.tables e below G (T9.setTop (mkF m 26 #[iv p0, iv (1 : Int32), rv a1', iv (0 : Int32), rv s1', un, un] [(.ref s1')]))
    obtain ⟨cq10, kq10, q10a, q10b, q10c⟩ := isOf hZ e9 E_s1'
    obtain ⟨_, _, ⟨T10, L10, k10, n10⟩, -, X10, ⟨Lc10, hQ10, l10, y10, z10⟩, st10⟩ := X9.virtualBack hx (y := (⟨"java/lang/String", "length", "()I"⟩ : MethodName)) (z := (⟨"java/lang/String", "length", "()I"⟩ : MethodName)) hown (mvT hZ (hw _ (List.mem_of_getElem? (i := 24) rfl))) (mvT hZ (hw _ (List.mem_of_getElem? (i := 25) rfl))) (notFace_of_selects (args := #[]) (mvT hZ (hw _ (List.mem_of_getElem? (i := 27) rfl)))) (mvT hZ (hw _ (List.mem_of_getElem? (i := 27) rfl))) (mvT hZ (hw _ (List.mem_of_getElem? (i := 26) rfl))) (by decide) (backOf (W := 0) (rm4_2 l Z a0 hw [] s1' v1' kc (fun j => [(60 : Int32), (62 : Int32)].getD j 0) h0 n0 Z0 S_cs hkc E_s1' Fv_s1' Fc_s1' I_v1') hZ (hw _ (List.mem_of_getElem? (i := 29) rfl)) (hw _ (List.mem_of_getElem? (i := 28) rfl)) (by decide) (by decide)) q10a q10c (g := (mkF m 26 #[iv p0, iv (1 : Int32), rv a1', iv (0 : Int32), rv s1', un, un] [(.ref s1')])) rfl (by rw [hml]; rfl) (Steps.refl _) (argsL := []) (rest := []) (lenOf pd_7 rfl) rfl (by show 2 * 0 + _ ≤ _; exact Nat.le_of_eq rfl) (hb hby at_26) (fun _ _ => ⟨rfl, e9, (by decide : 0 + 0 ≤ _), (by decide : 0 + 0 ≤ _)⟩)
    dsimp only [Pt.U, Pt.locs, Pt.cells, Pt.slots] at X10 l10 y10 z10 st10 hQ10
    subst l10 y10 z10
    obtain ⟨rfl, Nq10, e10⟩ := hQ10
    have N10 := Fr.app N9 Nq10
    refine Go.stp (fun t k => st10.trans k) ?_
    show Go p.tables e below G (T10.setTop (mkF m 29 #[iv p0, iv (1 : Int32), rv a1', iv (0 : Int32), rv s1', un, un] [(.int (2 : Int32))]))
    refine Go.stp (fun t k => XS.ifNo X10.here hx rfl (hb hby at_29) rfl ((if0 _ _).trans (tlt (by decide : (0 : Int32) < (2 : Int32))).2.2.2) k) ?_
    show Go p.tables e below G (T10.setTop (mkF m 32 #[iv p0, iv (1 : Int32), rv a1', iv (0 : Int32), rv s1', un, un] []))
    refine Go.stp (fun t k => XS.aload X10.here hx rfl (hb hby at_32) rfl rfl k) ?_
    show Go p.tables e below G (T10.setTop (mkF m 34 #[iv p0, iv (1 : Int32), rv a1', iv (0 : Int32), rv s1', un, un] [(.ref s1')]))
    refine Go.stp (fun t k => XS.aload X10.here hx rfl (hb hby at_34) rfl rfl k) ?_
    show Go p.tables e below G (T10.setTop (mkF m 36 #[iv p0, iv (1 : Int32), rv a1', iv (0 : Int32), rv s1', un, un] [(.ref s1'), (.ref s1')]))
    obtain ⟨cq11, kq11, q11a, q11b, q11c⟩ := isOf hZ e10 E_s1'
    obtain ⟨_, _, ⟨T11, L11, k11, n11⟩, -, X11, ⟨Lc11, hQ11, l11, y11, z11⟩, st11⟩ := X10.virtualBack hx (y := (⟨"java/lang/String", "length", "()I"⟩ : MethodName)) (z := (⟨"java/lang/String", "length", "()I"⟩ : MethodName)) hown (mvT hZ (hw _ (List.mem_of_getElem? (i := 24) rfl))) (mvT hZ (hw _ (List.mem_of_getElem? (i := 25) rfl))) (notFace_of_selects (args := #[]) (mvT hZ (hw _ (List.mem_of_getElem? (i := 27) rfl)))) (mvT hZ (hw _ (List.mem_of_getElem? (i := 27) rfl))) (mvT hZ (hw _ (List.mem_of_getElem? (i := 26) rfl))) (by decide) (backOf (W := 1) (rm4_2 l Z a0 hw [] s1' v1' kc (fun j => [(60 : Int32), (62 : Int32)].getD j 0) h0 n0 Z0 S_cs hkc E_s1' Fv_s1' Fc_s1' I_v1') hZ (hw _ (List.mem_of_getElem? (i := 29) rfl)) (hw _ (List.mem_of_getElem? (i := 28) rfl)) (by decide) (by decide)) q11a q11c (g := (mkF m 36 #[iv p0, iv (1 : Int32), rv a1', iv (0 : Int32), rv s1', un, un] [(.ref s1'), (.ref s1')])) rfl (by rw [hml]; rfl) (Steps.refl _) (argsL := []) (rest := [(.ref s1')]) (lenOf pd_7 rfl) rfl (by show 2 * 0 + _ ≤ _; exact Nat.le_of_eq rfl) (hb hby at_36) (fun _ _ => ⟨rfl, e10, (by decide : 0 + 0 ≤ _), (by decide : 0 + 0 ≤ _)⟩)
    dsimp only [Pt.U, Pt.locs, Pt.cells, Pt.slots] at X11 l11 y11 z11 st11 hQ11
    subst l11 y11 z11
    obtain ⟨rfl, Nq11, e11⟩ := hQ11
    have N11 := Fr.app N10 Nq11
    refine Go.stp (fun t k => st11.trans k) ?_
    show Go p.tables e below G (T11.setTop (mkF m 39 #[iv p0, iv (1 : Int32), rv a1', iv (0 : Int32), rv s1', un, un] [(.int (2 : Int32)), (.ref s1')]))
    refine Go.stp (fun t k => XS.iconst X11.here hx rfl (hb hby at_39) k) ?_
    show Go p.tables e below G (T11.setTop (mkF m 40 #[iv p0, iv (1 : Int32), rv a1', iv (0 : Int32), rv s1', un, un] [(.int (1 : Int32)), (.int (2 : Int32)), (.ref s1')]))
    refine Go.stp (fun t k => XS.isub X11.here hx rfl (hb hby at_40) rfl k) ?_
    show Go p.tables e below G (T11.setTop (mkF m 41 #[iv p0, iv (1 : Int32), rv a1', iv (0 : Int32), rv s1', un, un] [(.int ((2 : Int32) - (1 : Int32))), (.ref s1')]))
    obtain ⟨cq12, kq12, q12a, q12b, q12c⟩ := isOf hZ e11 E_s1'
    obtain ⟨_, _, ⟨T12, L12, k12, n12⟩, -, X12, ⟨Lc12, hQ12, l12, y12, z12⟩, st12⟩ := X11.virtualBack hx (y := (⟨"java/lang/String", "charAt", "(I)C"⟩ : MethodName)) (z := (⟨"java/lang/String", "charAt", "(I)C"⟩ : MethodName)) hown (mvT hZ (hw _ (List.mem_of_getElem? (i := 40) rfl))) (mvT hZ (hw _ (List.mem_of_getElem? (i := 41) rfl))) (notFace_of_selects (args := #[]) (mvT hZ (hw _ (List.mem_of_getElem? (i := 43) rfl)))) (mvT hZ (hw _ (List.mem_of_getElem? (i := 43) rfl))) (mvT hZ (hw _ (List.mem_of_getElem? (i := 42) rfl))) (by decide) (backOf (W := 0) (rm6_2 l Z a0 hw [] s1' v1' kc sf (fun j => [(60 : Int32), (62 : Int32)].getD j 0) h0 n0 Z0 S_cs hkc S_sf hsf E_s1' Fv_s1' Fc_s1' I_v1') hZ (hw _ (List.mem_of_getElem? (i := 44) rfl)) (hw _ (List.mem_of_getElem? (i := 28) rfl)) (by decide) (by decide)) q12a q12c (g := (mkF m 41 #[iv p0, iv (1 : Int32), rv a1', iv (0 : Int32), rv s1', un, un] [(.int ((2 : Int32) - (1 : Int32))), (.ref s1')])) rfl (by rw [hml]; rfl) (Steps.refl _) (argsL := [(.int ((2 : Int32) - (1 : Int32)))]) (rest := []) (lenOf pd_8 rfl) rfl (by show 2 * 0 + _ ≤ _; exact Nat.le_of_eq rfl) (hb hby at_41) (fun _ _ => ⟨rfl, e11, (by decide : 0 + 0 ≤ _), (by decide : 0 + 0 ≤ _)⟩)
    dsimp only [Pt.U, Pt.locs, Pt.cells, Pt.slots] at X12 l12 y12 z12 st12 hQ12
    subst l12 y12 z12
    obtain ⟨rfl, Nq12, e12⟩ := hQ12
    have N12 := Fr.app N11 Nq12
    have pp12 : nar .char (own_ch ((fun j => [(60 : Int32), (62 : Int32)].getD j 0) 1)) = (62 : Int32) := by decide
    rw [pp12] at st12
    refine Go.stp (fun t k => st12.trans k) ?_
    show Go p.tables e below G (T12.setTop (mkF m 44 #[iv p0, iv (1 : Int32), rv a1', iv (0 : Int32), rv s1', un, un] [(.int (62 : Int32))]))
    refine Go.stp (fun t k => XS.bipush X12.here hx rfl (hb hby at_44) k) ?_
    show Go p.tables e below G (T12.setTop (mkF m 46 #[iv p0, iv (1 : Int32), rv a1', iv (0 : Int32), rv s1', un, un] [(.int (95 : Int32)), (.int (62 : Int32))]))
    refine Go.stp (fun t k => XS.icmpYes X12.here hx rfl (pc0 := 46) (pc' := 53) rfl (hb hby at_46) rfl (feq (by decide : ¬ ((62 : Int32) = (95 : Int32)))).2 (by decide) (by decide) k) ?_
    show Go p.tables e below G (T12.setTop (mkF m 53 #[iv p0, iv (1 : Int32), rv a1', iv (0 : Int32), rv s1', un, un] []))
    refine Go.stp (fun t k => XS.iconst X12.here hx rfl (hb hby at_53) k) ?_
    show Go p.tables e below G (T12.setTop (mkF m 54 #[iv p0, iv (1 : Int32), rv a1', iv (0 : Int32), rv s1', un, un] [(.int (0 : Int32))]))
    refine Go.stp (fun t k => XS.istore X12.here hx rfl (hb hby at_54) rfl (l' := #[iv p0, iv (1 : Int32), rv a1', iv (0 : Int32), rv s1', iv (0 : Int32), un]) rfl k) ?_
    show Go p.tables e below G (T12.setTop (mkF m 56 #[iv p0, iv (1 : Int32), rv a1', iv (0 : Int32), rv s1', iv (0 : Int32), un] []))
    refine Go.stp (fun t k => XS.iloadN X12.here hx rfl (hb hby at_56) rfl k) ?_
    show Go p.tables e below G (T12.setTop (mkF m 57 #[iv p0, iv (1 : Int32), rv a1', iv (0 : Int32), rv s1', iv (0 : Int32), un] [(.int (1 : Int32))]))
    refine Go.stp (fun t k => XS.iconst X12.here hx rfl (hb hby at_57) k) ?_
    show Go p.tables e below G (T12.setTop (mkF m 58 #[iv p0, iv (1 : Int32), rv a1', iv (0 : Int32), rv s1', iv (0 : Int32), un] [(.int (4 : Int32)), (.int (1 : Int32))]))
    refine Go.stp (fun t k => XS.icmpNo X12.here hx rfl (hb hby at_58) rfl (feq (by decide : ¬ ((1 : Int32) = (4 : Int32)))).1 k) ?_
    show Go p.tables e below G (T12.setTop (mkF m 61 #[iv p0, iv (1 : Int32), rv a1', iv (0 : Int32), rv s1', iv (0 : Int32), un] []))
    refine Go.stp (fun t k => XS.iloadN X12.here hx rfl (hb hby at_61) rfl k) ?_
    show Go p.tables e below G (T12.setTop (mkF m 62 #[iv p0, iv (1 : Int32), rv a1', iv (0 : Int32), rv s1', iv (0 : Int32), un] [(.int (1 : Int32))]))
    refine Go.stp (fun t k => XS.iconst X12.here hx rfl (hb hby at_62) k) ?_
    show Go p.tables e below G (T12.setTop (mkF m 63 #[iv p0, iv (1 : Int32), rv a1', iv (0 : Int32), rv s1', iv (0 : Int32), un] [(.int (5 : Int32)), (.int (1 : Int32))]))
    refine Go.stp (fun t k => XS.icmpYes X12.here hx rfl (pc0 := 63) (pc' := 70) rfl (hb hby at_63) rfl (feq (by decide : ¬ ((1 : Int32) = (5 : Int32)))).2 (by decide) (by decide) k) ?_
    show Go p.tables e below G (T12.setTop (mkF m 70 #[iv p0, iv (1 : Int32), rv a1', iv (0 : Int32), rv s1', iv (0 : Int32), un] []))
    refine Go.stp (fun t k => XS.iconst X12.here hx rfl (hb hby at_70) k) ?_
    show Go p.tables e below G (T12.setTop (mkF m 71 #[iv p0, iv (1 : Int32), rv a1', iv (0 : Int32), rv s1', iv (0 : Int32), un] [(.int (0 : Int32))]))
    refine Go.stp (fun t k => XS.istore X12.here hx rfl (hb hby at_71) rfl (l' := #[iv p0, iv (1 : Int32), rv a1', iv (0 : Int32), rv s1', iv (0 : Int32), iv (0 : Int32)]) rfl k) ?_
    show Go p.tables e below G (T12.setTop (mkF m 73 #[iv p0, iv (1 : Int32), rv a1', iv (0 : Int32), rv s1', iv (0 : Int32), iv (0 : Int32)] []))
    refine Go.stp (fun t k => XS.iloadN X12.here hx rfl (hb hby at_73) rfl k) ?_
    show Go p.tables e below G (T12.setTop (mkF m 74 #[iv p0, iv (1 : Int32), rv a1', iv (0 : Int32), rv s1', iv (0 : Int32), iv (0 : Int32)] [(.int (0 : Int32))]))
    refine Go.stp (fun t k => XS.iload X12.here hx rfl (hb hby at_74) rfl k) ?_
    show Go p.tables e below G (T12.setTop (mkF m 76 #[iv p0, iv (1 : Int32), rv a1', iv (0 : Int32), rv s1', iv (0 : Int32), iv (0 : Int32)] [(.int (0 : Int32)), (.int (0 : Int32))]))
    refine Go.stp (fun t k => XS.icmpNo X12.here hx rfl (hb hby at_76) rfl (teq (by decide : (0 : Int32) = (0 : Int32))).2 k) ?_
    show Go p.tables e below G (T12.setTop (mkF m 79 #[iv p0, iv (1 : Int32), rv a1', iv (0 : Int32), rv s1', iv (0 : Int32), iv (0 : Int32)] []))
    refine Go.stp (fun t k => XS.iloadN X12.here hx rfl (hb hby at_79) rfl k) ?_
    show Go p.tables e below G (T12.setTop (mkF m 80 #[iv p0, iv (1 : Int32), rv a1', iv (0 : Int32), rv s1', iv (0 : Int32), iv (0 : Int32)] [(.int (0 : Int32))]))
    refine Go.stp (fun t k => XS.iload X12.here hx rfl (hb hby at_80) rfl k) ?_
    show Go p.tables e below G (T12.setTop (mkF m 82 #[iv p0, iv (1 : Int32), rv a1', iv (0 : Int32), rv s1', iv (0 : Int32), iv (0 : Int32)] [(.int (0 : Int32)), (.int (0 : Int32))]))
    refine Go.stp (fun t k => XS.icmpNo X12.here hx rfl (hb hby at_82) rfl (teq (by decide : (0 : Int32) = (0 : Int32))).2 k) ?_
    show Go p.tables e below G (T12.setTop (mkF m 85 #[iv p0, iv (1 : Int32), rv a1', iv (0 : Int32), rv s1', iv (0 : Int32), iv (0 : Int32)] []))
    refine Go.stp (fun t k => XS.iconst X12.here hx rfl (hb hby at_85) k) ?_
    show Go p.tables e below G (T12.setTop (mkF m 86 #[iv p0, iv (1 : Int32), rv a1', iv (0 : Int32), rv s1', iv (0 : Int32), iv (0 : Int32)] [(.int (1 : Int32))]))
    refine Go.stp (fun t k => XS.goto X12.here hx rfl (pc0 := 86) (pc' := 90) rfl (hb hby at_86) (by decide) (by decide) k) ?_
    show Go p.tables e below G (T12.setTop (mkF m 90 #[iv p0, iv (1 : Int32), rv a1', iv (0 : Int32), rv s1', iv (0 : Int32), iv (0 : Int32)] [(.int (1 : Int32))]))
    obtain ⟨fs, hr, hrun, hended, hW, hsame⟩ := X12.leave (v := some (.int (1 : Int32))) (fun h => by rw [Bd.returns] at h; cases h)
    refine ⟨_, _, retN X12 hx (t := .boolean) Bd.returns (by simp) (hb hby at_90) hr, hrun, hended, hG _ _ _ ?_ ⟨⟨_, rfl⟩, hW, hsame.mono (by decide) (by decide)⟩⟩
    show Q0 Z p0 kc sf a0' a1' a2' a3' a4' a5' s0' s1' s2' s3' s4' s5' v0' v1' v2' v3' v4' v5' h0 n0 _ T12.heap _
    rw [e12]
    exact ⟨rfl, N12⟩
  · show Go p.tables e below G (s₁.setTop (mkF m 8 #[iv p0, iv (2 : Int32), un, un, un, un, un] []))
    refine Go.stp (fun t k => XS.iloadN X0.here hx rfl (hb hby at_8) rfl k) ?_
    show Go p.tables e below G (s₁.setTop (mkF m 9 #[iv p0, iv (2 : Int32), un, un, un, un, un] [(.int (2 : Int32))]))
    obtain ⟨_, _, ⟨T13, L13, k13, n13⟩, -, X13, ⟨Lc13, hQ13, l13, y13, z13⟩, st13⟩ := Jvm.LawKit.callS X0 hx (y := (⟨"com/example/stutter/stutter/eval/KindFairnessPinLaw", "kindAt", "(I)Lcom/example/stutter/stutter/eval/TemporalNode$Kind;"⟩ : MethodName)) hown (mvT hZ (hw _ (List.mem_of_getElem? (i := 1) rfl))) (mvT hZ (hw _ (List.mem_of_getElem? (i := 2) rfl))) (mvT hZ (hw _ (List.mem_of_getElem? (i := 3) rfl))) (mvT hZ (hw _ (List.mem_of_getElem? (i := 4) rfl))) (by decide) (backOf (W := 0) (rm1_2 l Z a0 hw [] a2' h0 n0 Z0 S_a2') hZ (hw _ (List.mem_of_getElem? (i := 4) rfl)) (hw _ (List.mem_of_getElem? (i := 3) rfl)) (by decide) (by decide)) (g := (mkF m 9 #[iv p0, iv (2 : Int32), un, un, un, un, un] [(.int (2 : Int32))])) rfl (by rw [hml]; rfl) (argsL := [(.int (2 : Int32))]) (rest := []) (lenOf pd_5 rfl) rfl (by show 2 * 0 + _ ≤ _; exact Nat.le_of_eq rfl) (hb hby at_9) (fun _ _ => ⟨rfl, e0, (by decide : 0 + 0 ≤ _), (by decide : 0 + 0 ≤ _)⟩)
    dsimp only [Pt.U, Pt.locs, Pt.cells, Pt.slots] at X13 l13 y13 z13 st13 hQ13
    subst l13 y13 z13
    obtain ⟨rfl, Nq13, e13⟩ := hQ13
    have N13 := Fr.app N0 Nq13
    refine Go.stp (fun t k => st13 t k) ?_
    show Go p.tables e below G (T13.setTop (mkF m 12 #[iv p0, iv (2 : Int32), un, un, un, un, un] [(.ref a2')]))
    refine Go.stp (fun t k => XS.astoreN X13.here hx rfl (hb hby at_12) rfl rfl (l' := #[iv p0, iv (2 : Int32), rv a2', un, un, un, un]) rfl k) ?_
    show Go p.tables e below G (T13.setTop (mkF m 13 #[iv p0, iv (2 : Int32), rv a2', un, un, un, un] []))
    refine Go.stp (fun t k => XS.aloadN X13.here hx rfl (hb hby at_13) rfl rfl k) ?_
    show Go p.tables e below G (T13.setTop (mkF m 14 #[iv p0, iv (2 : Int32), rv a2', un, un, un, un] [(.ref a2')]))
    obtain ⟨cq14, kq14, q14a, q14b, q14c⟩ := isOf hZ e13 E_a2'
    obtain ⟨_, _, ⟨T14, L14, k14, n14⟩, -, X14, ⟨Lc14, hQ14, l14, y14, z14⟩, st14⟩ := X13.virtualBack hx (y := (⟨"com/example/stutter/stutter/eval/TemporalNode$Kind", "fairness", "()Z"⟩ : MethodName)) (z := (⟨"com/example/stutter/stutter/eval/TemporalNode$Kind", "fairness", "()Z"⟩ : MethodName)) hown (mvT hZ (hw _ (List.mem_of_getElem? (i := 8) rfl))) (mvT hZ (hw _ (List.mem_of_getElem? (i := 9) rfl))) (notFace_of_selects (args := #[]) (mvT hZ (hw _ (List.mem_of_getElem? (i := 11) rfl)))) (mvT hZ (hw _ (List.mem_of_getElem? (i := 11) rfl))) (mvT hZ (hw _ (List.mem_of_getElem? (i := 10) rfl))) (by decide) (backOf (W := 0) (rm2 l Z a0 hw [] a2' a4' a5' h0 n0 Z0 S_a4' S_a5') hZ (hw _ (List.mem_of_getElem? (i := 12) rfl)) (hw _ (List.mem_of_getElem? (i := 6) rfl)) (by decide) (by decide)) q14a q14c (g := (mkF m 14 #[iv p0, iv (2 : Int32), rv a2', un, un, un, un] [(.ref a2')])) rfl (by rw [hml]; rfl) (Steps.refl _) (argsL := []) (rest := []) (lenOf pd_2 rfl) rfl (by show 2 * 0 + _ ≤ _; exact Nat.le_of_eq rfl) (hb hby at_14) (fun _ _ => ⟨rfl, e13, (by decide : 0 + 0 ≤ _), (by decide : 0 + 0 ≤ _)⟩)
    dsimp only [Pt.U, Pt.locs, Pt.cells, Pt.slots] at X14 l14 y14 z14 st14 hQ14
    subst l14 y14 z14
    obtain ⟨rfl, Nq14, e14⟩ := hQ14
    have N14 := Fr.app N13 Nq14
    have pp14 : own_fair a2' a4' a5' = (0 : Int32) := by simp [own_fair, ne_a2'_a4', ne_a2'_a5']
    rw [pp14] at st14
    refine Go.stp (fun t k => st14.trans k) ?_
    show Go p.tables e below G (T14.setTop (mkF m 17 #[iv p0, iv (2 : Int32), rv a2', un, un, un, un] [(.int (0 : Int32))]))
    refine Go.stp (fun t k => XS.istoreN X14.here hx rfl (hb hby at_17) rfl (l' := #[iv p0, iv (2 : Int32), rv a2', iv (0 : Int32), un, un, un]) rfl k) ?_
    show Go p.tables e below G (T14.setTop (mkF m 18 #[iv p0, iv (2 : Int32), rv a2', iv (0 : Int32), un, un, un] []))
    refine Go.stp (fun t k => XS.aloadN X14.here hx rfl (hb hby at_18) rfl rfl k) ?_
    show Go p.tables e below G (T14.setTop (mkF m 19 #[iv p0, iv (2 : Int32), rv a2', iv (0 : Int32), un, un, un] [(.ref a2')]))
    obtain ⟨cq15, kq15, q15a, q15b, q15c⟩ := isOf hZ e14 E_a2'
    obtain ⟨_, _, ⟨T15, L15, k15, n15⟩, -, X15, ⟨Lc15, hQ15, l15, y15, z15⟩, st15⟩ := X14.virtualBack hx (y := (⟨"com/example/stutter/stutter/eval/TemporalNode$Kind", "spelling", "()Ljava/lang/String;"⟩ : MethodName)) (z := (⟨"com/example/stutter/stutter/eval/TemporalNode$Kind", "spelling", "()Ljava/lang/String;"⟩ : MethodName)) hown (mvT hZ (hw _ (List.mem_of_getElem? (i := 17) rfl))) (mvT hZ (hw _ (List.mem_of_getElem? (i := 18) rfl))) (notFace_of_selects (args := #[]) (mvT hZ (hw _ (List.mem_of_getElem? (i := 20) rfl)))) (mvT hZ (hw _ (List.mem_of_getElem? (i := 20) rfl))) (mvT hZ (hw _ (List.mem_of_getElem? (i := 19) rfl))) (by decide) (backOf (W := 0) (rm3 l Z a0 hw [] a2' s2' h0 n0 Z0 Fs2) hZ (hw _ (List.mem_of_getElem? (i := 21) rfl)) (hw _ (List.mem_of_getElem? (i := 6) rfl)) (by decide) (by decide)) q15a q15c (g := (mkF m 19 #[iv p0, iv (2 : Int32), rv a2', iv (0 : Int32), un, un, un] [(.ref a2')])) rfl (by rw [hml]; rfl) (Steps.refl _) (argsL := []) (rest := []) (lenOf pd_6 rfl) rfl (by show 2 * 0 + _ ≤ _; exact Nat.le_of_eq rfl) (hb hby at_19) (fun _ _ => ⟨rfl, e14, (by decide : 0 + 0 ≤ _), (by decide : 0 + 0 ≤ _)⟩)
    dsimp only [Pt.U, Pt.locs, Pt.cells, Pt.slots] at X15 l15 y15 z15 st15 hQ15
    subst l15 y15 z15
    obtain ⟨rfl, Nq15, e15⟩ := hQ15
    have N15 := Fr.app N14 Nq15
    refine Go.stp (fun t k => st15.trans k) ?_
    show Go p.tables e below G (T15.setTop (mkF m 22 #[iv p0, iv (2 : Int32), rv a2', iv (0 : Int32), un, un, un] [(.ref s2')]))
    refine Go.stp (fun t k => XS.astore X15.here hx rfl (hb hby at_22) rfl rfl (l' := #[iv p0, iv (2 : Int32), rv a2', iv (0 : Int32), rv s2', un, un]) rfl k) ?_
    show Go p.tables e below G (T15.setTop (mkF m 24 #[iv p0, iv (2 : Int32), rv a2', iv (0 : Int32), rv s2', un, un] []))
    refine Go.stp (fun t k => XS.aload X15.here hx rfl (hb hby at_24) rfl rfl k) ?_
    show Go p.tables e below G (T15.setTop (mkF m 26 #[iv p0, iv (2 : Int32), rv a2', iv (0 : Int32), rv s2', un, un] [(.ref s2')]))
    obtain ⟨cq16, kq16, q16a, q16b, q16c⟩ := isOf hZ e15 E_s2'
    obtain ⟨_, _, ⟨T16, L16, k16, n16⟩, -, X16, ⟨Lc16, hQ16, l16, y16, z16⟩, st16⟩ := X15.virtualBack hx (y := (⟨"java/lang/String", "length", "()I"⟩ : MethodName)) (z := (⟨"java/lang/String", "length", "()I"⟩ : MethodName)) hown (mvT hZ (hw _ (List.mem_of_getElem? (i := 24) rfl))) (mvT hZ (hw _ (List.mem_of_getElem? (i := 25) rfl))) (notFace_of_selects (args := #[]) (mvT hZ (hw _ (List.mem_of_getElem? (i := 27) rfl)))) (mvT hZ (hw _ (List.mem_of_getElem? (i := 27) rfl))) (mvT hZ (hw _ (List.mem_of_getElem? (i := 26) rfl))) (by decide) (backOf (W := 0) (rm4_2 l Z a0 hw [] s2' v2' kc (fun j => [(126 : Int32), (62 : Int32)].getD j 0) h0 n0 Z0 S_cs hkc E_s2' Fv_s2' Fc_s2' I_v2') hZ (hw _ (List.mem_of_getElem? (i := 29) rfl)) (hw _ (List.mem_of_getElem? (i := 28) rfl)) (by decide) (by decide)) q16a q16c (g := (mkF m 26 #[iv p0, iv (2 : Int32), rv a2', iv (0 : Int32), rv s2', un, un] [(.ref s2')])) rfl (by rw [hml]; rfl) (Steps.refl _) (argsL := []) (rest := []) (lenOf pd_7 rfl) rfl (by show 2 * 0 + _ ≤ _; exact Nat.le_of_eq rfl) (hb hby at_26) (fun _ _ => ⟨rfl, e15, (by decide : 0 + 0 ≤ _), (by decide : 0 + 0 ≤ _)⟩)
    dsimp only [Pt.U, Pt.locs, Pt.cells, Pt.slots] at X16 l16 y16 z16 st16 hQ16
    subst l16 y16 z16
    obtain ⟨rfl, Nq16, e16⟩ := hQ16
    have N16 := Fr.app N15 Nq16
    refine Go.stp (fun t k => st16.trans k) ?_
    show Go p.tables e below G (T16.setTop (mkF m 29 #[iv p0, iv (2 : Int32), rv a2', iv (0 : Int32), rv s2', un, un] [(.int (2 : Int32))]))
    refine Go.stp (fun t k => XS.ifNo X16.here hx rfl (hb hby at_29) rfl ((if0 _ _).trans (tlt (by decide : (0 : Int32) < (2 : Int32))).2.2.2) k) ?_
    show Go p.tables e below G (T16.setTop (mkF m 32 #[iv p0, iv (2 : Int32), rv a2', iv (0 : Int32), rv s2', un, un] []))
    refine Go.stp (fun t k => XS.aload X16.here hx rfl (hb hby at_32) rfl rfl k) ?_
    show Go p.tables e below G (T16.setTop (mkF m 34 #[iv p0, iv (2 : Int32), rv a2', iv (0 : Int32), rv s2', un, un] [(.ref s2')]))
    refine Go.stp (fun t k => XS.aload X16.here hx rfl (hb hby at_34) rfl rfl k) ?_
    show Go p.tables e below G (T16.setTop (mkF m 36 #[iv p0, iv (2 : Int32), rv a2', iv (0 : Int32), rv s2', un, un] [(.ref s2'), (.ref s2')]))
    obtain ⟨cq17, kq17, q17a, q17b, q17c⟩ := isOf hZ e16 E_s2'
    obtain ⟨_, _, ⟨T17, L17, k17, n17⟩, -, X17, ⟨Lc17, hQ17, l17, y17, z17⟩, st17⟩ := X16.virtualBack hx (y := (⟨"java/lang/String", "length", "()I"⟩ : MethodName)) (z := (⟨"java/lang/String", "length", "()I"⟩ : MethodName)) hown (mvT hZ (hw _ (List.mem_of_getElem? (i := 24) rfl))) (mvT hZ (hw _ (List.mem_of_getElem? (i := 25) rfl))) (notFace_of_selects (args := #[]) (mvT hZ (hw _ (List.mem_of_getElem? (i := 27) rfl)))) (mvT hZ (hw _ (List.mem_of_getElem? (i := 27) rfl))) (mvT hZ (hw _ (List.mem_of_getElem? (i := 26) rfl))) (by decide) (backOf (W := 1) (rm4_2 l Z a0 hw [] s2' v2' kc (fun j => [(126 : Int32), (62 : Int32)].getD j 0) h0 n0 Z0 S_cs hkc E_s2' Fv_s2' Fc_s2' I_v2') hZ (hw _ (List.mem_of_getElem? (i := 29) rfl)) (hw _ (List.mem_of_getElem? (i := 28) rfl)) (by decide) (by decide)) q17a q17c (g := (mkF m 36 #[iv p0, iv (2 : Int32), rv a2', iv (0 : Int32), rv s2', un, un] [(.ref s2'), (.ref s2')])) rfl (by rw [hml]; rfl) (Steps.refl _) (argsL := []) (rest := [(.ref s2')]) (lenOf pd_7 rfl) rfl (by show 2 * 0 + _ ≤ _; exact Nat.le_of_eq rfl) (hb hby at_36) (fun _ _ => ⟨rfl, e16, (by decide : 0 + 0 ≤ _), (by decide : 0 + 0 ≤ _)⟩)
    dsimp only [Pt.U, Pt.locs, Pt.cells, Pt.slots] at X17 l17 y17 z17 st17 hQ17
    subst l17 y17 z17
    obtain ⟨rfl, Nq17, e17⟩ := hQ17
    have N17 := Fr.app N16 Nq17
    refine Go.stp (fun t k => st17.trans k) ?_
    show Go p.tables e below G (T17.setTop (mkF m 39 #[iv p0, iv (2 : Int32), rv a2', iv (0 : Int32), rv s2', un, un] [(.int (2 : Int32)), (.ref s2')]))
    refine Go.stp (fun t k => XS.iconst X17.here hx rfl (hb hby at_39) k) ?_
    show Go p.tables e below G (T17.setTop (mkF m 40 #[iv p0, iv (2 : Int32), rv a2', iv (0 : Int32), rv s2', un, un] [(.int (1 : Int32)), (.int (2 : Int32)), (.ref s2')]))
    refine Go.stp (fun t k => XS.isub X17.here hx rfl (hb hby at_40) rfl k) ?_
    show Go p.tables e below G (T17.setTop (mkF m 41 #[iv p0, iv (2 : Int32), rv a2', iv (0 : Int32), rv s2', un, un] [(.int ((2 : Int32) - (1 : Int32))), (.ref s2')]))
    obtain ⟨cq18, kq18, q18a, q18b, q18c⟩ := isOf hZ e17 E_s2'
    obtain ⟨_, _, ⟨T18, L18, k18, n18⟩, -, X18, ⟨Lc18, hQ18, l18, y18, z18⟩, st18⟩ := X17.virtualBack hx (y := (⟨"java/lang/String", "charAt", "(I)C"⟩ : MethodName)) (z := (⟨"java/lang/String", "charAt", "(I)C"⟩ : MethodName)) hown (mvT hZ (hw _ (List.mem_of_getElem? (i := 40) rfl))) (mvT hZ (hw _ (List.mem_of_getElem? (i := 41) rfl))) (notFace_of_selects (args := #[]) (mvT hZ (hw _ (List.mem_of_getElem? (i := 43) rfl)))) (mvT hZ (hw _ (List.mem_of_getElem? (i := 43) rfl))) (mvT hZ (hw _ (List.mem_of_getElem? (i := 42) rfl))) (by decide) (backOf (W := 0) (rm6_2 l Z a0 hw [] s2' v2' kc sf (fun j => [(126 : Int32), (62 : Int32)].getD j 0) h0 n0 Z0 S_cs hkc S_sf hsf E_s2' Fv_s2' Fc_s2' I_v2') hZ (hw _ (List.mem_of_getElem? (i := 44) rfl)) (hw _ (List.mem_of_getElem? (i := 28) rfl)) (by decide) (by decide)) q18a q18c (g := (mkF m 41 #[iv p0, iv (2 : Int32), rv a2', iv (0 : Int32), rv s2', un, un] [(.int ((2 : Int32) - (1 : Int32))), (.ref s2')])) rfl (by rw [hml]; rfl) (Steps.refl _) (argsL := [(.int ((2 : Int32) - (1 : Int32)))]) (rest := []) (lenOf pd_8 rfl) rfl (by show 2 * 0 + _ ≤ _; exact Nat.le_of_eq rfl) (hb hby at_41) (fun _ _ => ⟨rfl, e17, (by decide : 0 + 0 ≤ _), (by decide : 0 + 0 ≤ _)⟩)
    dsimp only [Pt.U, Pt.locs, Pt.cells, Pt.slots] at X18 l18 y18 z18 st18 hQ18
    subst l18 y18 z18
    obtain ⟨rfl, Nq18, e18⟩ := hQ18
    have N18 := Fr.app N17 Nq18
    have pp18 : nar .char (own_ch ((fun j => [(126 : Int32), (62 : Int32)].getD j 0) 1)) = (62 : Int32) := by decide
    rw [pp18] at st18
    refine Go.stp (fun t k => st18.trans k) ?_
    show Go p.tables e below G (T18.setTop (mkF m 44 #[iv p0, iv (2 : Int32), rv a2', iv (0 : Int32), rv s2', un, un] [(.int (62 : Int32))]))
    refine Go.stp (fun t k => XS.bipush X18.here hx rfl (hb hby at_44) k) ?_
    show Go p.tables e below G (T18.setTop (mkF m 46 #[iv p0, iv (2 : Int32), rv a2', iv (0 : Int32), rv s2', un, un] [(.int (95 : Int32)), (.int (62 : Int32))]))
    refine Go.stp (fun t k => XS.icmpYes X18.here hx rfl (pc0 := 46) (pc' := 53) rfl (hb hby at_46) rfl (feq (by decide : ¬ ((62 : Int32) = (95 : Int32)))).2 (by decide) (by decide) k) ?_
    show Go p.tables e below G (T18.setTop (mkF m 53 #[iv p0, iv (2 : Int32), rv a2', iv (0 : Int32), rv s2', un, un] []))
    refine Go.stp (fun t k => XS.iconst X18.here hx rfl (hb hby at_53) k) ?_
    show Go p.tables e below G (T18.setTop (mkF m 54 #[iv p0, iv (2 : Int32), rv a2', iv (0 : Int32), rv s2', un, un] [(.int (0 : Int32))]))
    refine Go.stp (fun t k => XS.istore X18.here hx rfl (hb hby at_54) rfl (l' := #[iv p0, iv (2 : Int32), rv a2', iv (0 : Int32), rv s2', iv (0 : Int32), un]) rfl k) ?_
    show Go p.tables e below G (T18.setTop (mkF m 56 #[iv p0, iv (2 : Int32), rv a2', iv (0 : Int32), rv s2', iv (0 : Int32), un] []))
    refine Go.stp (fun t k => XS.iloadN X18.here hx rfl (hb hby at_56) rfl k) ?_
    show Go p.tables e below G (T18.setTop (mkF m 57 #[iv p0, iv (2 : Int32), rv a2', iv (0 : Int32), rv s2', iv (0 : Int32), un] [(.int (2 : Int32))]))
    refine Go.stp (fun t k => XS.iconst X18.here hx rfl (hb hby at_57) k) ?_
    show Go p.tables e below G (T18.setTop (mkF m 58 #[iv p0, iv (2 : Int32), rv a2', iv (0 : Int32), rv s2', iv (0 : Int32), un] [(.int (4 : Int32)), (.int (2 : Int32))]))
    refine Go.stp (fun t k => XS.icmpNo X18.here hx rfl (hb hby at_58) rfl (feq (by decide : ¬ ((2 : Int32) = (4 : Int32)))).1 k) ?_
    show Go p.tables e below G (T18.setTop (mkF m 61 #[iv p0, iv (2 : Int32), rv a2', iv (0 : Int32), rv s2', iv (0 : Int32), un] []))
    refine Go.stp (fun t k => XS.iloadN X18.here hx rfl (hb hby at_61) rfl k) ?_
    show Go p.tables e below G (T18.setTop (mkF m 62 #[iv p0, iv (2 : Int32), rv a2', iv (0 : Int32), rv s2', iv (0 : Int32), un] [(.int (2 : Int32))]))
    refine Go.stp (fun t k => XS.iconst X18.here hx rfl (hb hby at_62) k) ?_
    show Go p.tables e below G (T18.setTop (mkF m 63 #[iv p0, iv (2 : Int32), rv a2', iv (0 : Int32), rv s2', iv (0 : Int32), un] [(.int (5 : Int32)), (.int (2 : Int32))]))
    refine Go.stp (fun t k => XS.icmpYes X18.here hx rfl (pc0 := 63) (pc' := 70) rfl (hb hby at_63) rfl (feq (by decide : ¬ ((2 : Int32) = (5 : Int32)))).2 (by decide) (by decide) k) ?_
    show Go p.tables e below G (T18.setTop (mkF m 70 #[iv p0, iv (2 : Int32), rv a2', iv (0 : Int32), rv s2', iv (0 : Int32), un] []))
    refine Go.stp (fun t k => XS.iconst X18.here hx rfl (hb hby at_70) k) ?_
    show Go p.tables e below G (T18.setTop (mkF m 71 #[iv p0, iv (2 : Int32), rv a2', iv (0 : Int32), rv s2', iv (0 : Int32), un] [(.int (0 : Int32))]))
    refine Go.stp (fun t k => XS.istore X18.here hx rfl (hb hby at_71) rfl (l' := #[iv p0, iv (2 : Int32), rv a2', iv (0 : Int32), rv s2', iv (0 : Int32), iv (0 : Int32)]) rfl k) ?_
    show Go p.tables e below G (T18.setTop (mkF m 73 #[iv p0, iv (2 : Int32), rv a2', iv (0 : Int32), rv s2', iv (0 : Int32), iv (0 : Int32)] []))
    refine Go.stp (fun t k => XS.iloadN X18.here hx rfl (hb hby at_73) rfl k) ?_
    show Go p.tables e below G (T18.setTop (mkF m 74 #[iv p0, iv (2 : Int32), rv a2', iv (0 : Int32), rv s2', iv (0 : Int32), iv (0 : Int32)] [(.int (0 : Int32))]))
    refine Go.stp (fun t k => XS.iload X18.here hx rfl (hb hby at_74) rfl k) ?_
    show Go p.tables e below G (T18.setTop (mkF m 76 #[iv p0, iv (2 : Int32), rv a2', iv (0 : Int32), rv s2', iv (0 : Int32), iv (0 : Int32)] [(.int (0 : Int32)), (.int (0 : Int32))]))
    refine Go.stp (fun t k => XS.icmpNo X18.here hx rfl (hb hby at_76) rfl (teq (by decide : (0 : Int32) = (0 : Int32))).2 k) ?_
    show Go p.tables e below G (T18.setTop (mkF m 79 #[iv p0, iv (2 : Int32), rv a2', iv (0 : Int32), rv s2', iv (0 : Int32), iv (0 : Int32)] []))
    refine Go.stp (fun t k => XS.iloadN X18.here hx rfl (hb hby at_79) rfl k) ?_
    show Go p.tables e below G (T18.setTop (mkF m 80 #[iv p0, iv (2 : Int32), rv a2', iv (0 : Int32), rv s2', iv (0 : Int32), iv (0 : Int32)] [(.int (0 : Int32))]))
    refine Go.stp (fun t k => XS.iload X18.here hx rfl (hb hby at_80) rfl k) ?_
    show Go p.tables e below G (T18.setTop (mkF m 82 #[iv p0, iv (2 : Int32), rv a2', iv (0 : Int32), rv s2', iv (0 : Int32), iv (0 : Int32)] [(.int (0 : Int32)), (.int (0 : Int32))]))
    refine Go.stp (fun t k => XS.icmpNo X18.here hx rfl (hb hby at_82) rfl (teq (by decide : (0 : Int32) = (0 : Int32))).2 k) ?_
    show Go p.tables e below G (T18.setTop (mkF m 85 #[iv p0, iv (2 : Int32), rv a2', iv (0 : Int32), rv s2', iv (0 : Int32), iv (0 : Int32)] []))
    refine Go.stp (fun t k => XS.iconst X18.here hx rfl (hb hby at_85) k) ?_
    show Go p.tables e below G (T18.setTop (mkF m 86 #[iv p0, iv (2 : Int32), rv a2', iv (0 : Int32), rv s2', iv (0 : Int32), iv (0 : Int32)] [(.int (1 : Int32))]))
    refine Go.stp (fun t k => XS.goto X18.here hx rfl (pc0 := 86) (pc' := 90) rfl (hb hby at_86) (by decide) (by decide) k) ?_
    show Go p.tables e below G (T18.setTop (mkF m 90 #[iv p0, iv (2 : Int32), rv a2', iv (0 : Int32), rv s2', iv (0 : Int32), iv (0 : Int32)] [(.int (1 : Int32))]))
    obtain ⟨fs, hr, hrun, hended, hW, hsame⟩ := X18.leave (v := some (.int (1 : Int32))) (fun h => by rw [Bd.returns] at h; cases h)
    refine ⟨_, _, retN X18 hx (t := .boolean) Bd.returns (by simp) (hb hby at_90) hr, hrun, hended, hG _ _ _ ?_ ⟨⟨_, rfl⟩, hW, hsame.mono (by decide) (by decide)⟩⟩
    show Q0 Z p0 kc sf a0' a1' a2' a3' a4' a5' s0' s1' s2' s3' s4' s5' v0' v1' v2' v3' v4' v5' h0 n0 _ T18.heap _
    rw [e18]
    exact ⟨rfl, N18⟩
  · show Go p.tables e below G (s₁.setTop (mkF m 8 #[iv p0, iv (3 : Int32), un, un, un, un, un] []))
    refine Go.stp (fun t k => XS.iloadN X0.here hx rfl (hb hby at_8) rfl k) ?_
    show Go p.tables e below G (s₁.setTop (mkF m 9 #[iv p0, iv (3 : Int32), un, un, un, un, un] [(.int (3 : Int32))]))
    obtain ⟨_, _, ⟨T19, L19, k19, n19⟩, -, X19, ⟨Lc19, hQ19, l19, y19, z19⟩, st19⟩ := Jvm.LawKit.callS X0 hx (y := (⟨"com/example/stutter/stutter/eval/KindFairnessPinLaw", "kindAt", "(I)Lcom/example/stutter/stutter/eval/TemporalNode$Kind;"⟩ : MethodName)) hown (mvT hZ (hw _ (List.mem_of_getElem? (i := 1) rfl))) (mvT hZ (hw _ (List.mem_of_getElem? (i := 2) rfl))) (mvT hZ (hw _ (List.mem_of_getElem? (i := 3) rfl))) (mvT hZ (hw _ (List.mem_of_getElem? (i := 4) rfl))) (by decide) (backOf (W := 0) (rm1_3 l Z a0 hw [] a3' h0 n0 Z0 S_a3') hZ (hw _ (List.mem_of_getElem? (i := 4) rfl)) (hw _ (List.mem_of_getElem? (i := 3) rfl)) (by decide) (by decide)) (g := (mkF m 9 #[iv p0, iv (3 : Int32), un, un, un, un, un] [(.int (3 : Int32))])) rfl (by rw [hml]; rfl) (argsL := [(.int (3 : Int32))]) (rest := []) (lenOf pd_5 rfl) rfl (by show 2 * 0 + _ ≤ _; exact Nat.le_of_eq rfl) (hb hby at_9) (fun _ _ => ⟨rfl, e0, (by decide : 0 + 0 ≤ _), (by decide : 0 + 0 ≤ _)⟩)
    dsimp only [Pt.U, Pt.locs, Pt.cells, Pt.slots] at X19 l19 y19 z19 st19 hQ19
    subst l19 y19 z19
    obtain ⟨rfl, Nq19, e19⟩ := hQ19
    have N19 := Fr.app N0 Nq19
    refine Go.stp (fun t k => st19 t k) ?_
    show Go p.tables e below G (T19.setTop (mkF m 12 #[iv p0, iv (3 : Int32), un, un, un, un, un] [(.ref a3')]))
    refine Go.stp (fun t k => XS.astoreN X19.here hx rfl (hb hby at_12) rfl rfl (l' := #[iv p0, iv (3 : Int32), rv a3', un, un, un, un]) rfl k) ?_
    show Go p.tables e below G (T19.setTop (mkF m 13 #[iv p0, iv (3 : Int32), rv a3', un, un, un, un] []))
    refine Go.stp (fun t k => XS.aloadN X19.here hx rfl (hb hby at_13) rfl rfl k) ?_
    show Go p.tables e below G (T19.setTop (mkF m 14 #[iv p0, iv (3 : Int32), rv a3', un, un, un, un] [(.ref a3')]))
    obtain ⟨cq20, kq20, q20a, q20b, q20c⟩ := isOf hZ e19 E_a3'
    obtain ⟨_, _, ⟨T20, L20, k20, n20⟩, -, X20, ⟨Lc20, hQ20, l20, y20, z20⟩, st20⟩ := X19.virtualBack hx (y := (⟨"com/example/stutter/stutter/eval/TemporalNode$Kind", "fairness", "()Z"⟩ : MethodName)) (z := (⟨"com/example/stutter/stutter/eval/TemporalNode$Kind", "fairness", "()Z"⟩ : MethodName)) hown (mvT hZ (hw _ (List.mem_of_getElem? (i := 8) rfl))) (mvT hZ (hw _ (List.mem_of_getElem? (i := 9) rfl))) (notFace_of_selects (args := #[]) (mvT hZ (hw _ (List.mem_of_getElem? (i := 11) rfl)))) (mvT hZ (hw _ (List.mem_of_getElem? (i := 11) rfl))) (mvT hZ (hw _ (List.mem_of_getElem? (i := 10) rfl))) (by decide) (backOf (W := 0) (rm2 l Z a0 hw [] a3' a4' a5' h0 n0 Z0 S_a4' S_a5') hZ (hw _ (List.mem_of_getElem? (i := 12) rfl)) (hw _ (List.mem_of_getElem? (i := 6) rfl)) (by decide) (by decide)) q20a q20c (g := (mkF m 14 #[iv p0, iv (3 : Int32), rv a3', un, un, un, un] [(.ref a3')])) rfl (by rw [hml]; rfl) (Steps.refl _) (argsL := []) (rest := []) (lenOf pd_2 rfl) rfl (by show 2 * 0 + _ ≤ _; exact Nat.le_of_eq rfl) (hb hby at_14) (fun _ _ => ⟨rfl, e19, (by decide : 0 + 0 ≤ _), (by decide : 0 + 0 ≤ _)⟩)
    dsimp only [Pt.U, Pt.locs, Pt.cells, Pt.slots] at X20 l20 y20 z20 st20 hQ20
    subst l20 y20 z20
    obtain ⟨rfl, Nq20, e20⟩ := hQ20
    have N20 := Fr.app N19 Nq20
    have pp20 : own_fair a3' a4' a5' = (0 : Int32) := by simp [own_fair, ne_a3'_a4', ne_a3'_a5']
    rw [pp20] at st20
    refine Go.stp (fun t k => st20.trans k) ?_
    show Go p.tables e below G (T20.setTop (mkF m 17 #[iv p0, iv (3 : Int32), rv a3', un, un, un, un] [(.int (0 : Int32))]))
    refine Go.stp (fun t k => XS.istoreN X20.here hx rfl (hb hby at_17) rfl (l' := #[iv p0, iv (3 : Int32), rv a3', iv (0 : Int32), un, un, un]) rfl k) ?_
    show Go p.tables e below G (T20.setTop (mkF m 18 #[iv p0, iv (3 : Int32), rv a3', iv (0 : Int32), un, un, un] []))
    refine Go.stp (fun t k => XS.aloadN X20.here hx rfl (hb hby at_18) rfl rfl k) ?_
    show Go p.tables e below G (T20.setTop (mkF m 19 #[iv p0, iv (3 : Int32), rv a3', iv (0 : Int32), un, un, un] [(.ref a3')]))
    obtain ⟨cq21, kq21, q21a, q21b, q21c⟩ := isOf hZ e20 E_a3'
    obtain ⟨_, _, ⟨T21, L21, k21, n21⟩, -, X21, ⟨Lc21, hQ21, l21, y21, z21⟩, st21⟩ := X20.virtualBack hx (y := (⟨"com/example/stutter/stutter/eval/TemporalNode$Kind", "spelling", "()Ljava/lang/String;"⟩ : MethodName)) (z := (⟨"com/example/stutter/stutter/eval/TemporalNode$Kind", "spelling", "()Ljava/lang/String;"⟩ : MethodName)) hown (mvT hZ (hw _ (List.mem_of_getElem? (i := 17) rfl))) (mvT hZ (hw _ (List.mem_of_getElem? (i := 18) rfl))) (notFace_of_selects (args := #[]) (mvT hZ (hw _ (List.mem_of_getElem? (i := 20) rfl)))) (mvT hZ (hw _ (List.mem_of_getElem? (i := 20) rfl))) (mvT hZ (hw _ (List.mem_of_getElem? (i := 19) rfl))) (by decide) (backOf (W := 0) (rm3 l Z a0 hw [] a3' s3' h0 n0 Z0 Fs3) hZ (hw _ (List.mem_of_getElem? (i := 21) rfl)) (hw _ (List.mem_of_getElem? (i := 6) rfl)) (by decide) (by decide)) q21a q21c (g := (mkF m 19 #[iv p0, iv (3 : Int32), rv a3', iv (0 : Int32), un, un, un] [(.ref a3')])) rfl (by rw [hml]; rfl) (Steps.refl _) (argsL := []) (rest := []) (lenOf pd_6 rfl) rfl (by show 2 * 0 + _ ≤ _; exact Nat.le_of_eq rfl) (hb hby at_19) (fun _ _ => ⟨rfl, e20, (by decide : 0 + 0 ≤ _), (by decide : 0 + 0 ≤ _)⟩)
    dsimp only [Pt.U, Pt.locs, Pt.cells, Pt.slots] at X21 l21 y21 z21 st21 hQ21
    subst l21 y21 z21
    obtain ⟨rfl, Nq21, e21⟩ := hQ21
    have N21 := Fr.app N20 Nq21
    refine Go.stp (fun t k => st21.trans k) ?_
    show Go p.tables e below G (T21.setTop (mkF m 22 #[iv p0, iv (3 : Int32), rv a3', iv (0 : Int32), un, un, un] [(.ref s3')]))
    refine Go.stp (fun t k => XS.astore X21.here hx rfl (hb hby at_22) rfl rfl (l' := #[iv p0, iv (3 : Int32), rv a3', iv (0 : Int32), rv s3', un, un]) rfl k) ?_
    show Go p.tables e below G (T21.setTop (mkF m 24 #[iv p0, iv (3 : Int32), rv a3', iv (0 : Int32), rv s3', un, un] []))
    refine Go.stp (fun t k => XS.aload X21.here hx rfl (hb hby at_24) rfl rfl k) ?_
    show Go p.tables e below G (T21.setTop (mkF m 26 #[iv p0, iv (3 : Int32), rv a3', iv (0 : Int32), rv s3', un, un] [(.ref s3')]))
    obtain ⟨cq22, kq22, q22a, q22b, q22c⟩ := isOf hZ e21 E_s3'
    obtain ⟨_, _, ⟨T22, L22, k22, n22⟩, -, X22, ⟨Lc22, hQ22, l22, y22, z22⟩, st22⟩ := X21.virtualBack hx (y := (⟨"java/lang/String", "length", "()I"⟩ : MethodName)) (z := (⟨"java/lang/String", "length", "()I"⟩ : MethodName)) hown (mvT hZ (hw _ (List.mem_of_getElem? (i := 24) rfl))) (mvT hZ (hw _ (List.mem_of_getElem? (i := 25) rfl))) (notFace_of_selects (args := #[]) (mvT hZ (hw _ (List.mem_of_getElem? (i := 27) rfl)))) (mvT hZ (hw _ (List.mem_of_getElem? (i := 27) rfl))) (mvT hZ (hw _ (List.mem_of_getElem? (i := 26) rfl))) (by decide) (backOf (W := 0) (rm4_4 l Z a0 hw [] s3' v3' kc (fun j => [(45 : Int32), (43 : Int32), (45 : Int32), (62 : Int32)].getD j 0) h0 n0 Z0 S_cs hkc E_s3' Fv_s3' Fc_s3' I_v3') hZ (hw _ (List.mem_of_getElem? (i := 29) rfl)) (hw _ (List.mem_of_getElem? (i := 28) rfl)) (by decide) (by decide)) q22a q22c (g := (mkF m 26 #[iv p0, iv (3 : Int32), rv a3', iv (0 : Int32), rv s3', un, un] [(.ref s3')])) rfl (by rw [hml]; rfl) (Steps.refl _) (argsL := []) (rest := []) (lenOf pd_7 rfl) rfl (by show 2 * 0 + _ ≤ _; exact Nat.le_of_eq rfl) (hb hby at_26) (fun _ _ => ⟨rfl, e21, (by decide : 0 + 0 ≤ _), (by decide : 0 + 0 ≤ _)⟩)
    dsimp only [Pt.U, Pt.locs, Pt.cells, Pt.slots] at X22 l22 y22 z22 st22 hQ22
    subst l22 y22 z22
    obtain ⟨rfl, Nq22, e22⟩ := hQ22
    have N22 := Fr.app N21 Nq22
    refine Go.stp (fun t k => st22.trans k) ?_
    show Go p.tables e below G (T22.setTop (mkF m 29 #[iv p0, iv (3 : Int32), rv a3', iv (0 : Int32), rv s3', un, un] [(.int (4 : Int32))]))
    refine Go.stp (fun t k => XS.ifNo X22.here hx rfl (hb hby at_29) rfl ((if0 _ _).trans (tlt (by decide : (0 : Int32) < (4 : Int32))).2.2.2) k) ?_
    show Go p.tables e below G (T22.setTop (mkF m 32 #[iv p0, iv (3 : Int32), rv a3', iv (0 : Int32), rv s3', un, un] []))
    refine Go.stp (fun t k => XS.aload X22.here hx rfl (hb hby at_32) rfl rfl k) ?_
    show Go p.tables e below G (T22.setTop (mkF m 34 #[iv p0, iv (3 : Int32), rv a3', iv (0 : Int32), rv s3', un, un] [(.ref s3')]))
    refine Go.stp (fun t k => XS.aload X22.here hx rfl (hb hby at_34) rfl rfl k) ?_
    show Go p.tables e below G (T22.setTop (mkF m 36 #[iv p0, iv (3 : Int32), rv a3', iv (0 : Int32), rv s3', un, un] [(.ref s3'), (.ref s3')]))
    obtain ⟨cq23, kq23, q23a, q23b, q23c⟩ := isOf hZ e22 E_s3'
    obtain ⟨_, _, ⟨T23, L23, k23, n23⟩, -, X23, ⟨Lc23, hQ23, l23, y23, z23⟩, st23⟩ := X22.virtualBack hx (y := (⟨"java/lang/String", "length", "()I"⟩ : MethodName)) (z := (⟨"java/lang/String", "length", "()I"⟩ : MethodName)) hown (mvT hZ (hw _ (List.mem_of_getElem? (i := 24) rfl))) (mvT hZ (hw _ (List.mem_of_getElem? (i := 25) rfl))) (notFace_of_selects (args := #[]) (mvT hZ (hw _ (List.mem_of_getElem? (i := 27) rfl)))) (mvT hZ (hw _ (List.mem_of_getElem? (i := 27) rfl))) (mvT hZ (hw _ (List.mem_of_getElem? (i := 26) rfl))) (by decide) (backOf (W := 1) (rm4_4 l Z a0 hw [] s3' v3' kc (fun j => [(45 : Int32), (43 : Int32), (45 : Int32), (62 : Int32)].getD j 0) h0 n0 Z0 S_cs hkc E_s3' Fv_s3' Fc_s3' I_v3') hZ (hw _ (List.mem_of_getElem? (i := 29) rfl)) (hw _ (List.mem_of_getElem? (i := 28) rfl)) (by decide) (by decide)) q23a q23c (g := (mkF m 36 #[iv p0, iv (3 : Int32), rv a3', iv (0 : Int32), rv s3', un, un] [(.ref s3'), (.ref s3')])) rfl (by rw [hml]; rfl) (Steps.refl _) (argsL := []) (rest := [(.ref s3')]) (lenOf pd_7 rfl) rfl (by show 2 * 0 + _ ≤ _; exact Nat.le_of_eq rfl) (hb hby at_36) (fun _ _ => ⟨rfl, e22, (by decide : 0 + 0 ≤ _), (by decide : 0 + 0 ≤ _)⟩)
    dsimp only [Pt.U, Pt.locs, Pt.cells, Pt.slots] at X23 l23 y23 z23 st23 hQ23
    subst l23 y23 z23
    obtain ⟨rfl, Nq23, e23⟩ := hQ23
    have N23 := Fr.app N22 Nq23
    refine Go.stp (fun t k => st23.trans k) ?_
    show Go p.tables e below G (T23.setTop (mkF m 39 #[iv p0, iv (3 : Int32), rv a3', iv (0 : Int32), rv s3', un, un] [(.int (4 : Int32)), (.ref s3')]))
    refine Go.stp (fun t k => XS.iconst X23.here hx rfl (hb hby at_39) k) ?_
    show Go p.tables e below G (T23.setTop (mkF m 40 #[iv p0, iv (3 : Int32), rv a3', iv (0 : Int32), rv s3', un, un] [(.int (1 : Int32)), (.int (4 : Int32)), (.ref s3')]))
    refine Go.stp (fun t k => XS.isub X23.here hx rfl (hb hby at_40) rfl k) ?_
    show Go p.tables e below G (T23.setTop (mkF m 41 #[iv p0, iv (3 : Int32), rv a3', iv (0 : Int32), rv s3', un, un] [(.int ((4 : Int32) - (1 : Int32))), (.ref s3')]))
    obtain ⟨cq24, kq24, q24a, q24b, q24c⟩ := isOf hZ e23 E_s3'
    obtain ⟨_, _, ⟨T24, L24, k24, n24⟩, -, X24, ⟨Lc24, hQ24, l24, y24, z24⟩, st24⟩ := X23.virtualBack hx (y := (⟨"java/lang/String", "charAt", "(I)C"⟩ : MethodName)) (z := (⟨"java/lang/String", "charAt", "(I)C"⟩ : MethodName)) hown (mvT hZ (hw _ (List.mem_of_getElem? (i := 40) rfl))) (mvT hZ (hw _ (List.mem_of_getElem? (i := 41) rfl))) (notFace_of_selects (args := #[]) (mvT hZ (hw _ (List.mem_of_getElem? (i := 43) rfl)))) (mvT hZ (hw _ (List.mem_of_getElem? (i := 43) rfl))) (mvT hZ (hw _ (List.mem_of_getElem? (i := 42) rfl))) (by decide) (backOf (W := 0) (rm6_4 l Z a0 hw [] s3' v3' kc sf (fun j => [(45 : Int32), (43 : Int32), (45 : Int32), (62 : Int32)].getD j 0) h0 n0 Z0 S_cs hkc S_sf hsf E_s3' Fv_s3' Fc_s3' I_v3') hZ (hw _ (List.mem_of_getElem? (i := 44) rfl)) (hw _ (List.mem_of_getElem? (i := 28) rfl)) (by decide) (by decide)) q24a q24c (g := (mkF m 41 #[iv p0, iv (3 : Int32), rv a3', iv (0 : Int32), rv s3', un, un] [(.int ((4 : Int32) - (1 : Int32))), (.ref s3')])) rfl (by rw [hml]; rfl) (Steps.refl _) (argsL := [(.int ((4 : Int32) - (1 : Int32)))]) (rest := []) (lenOf pd_8 rfl) rfl (by show 2 * 0 + _ ≤ _; exact Nat.le_of_eq rfl) (hb hby at_41) (fun _ _ => ⟨rfl, e23, (by decide : 0 + 0 ≤ _), (by decide : 0 + 0 ≤ _)⟩)
    dsimp only [Pt.U, Pt.locs, Pt.cells, Pt.slots] at X24 l24 y24 z24 st24 hQ24
    subst l24 y24 z24
    obtain ⟨rfl, Nq24, e24⟩ := hQ24
    have N24 := Fr.app N23 Nq24
    have pp24 : nar .char (own_ch ((fun j => [(45 : Int32), (43 : Int32), (45 : Int32), (62 : Int32)].getD j 0) 3)) = (62 : Int32) := by decide
    rw [pp24] at st24
    refine Go.stp (fun t k => st24.trans k) ?_
    show Go p.tables e below G (T24.setTop (mkF m 44 #[iv p0, iv (3 : Int32), rv a3', iv (0 : Int32), rv s3', un, un] [(.int (62 : Int32))]))
    refine Go.stp (fun t k => XS.bipush X24.here hx rfl (hb hby at_44) k) ?_
    show Go p.tables e below G (T24.setTop (mkF m 46 #[iv p0, iv (3 : Int32), rv a3', iv (0 : Int32), rv s3', un, un] [(.int (95 : Int32)), (.int (62 : Int32))]))
    refine Go.stp (fun t k => XS.icmpYes X24.here hx rfl (pc0 := 46) (pc' := 53) rfl (hb hby at_46) rfl (feq (by decide : ¬ ((62 : Int32) = (95 : Int32)))).2 (by decide) (by decide) k) ?_
    show Go p.tables e below G (T24.setTop (mkF m 53 #[iv p0, iv (3 : Int32), rv a3', iv (0 : Int32), rv s3', un, un] []))
    refine Go.stp (fun t k => XS.iconst X24.here hx rfl (hb hby at_53) k) ?_
    show Go p.tables e below G (T24.setTop (mkF m 54 #[iv p0, iv (3 : Int32), rv a3', iv (0 : Int32), rv s3', un, un] [(.int (0 : Int32))]))
    refine Go.stp (fun t k => XS.istore X24.here hx rfl (hb hby at_54) rfl (l' := #[iv p0, iv (3 : Int32), rv a3', iv (0 : Int32), rv s3', iv (0 : Int32), un]) rfl k) ?_
    show Go p.tables e below G (T24.setTop (mkF m 56 #[iv p0, iv (3 : Int32), rv a3', iv (0 : Int32), rv s3', iv (0 : Int32), un] []))
    refine Go.stp (fun t k => XS.iloadN X24.here hx rfl (hb hby at_56) rfl k) ?_
    show Go p.tables e below G (T24.setTop (mkF m 57 #[iv p0, iv (3 : Int32), rv a3', iv (0 : Int32), rv s3', iv (0 : Int32), un] [(.int (3 : Int32))]))
    refine Go.stp (fun t k => XS.iconst X24.here hx rfl (hb hby at_57) k) ?_
    show Go p.tables e below G (T24.setTop (mkF m 58 #[iv p0, iv (3 : Int32), rv a3', iv (0 : Int32), rv s3', iv (0 : Int32), un] [(.int (4 : Int32)), (.int (3 : Int32))]))
    refine Go.stp (fun t k => XS.icmpNo X24.here hx rfl (hb hby at_58) rfl (feq (by decide : ¬ ((3 : Int32) = (4 : Int32)))).1 k) ?_
    show Go p.tables e below G (T24.setTop (mkF m 61 #[iv p0, iv (3 : Int32), rv a3', iv (0 : Int32), rv s3', iv (0 : Int32), un] []))
    refine Go.stp (fun t k => XS.iloadN X24.here hx rfl (hb hby at_61) rfl k) ?_
    show Go p.tables e below G (T24.setTop (mkF m 62 #[iv p0, iv (3 : Int32), rv a3', iv (0 : Int32), rv s3', iv (0 : Int32), un] [(.int (3 : Int32))]))
    refine Go.stp (fun t k => XS.iconst X24.here hx rfl (hb hby at_62) k) ?_
    show Go p.tables e below G (T24.setTop (mkF m 63 #[iv p0, iv (3 : Int32), rv a3', iv (0 : Int32), rv s3', iv (0 : Int32), un] [(.int (5 : Int32)), (.int (3 : Int32))]))
    refine Go.stp (fun t k => XS.icmpYes X24.here hx rfl (pc0 := 63) (pc' := 70) rfl (hb hby at_63) rfl (feq (by decide : ¬ ((3 : Int32) = (5 : Int32)))).2 (by decide) (by decide) k) ?_
    show Go p.tables e below G (T24.setTop (mkF m 70 #[iv p0, iv (3 : Int32), rv a3', iv (0 : Int32), rv s3', iv (0 : Int32), un] []))
    refine Go.stp (fun t k => XS.iconst X24.here hx rfl (hb hby at_70) k) ?_
    show Go p.tables e below G (T24.setTop (mkF m 71 #[iv p0, iv (3 : Int32), rv a3', iv (0 : Int32), rv s3', iv (0 : Int32), un] [(.int (0 : Int32))]))
    refine Go.stp (fun t k => XS.istore X24.here hx rfl (hb hby at_71) rfl (l' := #[iv p0, iv (3 : Int32), rv a3', iv (0 : Int32), rv s3', iv (0 : Int32), iv (0 : Int32)]) rfl k) ?_
    show Go p.tables e below G (T24.setTop (mkF m 73 #[iv p0, iv (3 : Int32), rv a3', iv (0 : Int32), rv s3', iv (0 : Int32), iv (0 : Int32)] []))
    refine Go.stp (fun t k => XS.iloadN X24.here hx rfl (hb hby at_73) rfl k) ?_
    show Go p.tables e below G (T24.setTop (mkF m 74 #[iv p0, iv (3 : Int32), rv a3', iv (0 : Int32), rv s3', iv (0 : Int32), iv (0 : Int32)] [(.int (0 : Int32))]))
    refine Go.stp (fun t k => XS.iload X24.here hx rfl (hb hby at_74) rfl k) ?_
    show Go p.tables e below G (T24.setTop (mkF m 76 #[iv p0, iv (3 : Int32), rv a3', iv (0 : Int32), rv s3', iv (0 : Int32), iv (0 : Int32)] [(.int (0 : Int32)), (.int (0 : Int32))]))
    refine Go.stp (fun t k => XS.icmpNo X24.here hx rfl (hb hby at_76) rfl (teq (by decide : (0 : Int32) = (0 : Int32))).2 k) ?_
    show Go p.tables e below G (T24.setTop (mkF m 79 #[iv p0, iv (3 : Int32), rv a3', iv (0 : Int32), rv s3', iv (0 : Int32), iv (0 : Int32)] []))
    refine Go.stp (fun t k => XS.iloadN X24.here hx rfl (hb hby at_79) rfl k) ?_
    show Go p.tables e below G (T24.setTop (mkF m 80 #[iv p0, iv (3 : Int32), rv a3', iv (0 : Int32), rv s3', iv (0 : Int32), iv (0 : Int32)] [(.int (0 : Int32))]))
    refine Go.stp (fun t k => XS.iload X24.here hx rfl (hb hby at_80) rfl k) ?_
    show Go p.tables e below G (T24.setTop (mkF m 82 #[iv p0, iv (3 : Int32), rv a3', iv (0 : Int32), rv s3', iv (0 : Int32), iv (0 : Int32)] [(.int (0 : Int32)), (.int (0 : Int32))]))
    refine Go.stp (fun t k => XS.icmpNo X24.here hx rfl (hb hby at_82) rfl (teq (by decide : (0 : Int32) = (0 : Int32))).2 k) ?_
    show Go p.tables e below G (T24.setTop (mkF m 85 #[iv p0, iv (3 : Int32), rv a3', iv (0 : Int32), rv s3', iv (0 : Int32), iv (0 : Int32)] []))
    refine Go.stp (fun t k => XS.iconst X24.here hx rfl (hb hby at_85) k) ?_
    show Go p.tables e below G (T24.setTop (mkF m 86 #[iv p0, iv (3 : Int32), rv a3', iv (0 : Int32), rv s3', iv (0 : Int32), iv (0 : Int32)] [(.int (1 : Int32))]))
    refine Go.stp (fun t k => XS.goto X24.here hx rfl (pc0 := 86) (pc' := 90) rfl (hb hby at_86) (by decide) (by decide) k) ?_
    show Go p.tables e below G (T24.setTop (mkF m 90 #[iv p0, iv (3 : Int32), rv a3', iv (0 : Int32), rv s3', iv (0 : Int32), iv (0 : Int32)] [(.int (1 : Int32))]))
    obtain ⟨fs, hr, hrun, hended, hW, hsame⟩ := X24.leave (v := some (.int (1 : Int32))) (fun h => by rw [Bd.returns] at h; cases h)
    refine ⟨_, _, retN X24 hx (t := .boolean) Bd.returns (by simp) (hb hby at_90) hr, hrun, hended, hG _ _ _ ?_ ⟨⟨_, rfl⟩, hW, hsame.mono (by decide) (by decide)⟩⟩
    show Q0 Z p0 kc sf a0' a1' a2' a3' a4' a5' s0' s1' s2' s3' s4' s5' v0' v1' v2' v3' v4' v5' h0 n0 _ T24.heap _
    rw [e24]
    exact ⟨rfl, N24⟩
  · show Go p.tables e below G (s₁.setTop (mkF m 8 #[iv p0, iv (4 : Int32), un, un, un, un, un] []))
    refine Go.stp (fun t k => XS.iloadN X0.here hx rfl (hb hby at_8) rfl k) ?_
    show Go p.tables e below G (s₁.setTop (mkF m 9 #[iv p0, iv (4 : Int32), un, un, un, un, un] [(.int (4 : Int32))]))
    obtain ⟨_, _, ⟨T25, L25, k25, n25⟩, -, X25, ⟨Lc25, hQ25, l25, y25, z25⟩, st25⟩ := Jvm.LawKit.callS X0 hx (y := (⟨"com/example/stutter/stutter/eval/KindFairnessPinLaw", "kindAt", "(I)Lcom/example/stutter/stutter/eval/TemporalNode$Kind;"⟩ : MethodName)) hown (mvT hZ (hw _ (List.mem_of_getElem? (i := 1) rfl))) (mvT hZ (hw _ (List.mem_of_getElem? (i := 2) rfl))) (mvT hZ (hw _ (List.mem_of_getElem? (i := 3) rfl))) (mvT hZ (hw _ (List.mem_of_getElem? (i := 4) rfl))) (by decide) (backOf (W := 0) (rm1_4 l Z a0 hw [] a4' h0 n0 Z0 S_a4') hZ (hw _ (List.mem_of_getElem? (i := 4) rfl)) (hw _ (List.mem_of_getElem? (i := 3) rfl)) (by decide) (by decide)) (g := (mkF m 9 #[iv p0, iv (4 : Int32), un, un, un, un, un] [(.int (4 : Int32))])) rfl (by rw [hml]; rfl) (argsL := [(.int (4 : Int32))]) (rest := []) (lenOf pd_5 rfl) rfl (by show 2 * 0 + _ ≤ _; exact Nat.le_of_eq rfl) (hb hby at_9) (fun _ _ => ⟨rfl, e0, (by decide : 0 + 0 ≤ _), (by decide : 0 + 0 ≤ _)⟩)
    dsimp only [Pt.U, Pt.locs, Pt.cells, Pt.slots] at X25 l25 y25 z25 st25 hQ25
    subst l25 y25 z25
    obtain ⟨rfl, Nq25, e25⟩ := hQ25
    have N25 := Fr.app N0 Nq25
    refine Go.stp (fun t k => st25 t k) ?_
    show Go p.tables e below G (T25.setTop (mkF m 12 #[iv p0, iv (4 : Int32), un, un, un, un, un] [(.ref a4')]))
    refine Go.stp (fun t k => XS.astoreN X25.here hx rfl (hb hby at_12) rfl rfl (l' := #[iv p0, iv (4 : Int32), rv a4', un, un, un, un]) rfl k) ?_
    show Go p.tables e below G (T25.setTop (mkF m 13 #[iv p0, iv (4 : Int32), rv a4', un, un, un, un] []))
    refine Go.stp (fun t k => XS.aloadN X25.here hx rfl (hb hby at_13) rfl rfl k) ?_
    show Go p.tables e below G (T25.setTop (mkF m 14 #[iv p0, iv (4 : Int32), rv a4', un, un, un, un] [(.ref a4')]))
    obtain ⟨cq26, kq26, q26a, q26b, q26c⟩ := isOf hZ e25 E_a4'
    obtain ⟨_, _, ⟨T26, L26, k26, n26⟩, -, X26, ⟨Lc26, hQ26, l26, y26, z26⟩, st26⟩ := X25.virtualBack hx (y := (⟨"com/example/stutter/stutter/eval/TemporalNode$Kind", "fairness", "()Z"⟩ : MethodName)) (z := (⟨"com/example/stutter/stutter/eval/TemporalNode$Kind", "fairness", "()Z"⟩ : MethodName)) hown (mvT hZ (hw _ (List.mem_of_getElem? (i := 8) rfl))) (mvT hZ (hw _ (List.mem_of_getElem? (i := 9) rfl))) (notFace_of_selects (args := #[]) (mvT hZ (hw _ (List.mem_of_getElem? (i := 11) rfl)))) (mvT hZ (hw _ (List.mem_of_getElem? (i := 11) rfl))) (mvT hZ (hw _ (List.mem_of_getElem? (i := 10) rfl))) (by decide) (backOf (W := 0) (rm2 l Z a0 hw [] a4' a4' a5' h0 n0 Z0 S_a4' S_a5') hZ (hw _ (List.mem_of_getElem? (i := 12) rfl)) (hw _ (List.mem_of_getElem? (i := 6) rfl)) (by decide) (by decide)) q26a q26c (g := (mkF m 14 #[iv p0, iv (4 : Int32), rv a4', un, un, un, un] [(.ref a4')])) rfl (by rw [hml]; rfl) (Steps.refl _) (argsL := []) (rest := []) (lenOf pd_2 rfl) rfl (by show 2 * 0 + _ ≤ _; exact Nat.le_of_eq rfl) (hb hby at_14) (fun _ _ => ⟨rfl, e25, (by decide : 0 + 0 ≤ _), (by decide : 0 + 0 ≤ _)⟩)
    dsimp only [Pt.U, Pt.locs, Pt.cells, Pt.slots] at X26 l26 y26 z26 st26 hQ26
    subst l26 y26 z26
    obtain ⟨rfl, Nq26, e26⟩ := hQ26
    have N26 := Fr.app N25 Nq26
    have pp26 : own_fair a4' a4' a5' = (1 : Int32) := by simp [own_fair]
    rw [pp26] at st26
    refine Go.stp (fun t k => st26.trans k) ?_
    show Go p.tables e below G (T26.setTop (mkF m 17 #[iv p0, iv (4 : Int32), rv a4', un, un, un, un] [(.int (1 : Int32))]))
    refine Go.stp (fun t k => XS.istoreN X26.here hx rfl (hb hby at_17) rfl (l' := #[iv p0, iv (4 : Int32), rv a4', iv (1 : Int32), un, un, un]) rfl k) ?_
    show Go p.tables e below G (T26.setTop (mkF m 18 #[iv p0, iv (4 : Int32), rv a4', iv (1 : Int32), un, un, un] []))
    refine Go.stp (fun t k => XS.aloadN X26.here hx rfl (hb hby at_18) rfl rfl k) ?_
    show Go p.tables e below G (T26.setTop (mkF m 19 #[iv p0, iv (4 : Int32), rv a4', iv (1 : Int32), un, un, un] [(.ref a4')]))
    obtain ⟨cq27, kq27, q27a, q27b, q27c⟩ := isOf hZ e26 E_a4'
    obtain ⟨_, _, ⟨T27, L27, k27, n27⟩, -, X27, ⟨Lc27, hQ27, l27, y27, z27⟩, st27⟩ := X26.virtualBack hx (y := (⟨"com/example/stutter/stutter/eval/TemporalNode$Kind", "spelling", "()Ljava/lang/String;"⟩ : MethodName)) (z := (⟨"com/example/stutter/stutter/eval/TemporalNode$Kind", "spelling", "()Ljava/lang/String;"⟩ : MethodName)) hown (mvT hZ (hw _ (List.mem_of_getElem? (i := 17) rfl))) (mvT hZ (hw _ (List.mem_of_getElem? (i := 18) rfl))) (notFace_of_selects (args := #[]) (mvT hZ (hw _ (List.mem_of_getElem? (i := 20) rfl)))) (mvT hZ (hw _ (List.mem_of_getElem? (i := 20) rfl))) (mvT hZ (hw _ (List.mem_of_getElem? (i := 19) rfl))) (by decide) (backOf (W := 0) (rm3 l Z a0 hw [] a4' s4' h0 n0 Z0 Fs4) hZ (hw _ (List.mem_of_getElem? (i := 21) rfl)) (hw _ (List.mem_of_getElem? (i := 6) rfl)) (by decide) (by decide)) q27a q27c (g := (mkF m 19 #[iv p0, iv (4 : Int32), rv a4', iv (1 : Int32), un, un, un] [(.ref a4')])) rfl (by rw [hml]; rfl) (Steps.refl _) (argsL := []) (rest := []) (lenOf pd_6 rfl) rfl (by show 2 * 0 + _ ≤ _; exact Nat.le_of_eq rfl) (hb hby at_19) (fun _ _ => ⟨rfl, e26, (by decide : 0 + 0 ≤ _), (by decide : 0 + 0 ≤ _)⟩)
    dsimp only [Pt.U, Pt.locs, Pt.cells, Pt.slots] at X27 l27 y27 z27 st27 hQ27
    subst l27 y27 z27
    obtain ⟨rfl, Nq27, e27⟩ := hQ27
    have N27 := Fr.app N26 Nq27
    refine Go.stp (fun t k => st27.trans k) ?_
    show Go p.tables e below G (T27.setTop (mkF m 22 #[iv p0, iv (4 : Int32), rv a4', iv (1 : Int32), un, un, un] [(.ref s4')]))
    refine Go.stp (fun t k => XS.astore X27.here hx rfl (hb hby at_22) rfl rfl (l' := #[iv p0, iv (4 : Int32), rv a4', iv (1 : Int32), rv s4', un, un]) rfl k) ?_
    show Go p.tables e below G (T27.setTop (mkF m 24 #[iv p0, iv (4 : Int32), rv a4', iv (1 : Int32), rv s4', un, un] []))
    refine Go.stp (fun t k => XS.aload X27.here hx rfl (hb hby at_24) rfl rfl k) ?_
    show Go p.tables e below G (T27.setTop (mkF m 26 #[iv p0, iv (4 : Int32), rv a4', iv (1 : Int32), rv s4', un, un] [(.ref s4')]))
    obtain ⟨cq28, kq28, q28a, q28b, q28c⟩ := isOf hZ e27 E_s4'
    obtain ⟨_, _, ⟨T28, L28, k28, n28⟩, -, X28, ⟨Lc28, hQ28, l28, y28, z28⟩, st28⟩ := X27.virtualBack hx (y := (⟨"java/lang/String", "length", "()I"⟩ : MethodName)) (z := (⟨"java/lang/String", "length", "()I"⟩ : MethodName)) hown (mvT hZ (hw _ (List.mem_of_getElem? (i := 24) rfl))) (mvT hZ (hw _ (List.mem_of_getElem? (i := 25) rfl))) (notFace_of_selects (args := #[]) (mvT hZ (hw _ (List.mem_of_getElem? (i := 27) rfl)))) (mvT hZ (hw _ (List.mem_of_getElem? (i := 27) rfl))) (mvT hZ (hw _ (List.mem_of_getElem? (i := 26) rfl))) (by decide) (backOf (W := 0) (rm4_3 l Z a0 hw [] s4' v4' kc (fun j => [(87 : Int32), (70 : Int32), (95 : Int32)].getD j 0) h0 n0 Z0 S_cs hkc E_s4' Fv_s4' Fc_s4' I_v4') hZ (hw _ (List.mem_of_getElem? (i := 29) rfl)) (hw _ (List.mem_of_getElem? (i := 28) rfl)) (by decide) (by decide)) q28a q28c (g := (mkF m 26 #[iv p0, iv (4 : Int32), rv a4', iv (1 : Int32), rv s4', un, un] [(.ref s4')])) rfl (by rw [hml]; rfl) (Steps.refl _) (argsL := []) (rest := []) (lenOf pd_7 rfl) rfl (by show 2 * 0 + _ ≤ _; exact Nat.le_of_eq rfl) (hb hby at_26) (fun _ _ => ⟨rfl, e27, (by decide : 0 + 0 ≤ _), (by decide : 0 + 0 ≤ _)⟩)
    dsimp only [Pt.U, Pt.locs, Pt.cells, Pt.slots] at X28 l28 y28 z28 st28 hQ28
    subst l28 y28 z28
    obtain ⟨rfl, Nq28, e28⟩ := hQ28
    have N28 := Fr.app N27 Nq28
    refine Go.stp (fun t k => st28.trans k) ?_
    show Go p.tables e below G (T28.setTop (mkF m 29 #[iv p0, iv (4 : Int32), rv a4', iv (1 : Int32), rv s4', un, un] [(.int (3 : Int32))]))
    refine Go.stp (fun t k => XS.ifNo X28.here hx rfl (hb hby at_29) rfl ((if0 _ _).trans (tlt (by decide : (0 : Int32) < (3 : Int32))).2.2.2) k) ?_
    show Go p.tables e below G (T28.setTop (mkF m 32 #[iv p0, iv (4 : Int32), rv a4', iv (1 : Int32), rv s4', un, un] []))
    refine Go.stp (fun t k => XS.aload X28.here hx rfl (hb hby at_32) rfl rfl k) ?_
    show Go p.tables e below G (T28.setTop (mkF m 34 #[iv p0, iv (4 : Int32), rv a4', iv (1 : Int32), rv s4', un, un] [(.ref s4')]))
    refine Go.stp (fun t k => XS.aload X28.here hx rfl (hb hby at_34) rfl rfl k) ?_
    show Go p.tables e below G (T28.setTop (mkF m 36 #[iv p0, iv (4 : Int32), rv a4', iv (1 : Int32), rv s4', un, un] [(.ref s4'), (.ref s4')]))
    obtain ⟨cq29, kq29, q29a, q29b, q29c⟩ := isOf hZ e28 E_s4'
    obtain ⟨_, _, ⟨T29, L29, k29, n29⟩, -, X29, ⟨Lc29, hQ29, l29, y29, z29⟩, st29⟩ := X28.virtualBack hx (y := (⟨"java/lang/String", "length", "()I"⟩ : MethodName)) (z := (⟨"java/lang/String", "length", "()I"⟩ : MethodName)) hown (mvT hZ (hw _ (List.mem_of_getElem? (i := 24) rfl))) (mvT hZ (hw _ (List.mem_of_getElem? (i := 25) rfl))) (notFace_of_selects (args := #[]) (mvT hZ (hw _ (List.mem_of_getElem? (i := 27) rfl)))) (mvT hZ (hw _ (List.mem_of_getElem? (i := 27) rfl))) (mvT hZ (hw _ (List.mem_of_getElem? (i := 26) rfl))) (by decide) (backOf (W := 1) (rm4_3 l Z a0 hw [] s4' v4' kc (fun j => [(87 : Int32), (70 : Int32), (95 : Int32)].getD j 0) h0 n0 Z0 S_cs hkc E_s4' Fv_s4' Fc_s4' I_v4') hZ (hw _ (List.mem_of_getElem? (i := 29) rfl)) (hw _ (List.mem_of_getElem? (i := 28) rfl)) (by decide) (by decide)) q29a q29c (g := (mkF m 36 #[iv p0, iv (4 : Int32), rv a4', iv (1 : Int32), rv s4', un, un] [(.ref s4'), (.ref s4')])) rfl (by rw [hml]; rfl) (Steps.refl _) (argsL := []) (rest := [(.ref s4')]) (lenOf pd_7 rfl) rfl (by show 2 * 0 + _ ≤ _; exact Nat.le_of_eq rfl) (hb hby at_36) (fun _ _ => ⟨rfl, e28, (by decide : 0 + 0 ≤ _), (by decide : 0 + 0 ≤ _)⟩)
    dsimp only [Pt.U, Pt.locs, Pt.cells, Pt.slots] at X29 l29 y29 z29 st29 hQ29
    subst l29 y29 z29
    obtain ⟨rfl, Nq29, e29⟩ := hQ29
    have N29 := Fr.app N28 Nq29
    refine Go.stp (fun t k => st29.trans k) ?_
    show Go p.tables e below G (T29.setTop (mkF m 39 #[iv p0, iv (4 : Int32), rv a4', iv (1 : Int32), rv s4', un, un] [(.int (3 : Int32)), (.ref s4')]))
    refine Go.stp (fun t k => XS.iconst X29.here hx rfl (hb hby at_39) k) ?_
    show Go p.tables e below G (T29.setTop (mkF m 40 #[iv p0, iv (4 : Int32), rv a4', iv (1 : Int32), rv s4', un, un] [(.int (1 : Int32)), (.int (3 : Int32)), (.ref s4')]))
    refine Go.stp (fun t k => XS.isub X29.here hx rfl (hb hby at_40) rfl k) ?_
    show Go p.tables e below G (T29.setTop (mkF m 41 #[iv p0, iv (4 : Int32), rv a4', iv (1 : Int32), rv s4', un, un] [(.int ((3 : Int32) - (1 : Int32))), (.ref s4')]))
    obtain ⟨cq30, kq30, q30a, q30b, q30c⟩ := isOf hZ e29 E_s4'
    obtain ⟨_, _, ⟨T30, L30, k30, n30⟩, -, X30, ⟨Lc30, hQ30, l30, y30, z30⟩, st30⟩ := X29.virtualBack hx (y := (⟨"java/lang/String", "charAt", "(I)C"⟩ : MethodName)) (z := (⟨"java/lang/String", "charAt", "(I)C"⟩ : MethodName)) hown (mvT hZ (hw _ (List.mem_of_getElem? (i := 40) rfl))) (mvT hZ (hw _ (List.mem_of_getElem? (i := 41) rfl))) (notFace_of_selects (args := #[]) (mvT hZ (hw _ (List.mem_of_getElem? (i := 43) rfl)))) (mvT hZ (hw _ (List.mem_of_getElem? (i := 43) rfl))) (mvT hZ (hw _ (List.mem_of_getElem? (i := 42) rfl))) (by decide) (backOf (W := 0) (rm6_3 l Z a0 hw [] s4' v4' kc sf (fun j => [(87 : Int32), (70 : Int32), (95 : Int32)].getD j 0) h0 n0 Z0 S_cs hkc S_sf hsf E_s4' Fv_s4' Fc_s4' I_v4') hZ (hw _ (List.mem_of_getElem? (i := 44) rfl)) (hw _ (List.mem_of_getElem? (i := 28) rfl)) (by decide) (by decide)) q30a q30c (g := (mkF m 41 #[iv p0, iv (4 : Int32), rv a4', iv (1 : Int32), rv s4', un, un] [(.int ((3 : Int32) - (1 : Int32))), (.ref s4')])) rfl (by rw [hml]; rfl) (Steps.refl _) (argsL := [(.int ((3 : Int32) - (1 : Int32)))]) (rest := []) (lenOf pd_8 rfl) rfl (by show 2 * 0 + _ ≤ _; exact Nat.le_of_eq rfl) (hb hby at_41) (fun _ _ => ⟨rfl, e29, (by decide : 0 + 0 ≤ _), (by decide : 0 + 0 ≤ _)⟩)
    dsimp only [Pt.U, Pt.locs, Pt.cells, Pt.slots] at X30 l30 y30 z30 st30 hQ30
    subst l30 y30 z30
    obtain ⟨rfl, Nq30, e30⟩ := hQ30
    have N30 := Fr.app N29 Nq30
    have pp30 : nar .char (own_ch ((fun j => [(87 : Int32), (70 : Int32), (95 : Int32)].getD j 0) 2)) = (95 : Int32) := by decide
    rw [pp30] at st30
    refine Go.stp (fun t k => st30.trans k) ?_
    show Go p.tables e below G (T30.setTop (mkF m 44 #[iv p0, iv (4 : Int32), rv a4', iv (1 : Int32), rv s4', un, un] [(.int (95 : Int32))]))
    refine Go.stp (fun t k => XS.bipush X30.here hx rfl (hb hby at_44) k) ?_
    show Go p.tables e below G (T30.setTop (mkF m 46 #[iv p0, iv (4 : Int32), rv a4', iv (1 : Int32), rv s4', un, un] [(.int (95 : Int32)), (.int (95 : Int32))]))
    refine Go.stp (fun t k => XS.icmpNo X30.here hx rfl (hb hby at_46) rfl (teq (by decide : (95 : Int32) = (95 : Int32))).2 k) ?_
    show Go p.tables e below G (T30.setTop (mkF m 49 #[iv p0, iv (4 : Int32), rv a4', iv (1 : Int32), rv s4', un, un] []))
    refine Go.stp (fun t k => XS.iconst X30.here hx rfl (hb hby at_49) k) ?_
    show Go p.tables e below G (T30.setTop (mkF m 50 #[iv p0, iv (4 : Int32), rv a4', iv (1 : Int32), rv s4', un, un] [(.int (1 : Int32))]))
    refine Go.stp (fun t k => XS.goto X30.here hx rfl (pc0 := 50) (pc' := 54) rfl (hb hby at_50) (by decide) (by decide) k) ?_
    show Go p.tables e below G (T30.setTop (mkF m 54 #[iv p0, iv (4 : Int32), rv a4', iv (1 : Int32), rv s4', un, un] [(.int (1 : Int32))]))
    refine Go.stp (fun t k => XS.istore X30.here hx rfl (hb hby at_54) rfl (l' := #[iv p0, iv (4 : Int32), rv a4', iv (1 : Int32), rv s4', iv (1 : Int32), un]) rfl k) ?_
    show Go p.tables e below G (T30.setTop (mkF m 56 #[iv p0, iv (4 : Int32), rv a4', iv (1 : Int32), rv s4', iv (1 : Int32), un] []))
    refine Go.stp (fun t k => XS.iloadN X30.here hx rfl (hb hby at_56) rfl k) ?_
    show Go p.tables e below G (T30.setTop (mkF m 57 #[iv p0, iv (4 : Int32), rv a4', iv (1 : Int32), rv s4', iv (1 : Int32), un] [(.int (4 : Int32))]))
    refine Go.stp (fun t k => XS.iconst X30.here hx rfl (hb hby at_57) k) ?_
    show Go p.tables e below G (T30.setTop (mkF m 58 #[iv p0, iv (4 : Int32), rv a4', iv (1 : Int32), rv s4', iv (1 : Int32), un] [(.int (4 : Int32)), (.int (4 : Int32))]))
    refine Go.stp (fun t k => XS.icmpYes X30.here hx rfl (pc0 := 58) (pc' := 66) rfl (hb hby at_58) rfl (teq (by decide : (4 : Int32) = (4 : Int32))).1 (by decide) (by decide) k) ?_
    show Go p.tables e below G (T30.setTop (mkF m 66 #[iv p0, iv (4 : Int32), rv a4', iv (1 : Int32), rv s4', iv (1 : Int32), un] []))
    refine Go.stp (fun t k => XS.iconst X30.here hx rfl (hb hby at_66) k) ?_
    show Go p.tables e below G (T30.setTop (mkF m 67 #[iv p0, iv (4 : Int32), rv a4', iv (1 : Int32), rv s4', iv (1 : Int32), un] [(.int (1 : Int32))]))
    refine Go.stp (fun t k => XS.goto X30.here hx rfl (pc0 := 67) (pc' := 71) rfl (hb hby at_67) (by decide) (by decide) k) ?_
    show Go p.tables e below G (T30.setTop (mkF m 71 #[iv p0, iv (4 : Int32), rv a4', iv (1 : Int32), rv s4', iv (1 : Int32), un] [(.int (1 : Int32))]))
    refine Go.stp (fun t k => XS.istore X30.here hx rfl (hb hby at_71) rfl (l' := #[iv p0, iv (4 : Int32), rv a4', iv (1 : Int32), rv s4', iv (1 : Int32), iv (1 : Int32)]) rfl k) ?_
    show Go p.tables e below G (T30.setTop (mkF m 73 #[iv p0, iv (4 : Int32), rv a4', iv (1 : Int32), rv s4', iv (1 : Int32), iv (1 : Int32)] []))
    refine Go.stp (fun t k => XS.iloadN X30.here hx rfl (hb hby at_73) rfl k) ?_
    show Go p.tables e below G (T30.setTop (mkF m 74 #[iv p0, iv (4 : Int32), rv a4', iv (1 : Int32), rv s4', iv (1 : Int32), iv (1 : Int32)] [(.int (1 : Int32))]))
    refine Go.stp (fun t k => XS.iload X30.here hx rfl (hb hby at_74) rfl k) ?_
    show Go p.tables e below G (T30.setTop (mkF m 76 #[iv p0, iv (4 : Int32), rv a4', iv (1 : Int32), rv s4', iv (1 : Int32), iv (1 : Int32)] [(.int (1 : Int32)), (.int (1 : Int32))]))
    refine Go.stp (fun t k => XS.icmpNo X30.here hx rfl (hb hby at_76) rfl (teq (by decide : (1 : Int32) = (1 : Int32))).2 k) ?_
    show Go p.tables e below G (T30.setTop (mkF m 79 #[iv p0, iv (4 : Int32), rv a4', iv (1 : Int32), rv s4', iv (1 : Int32), iv (1 : Int32)] []))
    refine Go.stp (fun t k => XS.iloadN X30.here hx rfl (hb hby at_79) rfl k) ?_
    show Go p.tables e below G (T30.setTop (mkF m 80 #[iv p0, iv (4 : Int32), rv a4', iv (1 : Int32), rv s4', iv (1 : Int32), iv (1 : Int32)] [(.int (1 : Int32))]))
    refine Go.stp (fun t k => XS.iload X30.here hx rfl (hb hby at_80) rfl k) ?_
    show Go p.tables e below G (T30.setTop (mkF m 82 #[iv p0, iv (4 : Int32), rv a4', iv (1 : Int32), rv s4', iv (1 : Int32), iv (1 : Int32)] [(.int (1 : Int32)), (.int (1 : Int32))]))
    refine Go.stp (fun t k => XS.icmpNo X30.here hx rfl (hb hby at_82) rfl (teq (by decide : (1 : Int32) = (1 : Int32))).2 k) ?_
    show Go p.tables e below G (T30.setTop (mkF m 85 #[iv p0, iv (4 : Int32), rv a4', iv (1 : Int32), rv s4', iv (1 : Int32), iv (1 : Int32)] []))
    refine Go.stp (fun t k => XS.iconst X30.here hx rfl (hb hby at_85) k) ?_
    show Go p.tables e below G (T30.setTop (mkF m 86 #[iv p0, iv (4 : Int32), rv a4', iv (1 : Int32), rv s4', iv (1 : Int32), iv (1 : Int32)] [(.int (1 : Int32))]))
    refine Go.stp (fun t k => XS.goto X30.here hx rfl (pc0 := 86) (pc' := 90) rfl (hb hby at_86) (by decide) (by decide) k) ?_
    show Go p.tables e below G (T30.setTop (mkF m 90 #[iv p0, iv (4 : Int32), rv a4', iv (1 : Int32), rv s4', iv (1 : Int32), iv (1 : Int32)] [(.int (1 : Int32))]))
    obtain ⟨fs, hr, hrun, hended, hW, hsame⟩ := X30.leave (v := some (.int (1 : Int32))) (fun h => by rw [Bd.returns] at h; cases h)
    refine ⟨_, _, retN X30 hx (t := .boolean) Bd.returns (by simp) (hb hby at_90) hr, hrun, hended, hG _ _ _ ?_ ⟨⟨_, rfl⟩, hW, hsame.mono (by decide) (by decide)⟩⟩
    show Q0 Z p0 kc sf a0' a1' a2' a3' a4' a5' s0' s1' s2' s3' s4' s5' v0' v1' v2' v3' v4' v5' h0 n0 _ T30.heap _
    rw [e30]
    exact ⟨rfl, N30⟩
  · show Go p.tables e below G (s₁.setTop (mkF m 8 #[iv p0, iv (5 : Int32), un, un, un, un, un] []))
    refine Go.stp (fun t k => XS.iloadN X0.here hx rfl (hb hby at_8) rfl k) ?_
    show Go p.tables e below G (s₁.setTop (mkF m 9 #[iv p0, iv (5 : Int32), un, un, un, un, un] [(.int (5 : Int32))]))
    obtain ⟨_, _, ⟨T31, L31, k31, n31⟩, -, X31, ⟨Lc31, hQ31, l31, y31, z31⟩, st31⟩ := Jvm.LawKit.callS X0 hx (y := (⟨"com/example/stutter/stutter/eval/KindFairnessPinLaw", "kindAt", "(I)Lcom/example/stutter/stutter/eval/TemporalNode$Kind;"⟩ : MethodName)) hown (mvT hZ (hw _ (List.mem_of_getElem? (i := 1) rfl))) (mvT hZ (hw _ (List.mem_of_getElem? (i := 2) rfl))) (mvT hZ (hw _ (List.mem_of_getElem? (i := 3) rfl))) (mvT hZ (hw _ (List.mem_of_getElem? (i := 4) rfl))) (by decide) (backOf (W := 0) (rm1_5 l Z a0 hw [] a5' h0 n0 Z0 S_a5') hZ (hw _ (List.mem_of_getElem? (i := 4) rfl)) (hw _ (List.mem_of_getElem? (i := 3) rfl)) (by decide) (by decide)) (g := (mkF m 9 #[iv p0, iv (5 : Int32), un, un, un, un, un] [(.int (5 : Int32))])) rfl (by rw [hml]; rfl) (argsL := [(.int (5 : Int32))]) (rest := []) (lenOf pd_5 rfl) rfl (by show 2 * 0 + _ ≤ _; exact Nat.le_of_eq rfl) (hb hby at_9) (fun _ _ => ⟨rfl, e0, (by decide : 0 + 0 ≤ _), (by decide : 0 + 0 ≤ _)⟩)
    dsimp only [Pt.U, Pt.locs, Pt.cells, Pt.slots] at X31 l31 y31 z31 st31 hQ31
    subst l31 y31 z31
    obtain ⟨rfl, Nq31, e31⟩ := hQ31
    have N31 := Fr.app N0 Nq31
    refine Go.stp (fun t k => st31 t k) ?_
    show Go p.tables e below G (T31.setTop (mkF m 12 #[iv p0, iv (5 : Int32), un, un, un, un, un] [(.ref a5')]))
    refine Go.stp (fun t k => XS.astoreN X31.here hx rfl (hb hby at_12) rfl rfl (l' := #[iv p0, iv (5 : Int32), rv a5', un, un, un, un]) rfl k) ?_
    show Go p.tables e below G (T31.setTop (mkF m 13 #[iv p0, iv (5 : Int32), rv a5', un, un, un, un] []))
    refine Go.stp (fun t k => XS.aloadN X31.here hx rfl (hb hby at_13) rfl rfl k) ?_
    show Go p.tables e below G (T31.setTop (mkF m 14 #[iv p0, iv (5 : Int32), rv a5', un, un, un, un] [(.ref a5')]))
    obtain ⟨cq32, kq32, q32a, q32b, q32c⟩ := isOf hZ e31 E_a5'
    obtain ⟨_, _, ⟨T32, L32, k32, n32⟩, -, X32, ⟨Lc32, hQ32, l32, y32, z32⟩, st32⟩ := X31.virtualBack hx (y := (⟨"com/example/stutter/stutter/eval/TemporalNode$Kind", "fairness", "()Z"⟩ : MethodName)) (z := (⟨"com/example/stutter/stutter/eval/TemporalNode$Kind", "fairness", "()Z"⟩ : MethodName)) hown (mvT hZ (hw _ (List.mem_of_getElem? (i := 8) rfl))) (mvT hZ (hw _ (List.mem_of_getElem? (i := 9) rfl))) (notFace_of_selects (args := #[]) (mvT hZ (hw _ (List.mem_of_getElem? (i := 11) rfl)))) (mvT hZ (hw _ (List.mem_of_getElem? (i := 11) rfl))) (mvT hZ (hw _ (List.mem_of_getElem? (i := 10) rfl))) (by decide) (backOf (W := 0) (rm2 l Z a0 hw [] a5' a4' a5' h0 n0 Z0 S_a4' S_a5') hZ (hw _ (List.mem_of_getElem? (i := 12) rfl)) (hw _ (List.mem_of_getElem? (i := 6) rfl)) (by decide) (by decide)) q32a q32c (g := (mkF m 14 #[iv p0, iv (5 : Int32), rv a5', un, un, un, un] [(.ref a5')])) rfl (by rw [hml]; rfl) (Steps.refl _) (argsL := []) (rest := []) (lenOf pd_2 rfl) rfl (by show 2 * 0 + _ ≤ _; exact Nat.le_of_eq rfl) (hb hby at_14) (fun _ _ => ⟨rfl, e31, (by decide : 0 + 0 ≤ _), (by decide : 0 + 0 ≤ _)⟩)
    dsimp only [Pt.U, Pt.locs, Pt.cells, Pt.slots] at X32 l32 y32 z32 st32 hQ32
    subst l32 y32 z32
    obtain ⟨rfl, Nq32, e32⟩ := hQ32
    have N32 := Fr.app N31 Nq32
    have pp32 : own_fair a5' a4' a5' = (1 : Int32) := by simp [own_fair]
    rw [pp32] at st32
    refine Go.stp (fun t k => st32.trans k) ?_
    show Go p.tables e below G (T32.setTop (mkF m 17 #[iv p0, iv (5 : Int32), rv a5', un, un, un, un] [(.int (1 : Int32))]))
    refine Go.stp (fun t k => XS.istoreN X32.here hx rfl (hb hby at_17) rfl (l' := #[iv p0, iv (5 : Int32), rv a5', iv (1 : Int32), un, un, un]) rfl k) ?_
    show Go p.tables e below G (T32.setTop (mkF m 18 #[iv p0, iv (5 : Int32), rv a5', iv (1 : Int32), un, un, un] []))
    refine Go.stp (fun t k => XS.aloadN X32.here hx rfl (hb hby at_18) rfl rfl k) ?_
    show Go p.tables e below G (T32.setTop (mkF m 19 #[iv p0, iv (5 : Int32), rv a5', iv (1 : Int32), un, un, un] [(.ref a5')]))
    obtain ⟨cq33, kq33, q33a, q33b, q33c⟩ := isOf hZ e32 E_a5'
    obtain ⟨_, _, ⟨T33, L33, k33, n33⟩, -, X33, ⟨Lc33, hQ33, l33, y33, z33⟩, st33⟩ := X32.virtualBack hx (y := (⟨"com/example/stutter/stutter/eval/TemporalNode$Kind", "spelling", "()Ljava/lang/String;"⟩ : MethodName)) (z := (⟨"com/example/stutter/stutter/eval/TemporalNode$Kind", "spelling", "()Ljava/lang/String;"⟩ : MethodName)) hown (mvT hZ (hw _ (List.mem_of_getElem? (i := 17) rfl))) (mvT hZ (hw _ (List.mem_of_getElem? (i := 18) rfl))) (notFace_of_selects (args := #[]) (mvT hZ (hw _ (List.mem_of_getElem? (i := 20) rfl)))) (mvT hZ (hw _ (List.mem_of_getElem? (i := 20) rfl))) (mvT hZ (hw _ (List.mem_of_getElem? (i := 19) rfl))) (by decide) (backOf (W := 0) (rm3 l Z a0 hw [] a5' s5' h0 n0 Z0 Fs5) hZ (hw _ (List.mem_of_getElem? (i := 21) rfl)) (hw _ (List.mem_of_getElem? (i := 6) rfl)) (by decide) (by decide)) q33a q33c (g := (mkF m 19 #[iv p0, iv (5 : Int32), rv a5', iv (1 : Int32), un, un, un] [(.ref a5')])) rfl (by rw [hml]; rfl) (Steps.refl _) (argsL := []) (rest := []) (lenOf pd_6 rfl) rfl (by show 2 * 0 + _ ≤ _; exact Nat.le_of_eq rfl) (hb hby at_19) (fun _ _ => ⟨rfl, e32, (by decide : 0 + 0 ≤ _), (by decide : 0 + 0 ≤ _)⟩)
    dsimp only [Pt.U, Pt.locs, Pt.cells, Pt.slots] at X33 l33 y33 z33 st33 hQ33
    subst l33 y33 z33
    obtain ⟨rfl, Nq33, e33⟩ := hQ33
    have N33 := Fr.app N32 Nq33
    refine Go.stp (fun t k => st33.trans k) ?_
    show Go p.tables e below G (T33.setTop (mkF m 22 #[iv p0, iv (5 : Int32), rv a5', iv (1 : Int32), un, un, un] [(.ref s5')]))
    refine Go.stp (fun t k => XS.astore X33.here hx rfl (hb hby at_22) rfl rfl (l' := #[iv p0, iv (5 : Int32), rv a5', iv (1 : Int32), rv s5', un, un]) rfl k) ?_
    show Go p.tables e below G (T33.setTop (mkF m 24 #[iv p0, iv (5 : Int32), rv a5', iv (1 : Int32), rv s5', un, un] []))
    refine Go.stp (fun t k => XS.aload X33.here hx rfl (hb hby at_24) rfl rfl k) ?_
    show Go p.tables e below G (T33.setTop (mkF m 26 #[iv p0, iv (5 : Int32), rv a5', iv (1 : Int32), rv s5', un, un] [(.ref s5')]))
    obtain ⟨cq34, kq34, q34a, q34b, q34c⟩ := isOf hZ e33 E_s5'
    obtain ⟨_, _, ⟨T34, L34, k34, n34⟩, -, X34, ⟨Lc34, hQ34, l34, y34, z34⟩, st34⟩ := X33.virtualBack hx (y := (⟨"java/lang/String", "length", "()I"⟩ : MethodName)) (z := (⟨"java/lang/String", "length", "()I"⟩ : MethodName)) hown (mvT hZ (hw _ (List.mem_of_getElem? (i := 24) rfl))) (mvT hZ (hw _ (List.mem_of_getElem? (i := 25) rfl))) (notFace_of_selects (args := #[]) (mvT hZ (hw _ (List.mem_of_getElem? (i := 27) rfl)))) (mvT hZ (hw _ (List.mem_of_getElem? (i := 27) rfl))) (mvT hZ (hw _ (List.mem_of_getElem? (i := 26) rfl))) (by decide) (backOf (W := 0) (rm4_3 l Z a0 hw [] s5' v5' kc (fun j => [(83 : Int32), (70 : Int32), (95 : Int32)].getD j 0) h0 n0 Z0 S_cs hkc E_s5' Fv_s5' Fc_s5' I_v5') hZ (hw _ (List.mem_of_getElem? (i := 29) rfl)) (hw _ (List.mem_of_getElem? (i := 28) rfl)) (by decide) (by decide)) q34a q34c (g := (mkF m 26 #[iv p0, iv (5 : Int32), rv a5', iv (1 : Int32), rv s5', un, un] [(.ref s5')])) rfl (by rw [hml]; rfl) (Steps.refl _) (argsL := []) (rest := []) (lenOf pd_7 rfl) rfl (by show 2 * 0 + _ ≤ _; exact Nat.le_of_eq rfl) (hb hby at_26) (fun _ _ => ⟨rfl, e33, (by decide : 0 + 0 ≤ _), (by decide : 0 + 0 ≤ _)⟩)
    dsimp only [Pt.U, Pt.locs, Pt.cells, Pt.slots] at X34 l34 y34 z34 st34 hQ34
    subst l34 y34 z34
    obtain ⟨rfl, Nq34, e34⟩ := hQ34
    have N34 := Fr.app N33 Nq34
    refine Go.stp (fun t k => st34.trans k) ?_
    show Go p.tables e below G (T34.setTop (mkF m 29 #[iv p0, iv (5 : Int32), rv a5', iv (1 : Int32), rv s5', un, un] [(.int (3 : Int32))]))
    refine Go.stp (fun t k => XS.ifNo X34.here hx rfl (hb hby at_29) rfl ((if0 _ _).trans (tlt (by decide : (0 : Int32) < (3 : Int32))).2.2.2) k) ?_
    show Go p.tables e below G (T34.setTop (mkF m 32 #[iv p0, iv (5 : Int32), rv a5', iv (1 : Int32), rv s5', un, un] []))
    refine Go.stp (fun t k => XS.aload X34.here hx rfl (hb hby at_32) rfl rfl k) ?_
    show Go p.tables e below G (T34.setTop (mkF m 34 #[iv p0, iv (5 : Int32), rv a5', iv (1 : Int32), rv s5', un, un] [(.ref s5')]))
    refine Go.stp (fun t k => XS.aload X34.here hx rfl (hb hby at_34) rfl rfl k) ?_
    show Go p.tables e below G (T34.setTop (mkF m 36 #[iv p0, iv (5 : Int32), rv a5', iv (1 : Int32), rv s5', un, un] [(.ref s5'), (.ref s5')]))
    obtain ⟨cq35, kq35, q35a, q35b, q35c⟩ := isOf hZ e34 E_s5'
    obtain ⟨_, _, ⟨T35, L35, k35, n35⟩, -, X35, ⟨Lc35, hQ35, l35, y35, z35⟩, st35⟩ := X34.virtualBack hx (y := (⟨"java/lang/String", "length", "()I"⟩ : MethodName)) (z := (⟨"java/lang/String", "length", "()I"⟩ : MethodName)) hown (mvT hZ (hw _ (List.mem_of_getElem? (i := 24) rfl))) (mvT hZ (hw _ (List.mem_of_getElem? (i := 25) rfl))) (notFace_of_selects (args := #[]) (mvT hZ (hw _ (List.mem_of_getElem? (i := 27) rfl)))) (mvT hZ (hw _ (List.mem_of_getElem? (i := 27) rfl))) (mvT hZ (hw _ (List.mem_of_getElem? (i := 26) rfl))) (by decide) (backOf (W := 1) (rm4_3 l Z a0 hw [] s5' v5' kc (fun j => [(83 : Int32), (70 : Int32), (95 : Int32)].getD j 0) h0 n0 Z0 S_cs hkc E_s5' Fv_s5' Fc_s5' I_v5') hZ (hw _ (List.mem_of_getElem? (i := 29) rfl)) (hw _ (List.mem_of_getElem? (i := 28) rfl)) (by decide) (by decide)) q35a q35c (g := (mkF m 36 #[iv p0, iv (5 : Int32), rv a5', iv (1 : Int32), rv s5', un, un] [(.ref s5'), (.ref s5')])) rfl (by rw [hml]; rfl) (Steps.refl _) (argsL := []) (rest := [(.ref s5')]) (lenOf pd_7 rfl) rfl (by show 2 * 0 + _ ≤ _; exact Nat.le_of_eq rfl) (hb hby at_36) (fun _ _ => ⟨rfl, e34, (by decide : 0 + 0 ≤ _), (by decide : 0 + 0 ≤ _)⟩)
    dsimp only [Pt.U, Pt.locs, Pt.cells, Pt.slots] at X35 l35 y35 z35 st35 hQ35
    subst l35 y35 z35
    obtain ⟨rfl, Nq35, e35⟩ := hQ35
    have N35 := Fr.app N34 Nq35
    refine Go.stp (fun t k => st35.trans k) ?_
    show Go p.tables e below G (T35.setTop (mkF m 39 #[iv p0, iv (5 : Int32), rv a5', iv (1 : Int32), rv s5', un, un] [(.int (3 : Int32)), (.ref s5')]))
    refine Go.stp (fun t k => XS.iconst X35.here hx rfl (hb hby at_39) k) ?_
    show Go p.tables e below G (T35.setTop (mkF m 40 #[iv p0, iv (5 : Int32), rv a5', iv (1 : Int32), rv s5', un, un] [(.int (1 : Int32)), (.int (3 : Int32)), (.ref s5')]))
    refine Go.stp (fun t k => XS.isub X35.here hx rfl (hb hby at_40) rfl k) ?_
    show Go p.tables e below G (T35.setTop (mkF m 41 #[iv p0, iv (5 : Int32), rv a5', iv (1 : Int32), rv s5', un, un] [(.int ((3 : Int32) - (1 : Int32))), (.ref s5')]))
    obtain ⟨cq36, kq36, q36a, q36b, q36c⟩ := isOf hZ e35 E_s5'
    obtain ⟨_, _, ⟨T36, L36, k36, n36⟩, -, X36, ⟨Lc36, hQ36, l36, y36, z36⟩, st36⟩ := X35.virtualBack hx (y := (⟨"java/lang/String", "charAt", "(I)C"⟩ : MethodName)) (z := (⟨"java/lang/String", "charAt", "(I)C"⟩ : MethodName)) hown (mvT hZ (hw _ (List.mem_of_getElem? (i := 40) rfl))) (mvT hZ (hw _ (List.mem_of_getElem? (i := 41) rfl))) (notFace_of_selects (args := #[]) (mvT hZ (hw _ (List.mem_of_getElem? (i := 43) rfl)))) (mvT hZ (hw _ (List.mem_of_getElem? (i := 43) rfl))) (mvT hZ (hw _ (List.mem_of_getElem? (i := 42) rfl))) (by decide) (backOf (W := 0) (rm6_3 l Z a0 hw [] s5' v5' kc sf (fun j => [(83 : Int32), (70 : Int32), (95 : Int32)].getD j 0) h0 n0 Z0 S_cs hkc S_sf hsf E_s5' Fv_s5' Fc_s5' I_v5') hZ (hw _ (List.mem_of_getElem? (i := 44) rfl)) (hw _ (List.mem_of_getElem? (i := 28) rfl)) (by decide) (by decide)) q36a q36c (g := (mkF m 41 #[iv p0, iv (5 : Int32), rv a5', iv (1 : Int32), rv s5', un, un] [(.int ((3 : Int32) - (1 : Int32))), (.ref s5')])) rfl (by rw [hml]; rfl) (Steps.refl _) (argsL := [(.int ((3 : Int32) - (1 : Int32)))]) (rest := []) (lenOf pd_8 rfl) rfl (by show 2 * 0 + _ ≤ _; exact Nat.le_of_eq rfl) (hb hby at_41) (fun _ _ => ⟨rfl, e35, (by decide : 0 + 0 ≤ _), (by decide : 0 + 0 ≤ _)⟩)
    dsimp only [Pt.U, Pt.locs, Pt.cells, Pt.slots] at X36 l36 y36 z36 st36 hQ36
    subst l36 y36 z36
    obtain ⟨rfl, Nq36, e36⟩ := hQ36
    have N36 := Fr.app N35 Nq36
    have pp36 : nar .char (own_ch ((fun j => [(83 : Int32), (70 : Int32), (95 : Int32)].getD j 0) 2)) = (95 : Int32) := by decide
    rw [pp36] at st36
    refine Go.stp (fun t k => st36.trans k) ?_
    show Go p.tables e below G (T36.setTop (mkF m 44 #[iv p0, iv (5 : Int32), rv a5', iv (1 : Int32), rv s5', un, un] [(.int (95 : Int32))]))
    refine Go.stp (fun t k => XS.bipush X36.here hx rfl (hb hby at_44) k) ?_
    show Go p.tables e below G (T36.setTop (mkF m 46 #[iv p0, iv (5 : Int32), rv a5', iv (1 : Int32), rv s5', un, un] [(.int (95 : Int32)), (.int (95 : Int32))]))
    refine Go.stp (fun t k => XS.icmpNo X36.here hx rfl (hb hby at_46) rfl (teq (by decide : (95 : Int32) = (95 : Int32))).2 k) ?_
    show Go p.tables e below G (T36.setTop (mkF m 49 #[iv p0, iv (5 : Int32), rv a5', iv (1 : Int32), rv s5', un, un] []))
    refine Go.stp (fun t k => XS.iconst X36.here hx rfl (hb hby at_49) k) ?_
    show Go p.tables e below G (T36.setTop (mkF m 50 #[iv p0, iv (5 : Int32), rv a5', iv (1 : Int32), rv s5', un, un] [(.int (1 : Int32))]))
    refine Go.stp (fun t k => XS.goto X36.here hx rfl (pc0 := 50) (pc' := 54) rfl (hb hby at_50) (by decide) (by decide) k) ?_
    show Go p.tables e below G (T36.setTop (mkF m 54 #[iv p0, iv (5 : Int32), rv a5', iv (1 : Int32), rv s5', un, un] [(.int (1 : Int32))]))
    refine Go.stp (fun t k => XS.istore X36.here hx rfl (hb hby at_54) rfl (l' := #[iv p0, iv (5 : Int32), rv a5', iv (1 : Int32), rv s5', iv (1 : Int32), un]) rfl k) ?_
    show Go p.tables e below G (T36.setTop (mkF m 56 #[iv p0, iv (5 : Int32), rv a5', iv (1 : Int32), rv s5', iv (1 : Int32), un] []))
    refine Go.stp (fun t k => XS.iloadN X36.here hx rfl (hb hby at_56) rfl k) ?_
    show Go p.tables e below G (T36.setTop (mkF m 57 #[iv p0, iv (5 : Int32), rv a5', iv (1 : Int32), rv s5', iv (1 : Int32), un] [(.int (5 : Int32))]))
    refine Go.stp (fun t k => XS.iconst X36.here hx rfl (hb hby at_57) k) ?_
    show Go p.tables e below G (T36.setTop (mkF m 58 #[iv p0, iv (5 : Int32), rv a5', iv (1 : Int32), rv s5', iv (1 : Int32), un] [(.int (4 : Int32)), (.int (5 : Int32))]))
    refine Go.stp (fun t k => XS.icmpNo X36.here hx rfl (hb hby at_58) rfl (feq (by decide : ¬ ((5 : Int32) = (4 : Int32)))).1 k) ?_
    show Go p.tables e below G (T36.setTop (mkF m 61 #[iv p0, iv (5 : Int32), rv a5', iv (1 : Int32), rv s5', iv (1 : Int32), un] []))
    refine Go.stp (fun t k => XS.iloadN X36.here hx rfl (hb hby at_61) rfl k) ?_
    show Go p.tables e below G (T36.setTop (mkF m 62 #[iv p0, iv (5 : Int32), rv a5', iv (1 : Int32), rv s5', iv (1 : Int32), un] [(.int (5 : Int32))]))
    refine Go.stp (fun t k => XS.iconst X36.here hx rfl (hb hby at_62) k) ?_
    show Go p.tables e below G (T36.setTop (mkF m 63 #[iv p0, iv (5 : Int32), rv a5', iv (1 : Int32), rv s5', iv (1 : Int32), un] [(.int (5 : Int32)), (.int (5 : Int32))]))
    refine Go.stp (fun t k => XS.icmpNo X36.here hx rfl (hb hby at_63) rfl (teq (by decide : (5 : Int32) = (5 : Int32))).2 k) ?_
    show Go p.tables e below G (T36.setTop (mkF m 66 #[iv p0, iv (5 : Int32), rv a5', iv (1 : Int32), rv s5', iv (1 : Int32), un] []))
    refine Go.stp (fun t k => XS.iconst X36.here hx rfl (hb hby at_66) k) ?_
    show Go p.tables e below G (T36.setTop (mkF m 67 #[iv p0, iv (5 : Int32), rv a5', iv (1 : Int32), rv s5', iv (1 : Int32), un] [(.int (1 : Int32))]))
    refine Go.stp (fun t k => XS.goto X36.here hx rfl (pc0 := 67) (pc' := 71) rfl (hb hby at_67) (by decide) (by decide) k) ?_
    show Go p.tables e below G (T36.setTop (mkF m 71 #[iv p0, iv (5 : Int32), rv a5', iv (1 : Int32), rv s5', iv (1 : Int32), un] [(.int (1 : Int32))]))
    refine Go.stp (fun t k => XS.istore X36.here hx rfl (hb hby at_71) rfl (l' := #[iv p0, iv (5 : Int32), rv a5', iv (1 : Int32), rv s5', iv (1 : Int32), iv (1 : Int32)]) rfl k) ?_
    show Go p.tables e below G (T36.setTop (mkF m 73 #[iv p0, iv (5 : Int32), rv a5', iv (1 : Int32), rv s5', iv (1 : Int32), iv (1 : Int32)] []))
    refine Go.stp (fun t k => XS.iloadN X36.here hx rfl (hb hby at_73) rfl k) ?_
    show Go p.tables e below G (T36.setTop (mkF m 74 #[iv p0, iv (5 : Int32), rv a5', iv (1 : Int32), rv s5', iv (1 : Int32), iv (1 : Int32)] [(.int (1 : Int32))]))
    refine Go.stp (fun t k => XS.iload X36.here hx rfl (hb hby at_74) rfl k) ?_
    show Go p.tables e below G (T36.setTop (mkF m 76 #[iv p0, iv (5 : Int32), rv a5', iv (1 : Int32), rv s5', iv (1 : Int32), iv (1 : Int32)] [(.int (1 : Int32)), (.int (1 : Int32))]))
    refine Go.stp (fun t k => XS.icmpNo X36.here hx rfl (hb hby at_76) rfl (teq (by decide : (1 : Int32) = (1 : Int32))).2 k) ?_
    show Go p.tables e below G (T36.setTop (mkF m 79 #[iv p0, iv (5 : Int32), rv a5', iv (1 : Int32), rv s5', iv (1 : Int32), iv (1 : Int32)] []))
    refine Go.stp (fun t k => XS.iloadN X36.here hx rfl (hb hby at_79) rfl k) ?_
    show Go p.tables e below G (T36.setTop (mkF m 80 #[iv p0, iv (5 : Int32), rv a5', iv (1 : Int32), rv s5', iv (1 : Int32), iv (1 : Int32)] [(.int (1 : Int32))]))
    refine Go.stp (fun t k => XS.iload X36.here hx rfl (hb hby at_80) rfl k) ?_
    show Go p.tables e below G (T36.setTop (mkF m 82 #[iv p0, iv (5 : Int32), rv a5', iv (1 : Int32), rv s5', iv (1 : Int32), iv (1 : Int32)] [(.int (1 : Int32)), (.int (1 : Int32))]))
    refine Go.stp (fun t k => XS.icmpNo X36.here hx rfl (hb hby at_82) rfl (teq (by decide : (1 : Int32) = (1 : Int32))).2 k) ?_
    show Go p.tables e below G (T36.setTop (mkF m 85 #[iv p0, iv (5 : Int32), rv a5', iv (1 : Int32), rv s5', iv (1 : Int32), iv (1 : Int32)] []))
    refine Go.stp (fun t k => XS.iconst X36.here hx rfl (hb hby at_85) k) ?_
    show Go p.tables e below G (T36.setTop (mkF m 86 #[iv p0, iv (5 : Int32), rv a5', iv (1 : Int32), rv s5', iv (1 : Int32), iv (1 : Int32)] [(.int (1 : Int32))]))
    refine Go.stp (fun t k => XS.goto X36.here hx rfl (pc0 := 86) (pc' := 90) rfl (hb hby at_86) (by decide) (by decide) k) ?_
    show Go p.tables e below G (T36.setTop (mkF m 90 #[iv p0, iv (5 : Int32), rv a5', iv (1 : Int32), rv s5', iv (1 : Int32), iv (1 : Int32)] [(.int (1 : Int32))]))
    obtain ⟨fs, hr, hrun, hended, hW, hsame⟩ := X36.leave (v := some (.int (1 : Int32))) (fun h => by rw [Bd.returns] at h; cases h)
    refine ⟨_, _, retN X36 hx (t := .boolean) Bd.returns (by simp) (hb hby at_90) hr, hrun, hended, hG _ _ _ ?_ ⟨⟨_, rfl⟩, hW, hsame.mono (by decide) (by decide)⟩⟩
    show Q0 Z p0 kc sf a0' a1' a2' a3' a4' a5' s0' s1' s2' s3' s4' s5' v0' v1' v2' v3' v4' v5' h0 n0 _ T36.heap _
    rw [e36]
    exact ⟨rfl, N36⟩
set_option maxRecDepth 65536 in
set_option maxHeartbeats 40000000 in
theorem comes_1 {Post : Tables → Env → Array Value → State → Outcome → State → Prop} (hpost : ∀ tb e args s v u, (limb_1_1.after args s (.returned v) u = true ∧ limb_1_2.after args s (.returned v) u = true ∧ True) → FrameEnd s (.returned v) u (Jvm.fieldLocs frame_1_writes args s ++ Jvm.arrayLocs frame_1_arrays args s ++ Jvm.staticLocs frame_1_statics s) 0 0 → Post tb e args s (.returned v) u) :
    ArmFor flags0 classFile x code maxLocals ret World_1 tables_1 room_1 Calls_1 rest_1 Pre_1 Post := by
  intro l hfl _ _ p e ha hc hk s m args below hf hA hF happ hP
  obtain ⟨hcalls, hrest, hpre⟩ := hP
  obtain ⟨-, -, -, hnamed, -, -, -, hat⟩ := (Spec.applies_iff hf).mp happ
  obtain ⟨hg, hn⟩ := and_e (Cond.before_iff.mp (show (Jvm.Cond.and given_1 narrow_1).before args s = true from hpre))
  obtain ⟨g1a, g1b⟩ := and_e hg
  obtain ⟨w0, rfl⟩ : ∃ w0 : Value, args = #[w0] := by
    have hs : args.size = 1 := by simpa [Cond.value, given_1] using g1a
    obtain ⟨L⟩ := args
    match L, hs with
    | [w0], _ => exact ⟨w0, rfl⟩
  have hw := fun d (hd : d ∈ tables_1) => atoms_spec (ws := Jvm.Cond.code x code maxLocals ret :: tables_1) hat d (List.mem_cons_of_mem _ hd)
  have hfit : Fit s := fun {y c} hc i hi => by
    obtain ⟨ha, rfl⟩ := Array.getElem?_eq_some_iff.mp hc
    have q := List.all_eq_true.mp ((Array.all_eq_true_iff_forall_mem.mp hF) _ (Array.getElem_mem ha)) i (List.mem_range.mpr hi)
    simpa [Array.getElem?_eq_getElem hi] using q
  obtain ⟨hsets, hown0⟩ := atoms_of _ (rest_1_c_eq ▸ (show rest_1_c.before _ s = true from hrest))
  obtain ⟨i0, ei0⟩ := is_v g1b
  obtain rfl : w0 = (.int i0) := Option.some.inj ei0
  obtain ⟨nr1a, nr1b⟩ := and_e hn
  obtain ⟨nr2a, nr2b⟩ := and_e nr1b
  obtain ⟨nr3a, nr3b⟩ := and_e nr2b
  obtain ⟨nr4a, nr4b⟩ := and_e nr3b
  obtain ⟨nr5a, nr5b⟩ := and_e nr4b
  obtain ⟨nr6a, nr6b⟩ := and_e nr5b
  obtain ⟨nr7a, nr7b⟩ := and_e nr6b
  obtain ⟨nr8a, nr8b⟩ := and_e nr7b
  obtain ⟨nr9a, nr9b⟩ := and_e nr8b
  obtain ⟨nr10a, nr10b⟩ := and_e nr9b
  obtain ⟨nr11a, nr11b⟩ := and_e nr10b
  obtain ⟨nr12a, nr12b⟩ := and_e nr11b
  obtain ⟨nr13a, nr13b⟩ := and_e nr12b
  obtain ⟨nr14a, nr14b⟩ := and_e nr13b
  obtain ⟨nr15a, nr15b⟩ := and_e nr14b
  obtain ⟨nr16a, nr16b⟩ := and_e nr15b
  obtain ⟨nr17a, nr17b⟩ := and_e nr16b
  obtain ⟨nr18a, nr18b⟩ := and_e nr17b
  obtain ⟨nr19a, nr19b⟩ := and_e nr18b
  obtain ⟨nr20a, nr20b⟩ := and_e nr19b
  obtain ⟨nr21a, nr21b⟩ := and_e nr20b
  obtain ⟨nr22a, nr22b⟩ := and_e nr21b
  obtain ⟨nr23a, nr23b⟩ := and_e nr22b
  obtain ⟨nr24a, nr24b⟩ := and_e nr23b
  obtain ⟨nr25a, nr25b⟩ := and_e nr24b
  obtain ⟨nr26a, nr26b⟩ := and_e nr25b
  obtain ⟨nr27a, nr27b⟩ := and_e nr26b
  obtain ⟨nr28a, nr28b⟩ := and_e nr27b
  obtain ⟨nr29a, nr29b⟩ := and_e nr28b
  obtain ⟨nr30a, nr30b⟩ := and_e nr29b
  obtain ⟨nr31a, nr31b⟩ := and_e nr30b
  obtain ⟨nr32a, nr32b⟩ := and_e nr31b
  obtain ⟨nr33a, nr33b⟩ := and_e nr32b
  obtain ⟨nr34a, nr34b⟩ := and_e nr33b
  obtain ⟨nr35a, nr35b⟩ := and_e nr34b
  obtain ⟨nr36a, nr36b⟩ := and_e nr35b
  obtain ⟨nr37a, nr37b⟩ := and_e nr36b
  obtain ⟨nr38a, nr38b⟩ := and_e nr37b
  obtain ⟨nr39a, nr39b⟩ := and_e nr38b
  obtain ⟨nr40a, nr40b⟩ := and_e nr39b
  obtain ⟨nr41a, nr41b⟩ := and_e nr40b
  obtain ⟨nr42a, nr42b⟩ := and_e nr41b
  obtain ⟨nr43a, nr43b⟩ := and_e nr42b
  obtain ⟨nr44a, nr44b⟩ := and_e nr43b
  obtain ⟨nr45a, nr45b⟩ := and_e nr44b
  obtain ⟨nr46a, nr46b⟩ := and_e nr45b
  obtain ⟨nr47a, nr47b⟩ := and_e nr46b
  obtain ⟨nr48a, nr48b⟩ := and_e nr47b
  obtain ⟨nr49a, nr49b⟩ := and_e nr48b
  obtain ⟨nr50a, nr50b⟩ := and_e nr49b
  obtain ⟨nr51a, nr51b⟩ := and_e nr50b
  obtain ⟨a0', ev_a0'⟩ := exa_v nr1a
  have S_a0' : Sta s s.heap "com/example/stutter/stutter/eval/TemporalNode$Kind" "ALWAYS" "Lcom/example/stutter/stutter/eval/TemporalNode$Kind;" (.ref a0') := Sta.start ev_a0' (Or.inr ⟨(hw _ (List.mem_of_getElem? (i := 6) rfl)), (hw _ (List.mem_of_getElem? (i := 7) rfl))⟩)
  have E_a0' : Exa s s.heap a0' "com/example/stutter/stutter/eval/TemporalNode$Kind" := Exa.start ev_a0' nr1a
  have o_a0' := own_ord ev_a0' nr3a
  obtain ⟨a1', ev_a1'⟩ := exa_v nr26a
  have S_a1' : Sta s s.heap "com/example/stutter/stutter/eval/TemporalNode$Kind" "EVENTUALLY" "Lcom/example/stutter/stutter/eval/TemporalNode$Kind;" (.ref a1') := Sta.start ev_a1' (Or.inr ⟨(hw _ (List.mem_of_getElem? (i := 6) rfl)), (hw _ (List.mem_of_getElem? (i := 67) rfl))⟩)
  have E_a1' : Exa s s.heap a1' "com/example/stutter/stutter/eval/TemporalNode$Kind" := Exa.start ev_a1' nr26a
  have o_a1' := own_ord ev_a1' nr27a
  obtain ⟨a2', ev_a2'⟩ := exa_v nr19a
  have S_a2' : Sta s s.heap "com/example/stutter/stutter/eval/TemporalNode$Kind" "LEADS_TO" "Lcom/example/stutter/stutter/eval/TemporalNode$Kind;" (.ref a2') := Sta.start ev_a2' (Or.inr ⟨(hw _ (List.mem_of_getElem? (i := 6) rfl)), (hw _ (List.mem_of_getElem? (i := 65) rfl))⟩)
  have E_a2' : Exa s s.heap a2' "com/example/stutter/stutter/eval/TemporalNode$Kind" := Exa.start ev_a2' nr19a
  have o_a2' := own_ord ev_a2' nr20a
  obtain ⟨a3', ev_a3'⟩ := exa_v nr12a
  have S_a3' : Sta s s.heap "com/example/stutter/stutter/eval/TemporalNode$Kind" "PLUS_ARROW" "Lcom/example/stutter/stutter/eval/TemporalNode$Kind;" (.ref a3') := Sta.start ev_a3' (Or.inr ⟨(hw _ (List.mem_of_getElem? (i := 6) rfl)), (hw _ (List.mem_of_getElem? (i := 63) rfl))⟩)
  have E_a3' : Exa s s.heap a3' "com/example/stutter/stutter/eval/TemporalNode$Kind" := Exa.start ev_a3' nr12a
  have o_a3' := own_ord ev_a3' nr13a
  obtain ⟨a4', ev_a4'⟩ := exa_v nr2a
  have S_a4' : Sta s s.heap "com/example/stutter/stutter/eval/TemporalNode$Kind" "WEAK_FAIRNESS" "Lcom/example/stutter/stutter/eval/TemporalNode$Kind;" (.ref a4') := Sta.start ev_a4' (Or.inr ⟨(hw _ (List.mem_of_getElem? (i := 6) rfl)), (hw _ (List.mem_of_getElem? (i := 14) rfl))⟩)
  have E_a4' : Exa s s.heap a4' "com/example/stutter/stutter/eval/TemporalNode$Kind" := Exa.start ev_a4' nr2a
  have o_a4' := own_ord ev_a4' nr4a
  obtain ⟨a5', ev_a5'⟩ := exa_v nr5a
  have S_a5' : Sta s s.heap "com/example/stutter/stutter/eval/TemporalNode$Kind" "STRONG_FAIRNESS" "Lcom/example/stutter/stutter/eval/TemporalNode$Kind;" (.ref a5') := Sta.start ev_a5' (Or.inr ⟨(hw _ (List.mem_of_getElem? (i := 6) rfl)), (hw _ (List.mem_of_getElem? (i := 16) rfl))⟩)
  have E_a5' : Exa s s.heap a5' "com/example/stutter/stutter/eval/TemporalNode$Kind" := Exa.start ev_a5' nr5a
  have o_a5' := own_ord ev_a5' nr6a
  have ne_a0'_a4' : a0' ≠ a4' := own_apart o_a0' o_a4' (by decide)
  have ne_a0'_a5' : a0' ≠ a5' := own_apart o_a0' o_a5' (by decide)
  have ne_a1'_a4' : a1' ≠ a4' := own_apart o_a1' o_a4' (by decide)
  have ne_a1'_a5' : a1' ≠ a5' := own_apart o_a1' o_a5' (by decide)
  have ne_a2'_a4' : a2' ≠ a4' := own_apart o_a2' o_a4' (by decide)
  have ne_a2'_a5' : a2' ≠ a5' := own_apart o_a2' o_a5' (by decide)
  have ne_a3'_a4' : a3' ≠ a4' := own_apart o_a3' o_a4' (by decide)
  have ne_a3'_a5' : a3' ≠ a5' := own_apart o_a3' o_a5' (by decide)
  obtain ⟨kc, evk⟩ := is_v (Cond.before_iff.mp (hsets _ (List.mem_of_getElem? (i := 1) rfl)))
  have S_cs := Sta.start evk (Or.inl (hsets _ (List.mem_of_getElem? (i := 0) rfl)))
  have hkc := own_nz0 evk (Cond.before_iff.mp (hsets _ (List.mem_of_getElem? (i := 2) rfl)))
  obtain ⟨sf, evs, hsf⟩ := isR_v (Cond.before_iff.mp (hsets _ (List.mem_of_getElem? (i := 8) rfl)))
  have S_sf := Sta.start evs (Or.inl (hsets _ (List.mem_of_getElem? (i := 7) rfl)))
  obtain ⟨s0', es0⟩ := exa_v nr7a
  have Fs0 := Fld.start ((fld_at ev_a0').symm.trans es0)
  have E_s0' := Exa.start es0 nr7a
  obtain ⟨v0', eb0⟩ := arr_v nr8a
  have Fv_s0' := Fld.start ((fld_at es0).symm.trans eb0)
  have Fc_s0' := Fld.start ((fld_at es0).symm.trans (own_eqi nr10a))
  obtain ⟨cl0, Ac0⟩ := Arr.start eb0 nr8a
  have I_v0' : Ia s s.heap v0' .byte 2 Value.int (fun j => [(91 : Int32), (93 : Int32)].getD j 0) := ⟨cl0, Ac0, own_len eb0 Ac0 nr9a (by decide), by decide, fun j hj => by
      rcases (by omega : j = 0 ∨ j = 1) with rfl | rfl
      · exact own_el eb0 Ac0 nr43a (by decide) (by decide)
      · exact own_el eb0 Ac0 nr11a (by decide) (by decide)⟩
  obtain ⟨s1', es1⟩ := exa_v nr28a
  have Fs1 := Fld.start ((fld_at ev_a1').symm.trans es1)
  have E_s1' := Exa.start es1 nr28a
  obtain ⟨v1', eb1⟩ := arr_v nr29a
  have Fv_s1' := Fld.start ((fld_at es1).symm.trans eb1)
  have Fc_s1' := Fld.start ((fld_at es1).symm.trans (own_eqi nr31a))
  obtain ⟨cl1, Ac1⟩ := Arr.start eb1 nr29a
  have I_v1' : Ia s s.heap v1' .byte 2 Value.int (fun j => [(60 : Int32), (62 : Int32)].getD j 0) := ⟨cl1, Ac1, own_len eb1 Ac1 nr30a (by decide), by decide, fun j hj => by
      rcases (by omega : j = 0 ∨ j = 1) with rfl | rfl
      · exact own_el eb1 Ac1 nr48a (by decide) (by decide)
      · exact own_el eb1 Ac1 nr32a (by decide) (by decide)⟩
  obtain ⟨s2', es2⟩ := exa_v nr21a
  have Fs2 := Fld.start ((fld_at ev_a2').symm.trans es2)
  have E_s2' := Exa.start es2 nr21a
  obtain ⟨v2', eb2⟩ := arr_v nr22a
  have Fv_s2' := Fld.start ((fld_at es2).symm.trans eb2)
  have Fc_s2' := Fld.start ((fld_at es2).symm.trans (own_eqi nr24a))
  obtain ⟨cl2, Ac2⟩ := Arr.start eb2 nr22a
  have I_v2' : Ia s s.heap v2' .byte 2 Value.int (fun j => [(126 : Int32), (62 : Int32)].getD j 0) := ⟨cl2, Ac2, own_len eb2 Ac2 nr23a (by decide), by decide, fun j hj => by
      rcases (by omega : j = 0 ∨ j = 1) with rfl | rfl
      · exact own_el eb2 Ac2 nr47a (by decide) (by decide)
      · exact own_el eb2 Ac2 nr25a (by decide) (by decide)⟩
  obtain ⟨s3', es3⟩ := exa_v nr14a
  have Fs3 := Fld.start ((fld_at ev_a3').symm.trans es3)
  have E_s3' := Exa.start es3 nr14a
  obtain ⟨v3', eb3⟩ := arr_v nr15a
  have Fv_s3' := Fld.start ((fld_at es3).symm.trans eb3)
  have Fc_s3' := Fld.start ((fld_at es3).symm.trans (own_eqi nr17a))
  obtain ⟨cl3, Ac3⟩ := Arr.start eb3 nr15a
  have I_v3' : Ia s s.heap v3' .byte 4 Value.int (fun j => [(45 : Int32), (43 : Int32), (45 : Int32), (62 : Int32)].getD j 0) := ⟨cl3, Ac3, own_len eb3 Ac3 nr16a (by decide), by decide, fun j hj => by
      rcases (by omega : j = 0 ∨ j = 1 ∨ j = 2 ∨ j = 3) with rfl | rfl | rfl | rfl
      · exact own_el eb3 Ac3 nr44a (by decide) (by decide)
      · exact own_el eb3 Ac3 nr45a (by decide) (by decide)
      · exact own_el eb3 Ac3 nr46a (by decide) (by decide)
      · exact own_el eb3 Ac3 nr18a (by decide) (by decide)⟩
  obtain ⟨s4', es4⟩ := exa_v nr38a
  have Fs4 := Fld.start ((fld_at ev_a4').symm.trans es4)
  have E_s4' := Exa.start es4 nr38a
  obtain ⟨v4', eb4⟩ := arr_v nr39a
  have Fv_s4' := Fld.start ((fld_at es4).symm.trans eb4)
  have Fc_s4' := Fld.start ((fld_at es4).symm.trans (own_eqi nr41a))
  obtain ⟨cl4, Ac4⟩ := Arr.start eb4 nr39a
  have I_v4' : Ia s s.heap v4' .byte 3 Value.int (fun j => [(87 : Int32), (70 : Int32), (95 : Int32)].getD j 0) := ⟨cl4, Ac4, own_len eb4 Ac4 nr40a (by decide), by decide, fun j hj => by
      rcases (by omega : j = 0 ∨ j = 1 ∨ j = 2) with rfl | rfl | rfl
      · exact own_el eb4 Ac4 nr51a (by decide) (by decide)
      · exact own_el eb4 Ac4 nr51b (by decide) (by decide)
      · exact own_el eb4 Ac4 nr42a (by decide) (by decide)⟩
  obtain ⟨s5', es5⟩ := exa_v nr33a
  have Fs5 := Fld.start ((fld_at ev_a5').symm.trans es5)
  have E_s5' := Exa.start es5 nr33a
  obtain ⟨v5', eb5⟩ := arr_v nr34a
  have Fv_s5' := Fld.start ((fld_at es5).symm.trans eb5)
  have Fc_s5' := Fld.start ((fld_at es5).symm.trans (own_eqi nr36a))
  obtain ⟨cl5, Ac5⟩ := Arr.start eb5 nr34a
  have I_v5' : Ia s s.heap v5' .byte 3 Value.int (fun j => [(83 : Int32), (70 : Int32), (95 : Int32)].getD j 0) := ⟨cl5, Ac5, own_len eb5 Ac5 nr35a (by decide), by decide, fun j hj => by
      rcases (by omega : j = 0 ∨ j = 1 ∨ j = 2) with rfl | rfl | rfl
      · exact own_el eb5 Ac5 nr49a (by decide) (by decide)
      · exact own_el eb5 Ac5 nr50a (by decide) (by decide)
      · exact own_el eb5 Ac5 nr37a (by decide) (by decide)⟩
  obtain ⟨n, o, h1, h2, h3, _, L, rfl, ⟨rfl, N⟩, hq⟩ := rm0 l s _ hw tables_1 i0 kc sf a0' a1' a2' a3' a4' a5' s0' s1' s2' s3' s4' s5' v0' v1' v2' v3' v4' v5' s.heap s.heap.size (Nat.le_refl _) S_cs hkc S_sf hsf S_a0' S_a1' S_a2' S_a3' S_a4' S_a5' E_a0' E_a1' E_a2' E_a3' E_a4' E_a5' Fs0 Fs1 Fs2 Fs3 Fs4 Fs5 E_s0' Fv_s0' Fc_s0' I_v0' E_s1' Fv_s1' Fc_s1' I_v1' E_s2' Fv_s2' Fc_s2' I_v2' E_s3' Fv_s3' Fc_s3' I_v3' E_s4' Fv_s4' Fc_s4' I_v4' E_s5' Fv_s5' Fc_s5' I_v5' ne_a0'_a4' ne_a0'_a5' ne_a1'_a4' ne_a1'_a5' ne_a2'_a4' ne_a2'_a5' ne_a3'_a4' ne_a3'_a5' p e ha hc hk s m _ below hf ((Spec.applies_iff_loose hf).mp happ).1 ⟨rfl, State.Warmed39.refl s, rfl⟩ trivial
  refine ⟨n, _, h1, h2, h3, hpost _ _ _ _ _ _ ⟨Cond.after_iff.mpr rfl, Cond.after_iff.mpr (eq_i res_at (Term.int_eval (1)) rfl), trivial⟩ ⟨hq.1, hq.2.1, (hq.2.2.sift fun y hy => Or.inr (N y hy)).mono (by decide) (by decide)⟩⟩
theorem main_1_1 : Claimed_1_1 := comes_1 fun _ _ _ _ _ _ h hF => ⟨h.1, hF⟩
theorem main_1_2 : Claimed_1_2 := comes_1 fun _ _ _ _ _ _ h hF => ⟨h.2.1, hF⟩
end Jvm.Pilot.@@N@@
namespace Jvm.Pilot.@@N@@
open Jvm Jvm.ClassFile Sem Op Lib Jvm.Free Jvm.Stand Jvm.Pilot.@@N@@.Jvm.D
/-! MADE BY PROGRAM (witnessworld.py) out of the Statement's table words and the real class files: 18 classes; the members and pool entries that the words name. The judged class is class 1, her method 1. -/
namespace start1
open Jvm.ClassFile
def u (s : String) : CpInfo := .utf8 (stringToUtf16 s)
/-- a pool by its gaps: so many unusable entries, then the entry; so many at the end -/
def gap : Nat → List CpInfo → List CpInfo
  | 0, r => r
  | n + 1, r => .unusable :: gap n r
def poolList (es : List (Nat × CpInfo)) (last : Nat) : List CpInfo := es.foldr (fun e r => gap e.1 (e.2 :: r)) (gap last [])
def pool (es : List (Nat × CpInfo)) (last : Nat) : Array CpInfo := ⟨poolList es last⟩
def fileOf (pool : Array CpInfo) (this : Nat) (attrs : Array Attribute := #[]) (ms : Array MethodInfo := #[]) (fl : Nat := 33) (sup : Nat := 0) (ifs : Array Nat := #[]) (fds : Array FieldInfo := #[]) : ClassFile where
  minorVersion := 0
  majorVersion := 65
  constantPool := pool
  accessFlags := fl
  thisClass := this
  superClass := sup
  interfaces := ifs
  fields := fds
  methods := ms
  attributes := attrs
def plain (name : String) (sup : Option ClassId) : Class where
  name := name
  kind := .ordinary
  loader := none
  accessFlags := 33
  super := sup
  interfaces := #[]
  cf := none
  fields := #[]
  methods := #[]
  instanceTypes := #[]
  staticTypes := #[]
  resolved := #[]
  callSites := []
  init := .initialized
  statics := none
  mirror := none

def pool0 : Array CpInfo := pool [(5, u "<init>"), (0, u "()V"), (1, .class_ 10), (1, u "java/lang/Object")] 113

def k0m0 : Method := { name := "<init>", desc := "()V", sig := { parameters := [], returnType := none }, accessFlags := 1, code := none }
/-- java/lang/Object -/
def k0 : Class := { plain "java/lang/Object" none with
  accessFlags := 33
  interfaces := #[]
  cf := some (fileOf pool0 8 #[] #[{ accessFlags := 1, nameIndex := 5, descriptorIndex := 6, attributes := #[] }] 33 0 #[] #[])
  fields := #[]
  methods := #[k0m0]
  instanceTypes := #[]
  staticTypes := #[]
  resolved := Array.replicate 124 none
  statics := none }

def pool1 : Array CpInfo := pool [(2, .class_ 4), (1, u "java/lang/Object"), (0, u "<init>"), (0, u "()V"), (0, .integer 2147483647), (0, .methodref 9 10), (0, .class_ 11), (0, .nameAndType 12 13), (0, u "com/example/stutter/stutter/eval/KindFairnessPinLaw"), (0, u "kindAt"), (0, u "(I)Lcom/example/stutter/stutter/eval/TemporalNode$Kind;"), (0, .methodref 15 16), (0, .class_ 17), (0, .nameAndType 18 19), (0, u "com/example/stutter/stutter/eval/TemporalNode$Kind"), (0, u "fairness"), (0, u "()Z"), (0, .methodref 15 21), (0, .nameAndType 22 23), (0, u "spelling"), (0, u "()Ljava/lang/String;"), (0, .methodref 25 26), (0, .class_ 27), (0, .nameAndType 28 29), (0, u "java/lang/String"), (0, u "length"), (0, u "()I"), (0, .methodref 25 31), (0, .nameAndType 32 33), (0, u "charAt"), (0, u "(I)C"), (0, .fieldref 15 35), (0, .nameAndType 36 37), (0, u "ALWAYS"), (0, u "Lcom/example/stutter/stutter/eval/TemporalNode$Kind;"), (0, .fieldref 15 39), (0, .nameAndType 40 37), (0, u "EVENTUALLY"), (0, .fieldref 15 42), (0, .nameAndType 43 37), (0, u "LEADS_TO"), (0, .fieldref 15 45), (0, .nameAndType 46 37), (0, u "PLUS_ARROW"), (0, .fieldref 15 48), (0, .nameAndType 49 37), (0, u "WEAK_FAIRNESS"), (0, .fieldref 15 51), (0, .nameAndType 52 37), (0, u "STRONG_FAIRNESS"), (2, u "law"), (0, u "(I)Z")] 7

def k1m0 : Method := { name := "<init>", desc := "()V", sig := { parameters := [], returnType := none }, accessFlags := 1, code := none }
def k1c1 : Code := { maxStack := 3, maxLocals := 7, code := code, exceptionTable := #[], attributes := #[] }
def k1m1 : Method := { name := "law", desc := "(I)Z", sig := { parameters := [.int], returnType := some .boolean }, accessFlags := 9, code := some k1c1 }
def k1c2 : Code := { maxStack := 2, maxLocals := 2, code := method_3_code, exceptionTable := #[], attributes := #[] }
def k1m2 : Method := { name := "kindAt", desc := "(I)Lcom/example/stutter/stutter/eval/TemporalNode$Kind;", sig := { parameters := [.int], returnType := some (.object "com/example/stutter/stutter/eval/TemporalNode$Kind") }, accessFlags := 10, code := some k1c2 }
/-- com/example/stutter/stutter/eval/KindFairnessPinLaw -/
def k1 : Class := { plain "com/example/stutter/stutter/eval/KindFairnessPinLaw" (some 0) with
  accessFlags := 49
  interfaces := #[]
  cf := some (fileOf pool1 9 #[] #[{ accessFlags := 1, nameIndex := 5, descriptorIndex := 6, attributes := #[] }, { accessFlags := 9, nameIndex := 55, descriptorIndex := 56, attributes := #[] }, { accessFlags := 10, nameIndex := 12, descriptorIndex := 13, attributes := #[] }] 49 2 #[] #[])
  fields := #[]
  methods := #[k1m0, k1m1, k1m2]
  instanceTypes := #[]
  staticTypes := #[]
  resolved := Array.replicate 64 none
  statics := none }

def pool2 : Array CpInfo := pool [(1, .class_ 2), (0, u "java/lang/constant/Constable"), (0, .class_ 4), (0, u "java/lang/Object")] 6

/-- java/lang/constant/Constable -/
def k2 : Class := { plain "java/lang/constant/Constable" (some 0) with
  accessFlags := 1537
  interfaces := #[]
  cf := some (fileOf pool2 1 #[] #[] 1537 3 #[] #[])
  fields := #[]
  methods := #[]
  instanceTypes := #[]
  staticTypes := #[]
  resolved := Array.replicate 11 none
  statics := none }

def pool3 : Array CpInfo := pool [(1, .class_ 2), (0, u "java/lang/Comparable"), (0, .class_ 4), (0, u "java/lang/Object")] 7

/-- java/lang/Comparable -/
def k3 : Class := { plain "java/lang/Comparable" (some 0) with
  accessFlags := 1537
  interfaces := #[]
  cf := some (fileOf pool3 1 #[] #[] 1537 3 #[] #[])
  fields := #[]
  methods := #[]
  instanceTypes := #[]
  staticTypes := #[]
  resolved := Array.replicate 12 none
  statics := none }

def pool4 : Array CpInfo := pool [(1, .class_ 2), (0, u "java/io/Serializable"), (0, .class_ 4), (0, u "java/lang/Object")] 2

/-- java/io/Serializable -/
def k4 : Class := { plain "java/io/Serializable" (some 0) with
  accessFlags := 1537
  interfaces := #[]
  cf := some (fileOf pool4 1 #[] #[] 1537 3 #[] #[])
  fields := #[]
  methods := #[]
  instanceTypes := #[]
  staticTypes := #[]
  resolved := Array.replicate 7 none
  statics := none }

def pool5 : Array CpInfo := pool [(2, .class_ 4), (1, u "java/lang/Enum"), (0, u "name"), (0, u "Ljava/lang/String;"), (2, u "ordinal"), (0, u "I"), (1, .class_ 14), (1, u "java/lang/Object"), (4, u "hash"), (86, .class_ 108), (1, u "java/lang/Enum$EnumDesc"), (2, .class_ 112), (0, u "java/lang/constant/Constable"), (0, .class_ 114), (0, u "java/lang/Comparable"), (0, .class_ 116), (0, u "java/io/Serializable")] 87

/-- java/lang/Enum -/
def k5 : Class := { plain "java/lang/Enum" (some 0) with
  accessFlags := 1057
  interfaces := #[2, 3, 4]
  cf := some (fileOf pool5 2 #[.nestMembers #[106]] #[] 1057 12 #[111, 113, 115] #[{ accessFlags := 18, nameIndex := 5, descriptorIndex := 6, attributes := #[] }, { accessFlags := 18, nameIndex := 9, descriptorIndex := 10, attributes := #[] }, { accessFlags := 2, nameIndex := 19, descriptorIndex := 10, attributes := #[] }])
  fields := #[{ name := "name", type := (.object "java/lang/String"), accessFlags := 18, slot := 0, constantValue := 0 }, { name := "ordinal", type := .int, accessFlags := 18, slot := 1, constantValue := 0 }, { name := "hash", type := .int, accessFlags := 2, slot := 2, constantValue := 0 }]
  methods := #[]
  instanceTypes := #[(.object "java/lang/String"), .int, .int]
  staticTypes := #[]
  resolved := Array.replicate 204 none
  statics := none }

def pool6 : Array CpInfo := pool [(1, .class_ 2), (0, u "com/example/stutter/stutter/eval/TemporalNode$Kind"), (2, u "ALWAYS"), (0, u "Lcom/example/stutter/stutter/eval/TemporalNode$Kind;"), (2, u "EVENTUALLY"), (2, u "LEADS_TO"), (2, u "PLUS_ARROW"), (0, .fieldref 1 17), (0, .nameAndType 18 6), (0, u "WEAK_FAIRNESS"), (0, .fieldref 1 20), (0, .nameAndType 21 6), (0, u "STRONG_FAIRNESS"), (2, u "$VALUES"), (0, u "[Lcom/example/stutter/stutter/eval/TemporalNode$Kind;"), (6, .class_ 34), (1, u "java/lang/Enum"), (6, .fieldref 1 42), (0, .nameAndType 43 44), (0, u "spelling"), (0, u "Ljava/lang/String;"), (2, u "arity"), (0, u "I"), (31, u "()Ljava/lang/String;"), (1, u "fairness"), (0, u "()Z"), (7, .class_ 92), (0, u "com/example/stutter/stutter/eval/TemporalNode")] 2

def k6c0 : Code := { maxStack := 1, maxLocals := 1, code := prog_103_method_4_code, exceptionTable := #[], attributes := #[] }
def k6m0 : Method := { name := "spelling", desc := "()Ljava/lang/String;", sig := { parameters := [], returnType := some (.object "java/lang/String") }, accessFlags := 0, code := some k6c0 }
def k6c1 : Code := { maxStack := 2, maxLocals := 1, code := prog_103_method_6_code, exceptionTable := #[], attributes := #[] }
def k6m1 : Method := { name := "fairness", desc := "()Z", sig := { parameters := [], returnType := some .boolean }, accessFlags := 0, code := some k6c1 }
/-- com/example/stutter/stutter/eval/TemporalNode$Kind -/
def k6 : Class := { plain "com/example/stutter/stutter/eval/TemporalNode$Kind" (some 5) with
  accessFlags := 16432
  interfaces := #[]
  cf := some (fileOf pool6 1 #[.nestHost 91] #[{ accessFlags := 0, nameIndex := 43, descriptorIndex := 80, attributes := #[] }, { accessFlags := 0, nameIndex := 82, descriptorIndex := 83, attributes := #[] }] 16432 32 #[] #[{ accessFlags := 16409, nameIndex := 5, descriptorIndex := 6, attributes := #[] }, { accessFlags := 16409, nameIndex := 9, descriptorIndex := 6, attributes := #[] }, { accessFlags := 16409, nameIndex := 12, descriptorIndex := 6, attributes := #[] }, { accessFlags := 16409, nameIndex := 15, descriptorIndex := 6, attributes := #[] }, { accessFlags := 16409, nameIndex := 18, descriptorIndex := 6, attributes := #[] }, { accessFlags := 16409, nameIndex := 21, descriptorIndex := 6, attributes := #[] }, { accessFlags := 18, nameIndex := 43, descriptorIndex := 44, attributes := #[] }, { accessFlags := 18, nameIndex := 47, descriptorIndex := 48, attributes := #[] }, { accessFlags := 4122, nameIndex := 24, descriptorIndex := 25, attributes := #[] }])
  fields := #[{ name := "ALWAYS", type := (.object "com/example/stutter/stutter/eval/TemporalNode$Kind"), accessFlags := 16409, slot := 0, constantValue := 0 }, { name := "EVENTUALLY", type := (.object "com/example/stutter/stutter/eval/TemporalNode$Kind"), accessFlags := 16409, slot := 1, constantValue := 0 }, { name := "LEADS_TO", type := (.object "com/example/stutter/stutter/eval/TemporalNode$Kind"), accessFlags := 16409, slot := 2, constantValue := 0 }, { name := "PLUS_ARROW", type := (.object "com/example/stutter/stutter/eval/TemporalNode$Kind"), accessFlags := 16409, slot := 3, constantValue := 0 }, { name := "WEAK_FAIRNESS", type := (.object "com/example/stutter/stutter/eval/TemporalNode$Kind"), accessFlags := 16409, slot := 4, constantValue := 0 }, { name := "STRONG_FAIRNESS", type := (.object "com/example/stutter/stutter/eval/TemporalNode$Kind"), accessFlags := 16409, slot := 5, constantValue := 0 }, { name := "spelling", type := (.object "java/lang/String"), accessFlags := 18, slot := 3, constantValue := 0 }, { name := "arity", type := .int, accessFlags := 18, slot := 4, constantValue := 0 }, { name := "$VALUES", type := (.array (.object "com/example/stutter/stutter/eval/TemporalNode$Kind")), accessFlags := 4122, slot := 6, constantValue := 0 }]
  methods := #[k6m0, k6m1]
  instanceTypes := #[(.object "java/lang/String"), .int, .int, (.object "java/lang/String"), .int]
  staticTypes := #[(.object "com/example/stutter/stutter/eval/TemporalNode$Kind"), (.object "com/example/stutter/stutter/eval/TemporalNode$Kind"), (.object "com/example/stutter/stutter/eval/TemporalNode$Kind"), (.object "com/example/stutter/stutter/eval/TemporalNode$Kind"), (.object "com/example/stutter/stutter/eval/TemporalNode$Kind"), (.object "com/example/stutter/stutter/eval/TemporalNode$Kind"), (.array (.object "com/example/stutter/stutter/eval/TemporalNode$Kind"))]
  resolved := Array.replicate 95 none
  statics := some 0 }

def pool7 : Array CpInfo := pool [(2, .class_ 4), (1, u "java/lang/CharSequence"), (42, .class_ 48), (0, u "java/lang/CharSequence$1CodePointIterator"), (10, .class_ 60), (0, u "java/lang/CharSequence$1CharIterator"), (5, .class_ 67), (0, u "java/lang/Object")] 63

/-- java/lang/CharSequence -/
def k7 : Class := { plain "java/lang/CharSequence" (some 0) with
  accessFlags := 1537
  interfaces := #[]
  cf := some (fileOf pool7 2 #[.nestMembers #[47, 59]] #[] 1537 66 #[] #[])
  fields := #[]
  methods := #[]
  instanceTypes := #[]
  staticTypes := #[]
  resolved := Array.replicate 131 none
  statics := none }

def pool8 : Array CpInfo := pool [(1, .class_ 2), (0, u "java/lang/constant/ConstantDesc"), (0, .class_ 4), (0, u "java/lang/Object")] 32

/-- java/lang/constant/ConstantDesc -/
def k8 : Class := { plain "java/lang/constant/ConstantDesc" (some 0) with
  accessFlags := 1537
  interfaces := #[]
  cf := some (fileOf pool8 1 #[] #[] 1537 3 #[] #[])
  fields := #[]
  methods := #[]
  instanceTypes := #[]
  staticTypes := #[]
  resolved := Array.replicate 37 none
  statics := none }

def pool9 : Array CpInfo := pool [(2, .class_ 4), (1, u "java/lang/Object"), (0, u "<init>"), (0, u "()V"), (2, .fieldref 10 11), (0, .class_ 12), (0, .nameAndType 13 14), (0, u "java/lang/String"), (0, u "value"), (0, u "[B"), (0, .fieldref 10 16), (0, .nameAndType 17 18), (0, u "coder"), (0, u "B"), (2, u "hash"), (0, u "I"), (2, u "hashIsZero"), (0, u "Z"), (11, .fieldref 10 39), (0, .nameAndType 40 26), (0, u "COMPACT_STRINGS"), (66, .class_ 109), (1, u "java/lang/StringLatin1"), (32, u "()Z"), (191, u "()I"), (0, .methodref 10 336), (0, .nameAndType 17 337), (0, u "()B"), (25, u "([BI)C"), (27, u "(II)V"), (35, u "(I)C"), (64, .methodref 10 493), (0, .nameAndType 494 142), (0, u "isLatin1"), (0, .methodref 107 496), (0, .nameAndType 497 363), (0, u "charAt"), (3, u "checkIndex"), (5, u "length"), (67, .class_ 576), (0, u "java/lang/CharSequence"), (22, u "CASE_INSENSITIVE_ORDER"), (0, u "Ljava/util/Comparator;"), (452, .fieldref 1054 1055), (0, .class_ 1056), (0, .nameAndType 1057 1058), (0, u "jdk/internal/util/Preconditions"), (0, u "SIOOBE_FORMATTER"), (0, u "Ljava/util/function/BiFunction;"), (0, .methodref 1054 1060), (0, .nameAndType 501 1061), (0, u "(IILjava/util/function/BiFunction;)I"), (39, u "serialPersistentFields"), (0, u "[Ljava/io/ObjectStreamField;"), (0, .class_ 1104), (0, u "java/lang/String$CaseInsensitiveComparator"), (1, .class_ 1107), (0, u "java/io/Serializable"), (0, .class_ 1109), (0, u "java/lang/Comparable"), (0, .class_ 1111), (0, u "java/lang/constant/Constable"), (0, .class_ 1113), (0, u "java/lang/constant/ConstantDesc"), (2, u "serialVersionUID"), (0, u "J"), (3, u "REPL"), (0, u "C"), (2, u "LATIN1"), (1, u "UTF16")] 323

def k9m0 : Method := { name := "<init>", desc := "()V", sig := { parameters := [], returnType := none }, accessFlags := 1, code := none }
def k9c1 : Code := { maxStack := 2, maxLocals := 1, code := jdk_42_method_54_code, exceptionTable := #[], attributes := #[] }
def k9m1 : Method := { name := "length", desc := "()I", sig := { parameters := [], returnType := some .int }, accessFlags := 1, code := some k9c1 }
def k9c2 : Code := { maxStack := 2, maxLocals := 2, code := jdk_42_method_56_code, exceptionTable := #[], attributes := #[] }
def k9m2 : Method := { name := "charAt", desc := "(I)C", sig := { parameters := [.int], returnType := some .char }, accessFlags := 1, code := some k9c2 }
def k9c3 : Code := { maxStack := 1, maxLocals := 1, code := jdk_42_method_152_code, exceptionTable := #[], attributes := #[] }
def k9m3 : Method := { name := "coder", desc := "()B", sig := { parameters := [], returnType := some .byte }, accessFlags := 0, code := some k9c3 }
def k9c4 : Code := { maxStack := 1, maxLocals := 1, code := jdk_42_method_154_code, exceptionTable := #[], attributes := #[] }
def k9m4 : Method := { name := "isLatin1", desc := "()Z", sig := { parameters := [], returnType := some .boolean }, accessFlags := 0, code := some k9c4 }
def k9c5 : Code := { maxStack := 3, maxLocals := 2, code := jdk_42_method_155_code, exceptionTable := #[], attributes := #[] }
def k9m5 : Method := { name := "checkIndex", desc := "(II)V", sig := { parameters := [.int, .int], returnType := none }, accessFlags := 8, code := some k9c5 }
/-- java/lang/String -/
def k9 : Class := { plain "java/lang/String" (some 0) with
  accessFlags := 49
  interfaces := #[4, 3, 7, 2, 8]
  cf := some (fileOf pool9 10 #[.nestMembers #[1103]] #[{ accessFlags := 1, nameIndex := 5, descriptorIndex := 6, attributes := #[] }, { accessFlags := 1, nameIndex := 507, descriptorIndex := 334, attributes := #[] }, { accessFlags := 1, nameIndex := 497, descriptorIndex := 427, attributes := #[] }, { accessFlags := 0, nameIndex := 17, descriptorIndex := 337, attributes := #[] }, { accessFlags := 0, nameIndex := 494, descriptorIndex := 142, attributes := #[] }, { accessFlags := 8, nameIndex := 501, descriptorIndex := 391, attributes := #[] }] 49 2 #[1106, 1108, 575, 1110, 1112] #[{ accessFlags := 18, nameIndex := 13, descriptorIndex := 14, attributes := #[] }, { accessFlags := 18, nameIndex := 17, descriptorIndex := 18, attributes := #[] }, { accessFlags := 2, nameIndex := 21, descriptorIndex := 22, attributes := #[] }, { accessFlags := 2, nameIndex := 25, descriptorIndex := 26, attributes := #[] }, { accessFlags := 26, nameIndex := 1116, descriptorIndex := 1117, attributes := #[] }, { accessFlags := 24, nameIndex := 40, descriptorIndex := 26, attributes := #[] }, { accessFlags := 26, nameIndex := 1101, descriptorIndex := 1102, attributes := #[] }, { accessFlags := 26, nameIndex := 1121, descriptorIndex := 1122, attributes := #[] }, { accessFlags := 25, nameIndex := 599, descriptorIndex := 600, attributes := #[] }, { accessFlags := 24, nameIndex := 1125, descriptorIndex := 18, attributes := #[] }, { accessFlags := 24, nameIndex := 1127, descriptorIndex := 18, attributes := #[] }])
  fields := #[{ name := "value", type := (.array .byte), accessFlags := 18, slot := 0, constantValue := 0 }, { name := "coder", type := .byte, accessFlags := 18, slot := 1, constantValue := 0 }, { name := "hash", type := .int, accessFlags := 2, slot := 2, constantValue := 0 }, { name := "hashIsZero", type := .boolean, accessFlags := 2, slot := 3, constantValue := 0 }, { name := "serialVersionUID", type := .long, accessFlags := 26, slot := 0, constantValue := 0 }, { name := "COMPACT_STRINGS", type := .boolean, accessFlags := 24, slot := 1, constantValue := 0 }, { name := "serialPersistentFields", type := (.array (.object "java/io/ObjectStreamField")), accessFlags := 26, slot := 2, constantValue := 0 }, { name := "REPL", type := .char, accessFlags := 26, slot := 3, constantValue := 0 }, { name := "CASE_INSENSITIVE_ORDER", type := (.object "java/util/Comparator"), accessFlags := 25, slot := 4, constantValue := 0 }, { name := "LATIN1", type := .byte, accessFlags := 24, slot := 5, constantValue := 0 }, { name := "UTF16", type := .byte, accessFlags := 24, slot := 6, constantValue := 0 }]
  methods := #[k9m0, k9m1, k9m2, k9m3, k9m4, k9m5]
  instanceTypes := #[(.array .byte), .byte, .int, .boolean]
  staticTypes := #[.long, .boolean, (.array (.object "java/io/ObjectStreamField")), .char, (.object "java/util/Comparator"), .byte, .byte]
  resolved := Array.replicate 1451 none
  statics := some 1 }

def pool10 : Array CpInfo := pool [(1, .class_ 2), (0, u "java/lang/String"), (1, .class_ 6), (1, u "java/lang/Object"), (0, u "<init>"), (0, u "()V"), (0, .methodref 1 10), (0, .nameAndType 11 12), (0, u "checkIndex"), (0, u "(II)V"), (1, .class_ 16), (1, u "java/lang/StringLatin1"), (36, u "([BI)C"), (67, u "$assertionsDisabled"), (0, u "Z"), (98, .class_ 223), (1, u "java/lang/StringLatin1$LinesSpliterator"), (28, u "charAt"), (137, .class_ 391), (0, u "java/lang/StringLatin1$CharsSpliterator")] 3

def k10m0 : Method := { name := "<init>", desc := "()V", sig := { parameters := [], returnType := none }, accessFlags := 0, code := none }
def k10c1 : Code := { maxStack := 2, maxLocals := 2, code := jdk_43_method_2_code, exceptionTable := #[], attributes := #[] }
def k10m1 : Method := { name := "charAt", desc := "([BI)C", sig := { parameters := [(.array .byte), .int], returnType := some .char }, accessFlags := 9, code := some k10c1 }
/-- java/lang/StringLatin1 -/
def k10 : Class := { plain "java/lang/StringLatin1" (some 0) with
  accessFlags := 48
  interfaces := #[]
  cf := some (fileOf pool10 14 #[.nestMembers #[390, 221]] #[{ accessFlags := 0, nameIndex := 7, descriptorIndex := 8, attributes := #[] }, { accessFlags := 9, nameIndex := 252, descriptorIndex := 53, attributes := #[] }] 48 4 #[] #[{ accessFlags := 4120, nameIndex := 121, descriptorIndex := 122, attributes := #[] }])
  fields := #[{ name := "$assertionsDisabled", type := .boolean, accessFlags := 4120, slot := 0, constantValue := 0 }]
  methods := #[k10m0, k10m1]
  instanceTypes := #[]
  staticTypes := #[.boolean]
  resolved := Array.replicate 395 none
  statics := none }

def pool11 : Array CpInfo := pool [(2, .class_ 4), (1, u "java/lang/Object"), (0, u "<init>"), (0, u "()V"), (17, .class_ 26), (1, u "jdk/internal/util/Preconditions"), (6, u "checkIndex"), (21, .class_ 56), (0, u "jdk/internal/util/Preconditions$4"), (57, .class_ 115), (0, u "jdk/internal/util/Preconditions$1"), (7, u "SIOOBE_FORMATTER"), (0, u "Ljava/util/function/BiFunction;"), (0, .class_ 126), (0, u "jdk/internal/util/Preconditions$2"), (3, u "AIOOBE_FORMATTER"), (0, .class_ 132), (0, u "jdk/internal/util/Preconditions$3"), (3, u "IOOBE_FORMATTER"), (41, u "(IILjava/util/function/BiFunction;)I")] 15

def k11m0 : Method := { name := "<init>", desc := "()V", sig := { parameters := [], returnType := none }, accessFlags := 1, code := none }
def k11c1 : Code := { maxStack := 3, maxLocals := 3, code := jdk_41_method_11_code, exceptionTable := #[], attributes := #[] }
def k11m1 : Method := { name := "checkIndex", desc := "(IILjava/util/function/BiFunction;)I", sig := { parameters := [.int, .int, (.object "java/util/function/BiFunction")], returnType := some .int }, accessFlags := 9, code := some k11c1 }
/-- jdk/internal/util/Preconditions -/
def k11 : Class := { plain "jdk/internal/util/Preconditions" (some 0) with
  accessFlags := 33
  interfaces := #[]
  cf := some (fileOf pool11 24 #[.nestMembers #[55, 131, 125, 114]] #[{ accessFlags := 1, nameIndex := 5, descriptorIndex := 6, attributes := #[] }, { accessFlags := 9, nameIndex := 33, descriptorIndex := 178, attributes := #[] }] 33 2 #[] #[{ accessFlags := 25, nameIndex := 123, descriptorIndex := 124, attributes := #[] }, { accessFlags := 25, nameIndex := 130, descriptorIndex := 124, attributes := #[] }, { accessFlags := 25, nameIndex := 136, descriptorIndex := 124, attributes := #[] }])
  fields := #[{ name := "SIOOBE_FORMATTER", type := (.object "java/util/function/BiFunction"), accessFlags := 25, slot := 0, constantValue := 0 }, { name := "AIOOBE_FORMATTER", type := (.object "java/util/function/BiFunction"), accessFlags := 25, slot := 1, constantValue := 0 }, { name := "IOOBE_FORMATTER", type := (.object "java/util/function/BiFunction"), accessFlags := 25, slot := 2, constantValue := 0 }]
  methods := #[k11m0, k11m1]
  instanceTypes := #[]
  staticTypes := #[(.object "java/util/function/BiFunction"), (.object "java/util/function/BiFunction"), (.object "java/util/function/BiFunction")]
  resolved := Array.replicate 194 none
  statics := some 2 }

def pool12 : Array CpInfo := pool [(9, u "<init>"), (6, .class_ 18), (1, u "java/lang/Object"), (0, u "()V"), (1, .class_ 23), (1, u "jdk/internal/util/ArraysSupport"), (0, u "LOG2_ARRAY_LONG_INDEX_SCALE"), (0, u "I"), (2, u "U"), (0, u "Ljdk/internal/misc/Unsafe;"), (8, u "BIG_ENDIAN"), (0, u "Z"), (8, u "LOG2_BYTE_BIT_SIZE"), (4, u "LOG2_ARRAY_INT_INDEX_SCALE"), (54, u "JLA"), (0, u "Ljdk/internal/access/JavaLangAccess;"), (11, u "LOG2_ARRAY_BOOLEAN_INDEX_SCALE"), (9, u "LOG2_ARRAY_BYTE_INDEX_SCALE"), (5, u "LOG2_ARRAY_CHAR_INDEX_SCALE"), (5, u "LOG2_ARRAY_SHORT_INDEX_SCALE"), (18, u "LOG2_ARRAY_FLOAT_INDEX_SCALE"), (24, u "LOG2_ARRAY_DOUBLE_INDEX_SCALE"), (89, u "T_BOOLEAN"), (2, u "T_CHAR"), (1, u "T_FLOAT"), (1, u "T_DOUBLE"), (1, u "T_BYTE"), (1, u "T_SHORT"), (1, u "T_INT"), (1, u "T_LONG"), (1, u "SOFT_MAX_ARRAY_LENGTH")] 83

def k12m0 : Method := { name := "<init>", desc := "()V", sig := { parameters := [], returnType := none }, accessFlags := 2, code := none }
/-- jdk/internal/util/ArraysSupport -/
def k12 : Class := { plain "jdk/internal/util/ArraysSupport" (some 0) with
  accessFlags := 33
  interfaces := #[]
  cf := some (fileOf pool12 21 #[] #[{ accessFlags := 2, nameIndex := 9, descriptorIndex := 19, attributes := #[] }] 33 16 #[] #[{ accessFlags := 24, nameIndex := 28, descriptorIndex := 29, attributes := #[] }, { accessFlags := 26, nameIndex := 38, descriptorIndex := 39, attributes := #[] }, { accessFlags := 25, nameIndex := 121, descriptorIndex := 25, attributes := #[] }, { accessFlags := 25, nameIndex := 131, descriptorIndex := 25, attributes := #[] }, { accessFlags := 25, nameIndex := 137, descriptorIndex := 25, attributes := #[] }, { accessFlags := 25, nameIndex := 143, descriptorIndex := 25, attributes := #[] }, { accessFlags := 25, nameIndex := 53, descriptorIndex := 25, attributes := #[] }, { accessFlags := 25, nameIndex := 24, descriptorIndex := 25, attributes := #[] }, { accessFlags := 25, nameIndex := 162, descriptorIndex := 25, attributes := #[] }, { accessFlags := 25, nameIndex := 187, descriptorIndex := 25, attributes := #[] }, { accessFlags := 26, nameIndex := 48, descriptorIndex := 25, attributes := #[] }, { accessFlags := 25, nameIndex := 277, descriptorIndex := 25, attributes := #[] }, { accessFlags := 25, nameIndex := 280, descriptorIndex := 25, attributes := #[] }, { accessFlags := 25, nameIndex := 282, descriptorIndex := 25, attributes := #[] }, { accessFlags := 25, nameIndex := 284, descriptorIndex := 25, attributes := #[] }, { accessFlags := 25, nameIndex := 286, descriptorIndex := 25, attributes := #[] }, { accessFlags := 25, nameIndex := 288, descriptorIndex := 25, attributes := #[] }, { accessFlags := 25, nameIndex := 290, descriptorIndex := 25, attributes := #[] }, { accessFlags := 25, nameIndex := 292, descriptorIndex := 25, attributes := #[] }, { accessFlags := 26, nameIndex := 108, descriptorIndex := 109, attributes := #[] }, { accessFlags := 25, nameIndex := 294, descriptorIndex := 25, attributes := #[] }])
  fields := #[{ name := "U", type := (.object "jdk/internal/misc/Unsafe"), accessFlags := 24, slot := 0, constantValue := 0 }, { name := "BIG_ENDIAN", type := .boolean, accessFlags := 26, slot := 1, constantValue := 0 }, { name := "LOG2_ARRAY_BOOLEAN_INDEX_SCALE", type := .int, accessFlags := 25, slot := 2, constantValue := 0 }, { name := "LOG2_ARRAY_BYTE_INDEX_SCALE", type := .int, accessFlags := 25, slot := 3, constantValue := 0 }, { name := "LOG2_ARRAY_CHAR_INDEX_SCALE", type := .int, accessFlags := 25, slot := 4, constantValue := 0 }, { name := "LOG2_ARRAY_SHORT_INDEX_SCALE", type := .int, accessFlags := 25, slot := 5, constantValue := 0 }, { name := "LOG2_ARRAY_INT_INDEX_SCALE", type := .int, accessFlags := 25, slot := 6, constantValue := 0 }, { name := "LOG2_ARRAY_LONG_INDEX_SCALE", type := .int, accessFlags := 25, slot := 7, constantValue := 0 }, { name := "LOG2_ARRAY_FLOAT_INDEX_SCALE", type := .int, accessFlags := 25, slot := 8, constantValue := 0 }, { name := "LOG2_ARRAY_DOUBLE_INDEX_SCALE", type := .int, accessFlags := 25, slot := 9, constantValue := 0 }, { name := "LOG2_BYTE_BIT_SIZE", type := .int, accessFlags := 26, slot := 10, constantValue := 0 }, { name := "T_BOOLEAN", type := .int, accessFlags := 25, slot := 11, constantValue := 0 }, { name := "T_CHAR", type := .int, accessFlags := 25, slot := 12, constantValue := 0 }, { name := "T_FLOAT", type := .int, accessFlags := 25, slot := 13, constantValue := 0 }, { name := "T_DOUBLE", type := .int, accessFlags := 25, slot := 14, constantValue := 0 }, { name := "T_BYTE", type := .int, accessFlags := 25, slot := 15, constantValue := 0 }, { name := "T_SHORT", type := .int, accessFlags := 25, slot := 16, constantValue := 0 }, { name := "T_INT", type := .int, accessFlags := 25, slot := 17, constantValue := 0 }, { name := "T_LONG", type := .int, accessFlags := 25, slot := 18, constantValue := 0 }, { name := "JLA", type := (.object "jdk/internal/access/JavaLangAccess"), accessFlags := 26, slot := 19, constantValue := 0 }, { name := "SOFT_MAX_ARRAY_LENGTH", type := .int, accessFlags := 25, slot := 20, constantValue := 0 }]
  methods := #[k12m0]
  instanceTypes := #[]
  staticTypes := #[(.object "jdk/internal/misc/Unsafe"), .boolean, .int, .int, .int, .int, .int, .int, .int, .int, .int, .int, .int, .int, .int, .int, .int, .int, .int, (.object "jdk/internal/access/JavaLangAccess"), .int]
  resolved := Array.replicate 378 none
  statics := none }

def pool13 : Array CpInfo := pool [(1, u "java/lang/Cloneable"), (0, .class_ 1), (0, u "java/lang/Object"), (0, .class_ 3)] 3

/-- java/lang/Cloneable -/
def k13 : Class := { plain "java/lang/Cloneable" (some 0) with
  accessFlags := 1537
  interfaces := #[]
  cf := some (fileOf pool13 2 #[] #[] 1537 4 #[] #[])
  fields := #[]
  methods := #[]
  instanceTypes := #[]
  staticTypes := #[]
  resolved := Array.replicate 8 none
  statics := none }

/-- the primitive byte -/
def k14 : Class := { plain "byte" none with kind := .primitive 'B', accessFlags := 0x411 }
/-- [B -/
def k15 : Class := { plain "[B" (some 0) with kind := .array 14 .byte, interfaces := #[13, 4], accessFlags := 1041 }

/-- the primitive int -/
def k16 : Class := { plain "int" none with kind := .primitive 'I', accessFlags := 0x411 }
/-- [I -/
def k17 : Class := { plain "[I" (some 0) with kind := .array 16 .int, interfaces := #[13, 4], accessFlags := 1041 }

def heap : Heap := #[{ cls := 6, slots := #[.ref 15, .ref 16, .ref 17, .ref 18, .ref 19, .ref 20, .null], vm := .statics 6 },
  { cls := 9, slots := #[.long 0, .int 1, .null, .int 0, .null, .int 0, .int 0], vm := .statics 9 },
  { cls := 11, slots := #[.null, .null, .null], vm := .statics 11 },
  { cls := 15, slots := #[.int 91, .int 93], vm := .none },
  { cls := 15, slots := #[.int 60, .int 62], vm := .none },
  { cls := 15, slots := #[.int 126, .int 62], vm := .none },
  { cls := 15, slots := #[.int 45, .int 43, .int 45, .int 62], vm := .none },
  { cls := 15, slots := #[.int 87, .int 70, .int 95], vm := .none },
  { cls := 15, slots := #[.int 83, .int 70, .int 95], vm := .none },
  { cls := 9, slots := #[.ref 3, .int 0, .int 0, .int 0], vm := .none },
  { cls := 9, slots := #[.ref 4, .int 0, .int 0, .int 0], vm := .none },
  { cls := 9, slots := #[.ref 5, .int 0, .int 0, .int 0], vm := .none },
  { cls := 9, slots := #[.ref 6, .int 0, .int 0, .int 0], vm := .none },
  { cls := 9, slots := #[.ref 7, .int 0, .int 0, .int 0], vm := .none },
  { cls := 9, slots := #[.ref 8, .int 0, .int 0, .int 0], vm := .none },
  { cls := 6, slots := #[.null, .int 0, .int 0, .ref 9, .int 0], vm := .none },
  { cls := 6, slots := #[.null, .int 1, .int 0, .ref 10, .int 0], vm := .none },
  { cls := 6, slots := #[.null, .int 2, .int 0, .ref 11, .int 0], vm := .none },
  { cls := 6, slots := #[.null, .int 3, .int 0, .ref 12, .int 0], vm := .none },
  { cls := 6, slots := #[.null, .int 4, .int 0, .ref 13, .int 0], vm := .none },
  { cls := 6, slots := #[.null, .int 5, .int 0, .ref 14, .int 0], vm := .none }]
def classes : Array Class := #[k0, k1, k2, k3, k4, k5, k6, k7, k8, k9, k10, k11, k12, k13, k14, k15, k16, k17]
def interned : List (Array UInt16 × Addr) := []
def slotsUsed : Nat := 87
def theMethod : MethodId := ⟨1, 1⟩
def args0 : Array Value := #[.int 5]
def aboutOver (below : List Frame) : State where
  vm := { classes := classes, interned := interned.toArray }
  heap := heap
  slotsUsed := slotsUsed
  threads := #[{ frames := .invoking theMethod args0 :: below }]
def below0 : List Frame := [.native { method := ⟨0, 0⟩, args := #[] }]
def about1 : State := aboutOver below0
def p0 : Program := .bare "" "" ""
def e0 : Env := launch0.env 0 0 0
theorem w_frames : about1.frames = Frame.invoking theMethod args0 :: below0 := rfl
set_option maxRecDepth 65536 in
theorem w_args : argsFit about1.vm theMethod args0 = true := by decide +kernel
set_option maxRecDepth 65536 in
theorem w_heap : heapFits about1 = true := by decide +kernel
set_option maxRecDepth 65536 in
theorem w_runnable : about1.curStatus? = some .runnable := by decide +kernel
set_option maxRecDepth 65536 in
theorem w_alone : about1.alone = true := by decide +kernel
set_option maxRecDepth 65536 in
theorem w_named : about1.methodNamed? x = some theMethod := by decide +kernel
set_option maxRecDepth 65536 in
theorem w_hears : about1.hears theMethod below0 = true := by decide +kernel
set_option maxRecDepth 65536 in
theorem w_ripe : about1.ripe theMethod args0 below0 = true := by decide +kernel
theorem w_running : about1.status = .running := rfl
set_option maxRecDepth 65536 in
theorem w_room : about1.hasRoom e0.platform room_1 = true :=
  launch0.hasRoom_least _ room_1 (by decide +kernel) (by decide +kernel) (by decide +kernel) (by decide +kernel) (by decide +kernel) (by decide +kernel)
theorem allAtoms_all (ts : List Jvm.Cond) (a : Array Jvm.Value) (st : Jvm.State) : (allAtoms ts).before a st = ts.all (fun c => c.before a st) := by
  induction ts with
  | nil => rfl
  | cons c t ih =>
    show (Jvm.Cond.and c (allAtoms t)).before a st = _
    rw [Jvm.Cond.before_and, ih, List.all_cons]
def words1 : List Jvm.Cond := Jvm.Cond.code x code maxLocals ret :: tables_1
/-- a 'code' word, met by the world's own term for the bytes: nothing is compared byte by byte -/
theorem code_word {y : MethodName} {bytes : ByteArray} {mx : Nat} {rt : Option FieldType} {a : Array Value} {s : State} {m : MethodId} {meth : Method} {c : Code} (h1 : s.methodNamed? y = some m) (h2 : s.vm.method? m = some meth) (h3 : meth.code = some c) (h4 : c.code = bytes)
    (h5 : (c.maxLocals == mx && c.exceptionTable.isEmpty && decide (c.maxStack ≤ mostOperands) && decide (meth.sig.returnType = rt) && !meth.locks && decide (parseMethodDescriptor y.desc = some meth.sig)) = true) : (Jvm.Cond.code y bytes mx rt).before a s = true := by
  simp only [Bool.and_eq_true, beq_iff_eq, Bool.not_eq_true', decide_eq_true_eq] at h5
  obtain ⟨⟨⟨⟨⟨g1, g2⟩, g3⟩, g4⟩, g5⟩, g6⟩ := h5
  simp [Cond.before, Cond.holds, Cond.value, h1, h2, h3, h4, g1, g2, g3, g4, g5, g6]
def isCode : Jvm.Cond → Bool
  | .code _ _ _ _ => true
  | _ => false
theorem all_split {L : List Jvm.Cond} {P : Jvm.Cond → Bool} (h1 : L.all (fun c => isCode c || P c) = true) (h2 : ∀ c ∈ L.filter isCode, P c = true) : L.all P = true := by
  refine List.all_eq_true.mpr fun c hc => ?_
  have h := List.all_eq_true.mp h1 c hc
  rcases Bool.eq_false_or_eq_true (isCode c) with hi | hi
  · exact h2 c (List.mem_filter.mpr ⟨hc, hi⟩)
  · simpa [hi] using h
set_option maxRecDepth 65536 in
theorem w_c0 : (Jvm.Cond.code x code maxLocals ret).before args0 about1 = true := code_word (m := ⟨1, 1⟩) (meth := k1m1) (c := k1c1) (by decide +kernel) rfl rfl rfl (by decide +kernel)
set_option maxRecDepth 65536 in
theorem w_c1 : (Jvm.Cond.code ({ cls := "com/example/stutter/stutter/eval/KindFairnessPinLaw", name := "kindAt", desc := "(I)Lcom/example/stutter/stutter/eval/TemporalNode$Kind;" } : Jvm.MethodName) method_3_code (2 : Nat) (Option.some (Jvm.ClassFile.FieldType.object "com/example/stutter/stutter/eval/TemporalNode$Kind"))).before args0 about1 = true := code_word (m := ⟨1, 2⟩) (meth := k1m2) (c := k1c2) (by decide +kernel) rfl rfl rfl (by decide +kernel)
set_option maxRecDepth 65536 in
theorem w_c2 : (Jvm.Cond.code ({ cls := "com/example/stutter/stutter/eval/TemporalNode$Kind", name := "fairness", desc := "()Z" } : Jvm.MethodName) prog_103_method_6_code (1 : Nat) (Option.some Jvm.ClassFile.FieldType.boolean)).before args0 about1 = true := code_word (m := ⟨6, 1⟩) (meth := k6m1) (c := k6c1) (by decide +kernel) rfl rfl rfl (by decide +kernel)
set_option maxRecDepth 65536 in
theorem w_c3 : (Jvm.Cond.code ({ cls := "com/example/stutter/stutter/eval/TemporalNode$Kind", name := "spelling", desc := "()Ljava/lang/String;" } : Jvm.MethodName) prog_103_method_4_code (1 : Nat) (Option.some (Jvm.ClassFile.FieldType.object "java/lang/String"))).before args0 about1 = true := code_word (m := ⟨6, 0⟩) (meth := k6m0) (c := k6c0) (by decide +kernel) rfl rfl rfl (by decide +kernel)
set_option maxRecDepth 65536 in
theorem w_c4 : (Jvm.Cond.code ({ cls := "java/lang/String", name := "length", desc := "()I" } : Jvm.MethodName) jdk_42_method_54_code (1 : Nat) (Option.some Jvm.ClassFile.FieldType.int)).before args0 about1 = true := code_word (m := ⟨9, 1⟩) (meth := k9m1) (c := k9c1) (by decide +kernel) rfl rfl rfl (by decide +kernel)
set_option maxRecDepth 65536 in
theorem w_c5 : (Jvm.Cond.code ({ cls := "java/lang/String", name := "coder", desc := "()B" } : Jvm.MethodName) jdk_42_method_152_code (1 : Nat) (Option.some Jvm.ClassFile.FieldType.byte)).before args0 about1 = true := code_word (m := ⟨9, 3⟩) (meth := k9m3) (c := k9c3) (by decide +kernel) rfl rfl rfl (by decide +kernel)
set_option maxRecDepth 65536 in
theorem w_c6 : (Jvm.Cond.code ({ cls := "java/lang/String", name := "charAt", desc := "(I)C" } : Jvm.MethodName) jdk_42_method_56_code (2 : Nat) (Option.some Jvm.ClassFile.FieldType.char)).before args0 about1 = true := code_word (m := ⟨9, 2⟩) (meth := k9m2) (c := k9c2) (by decide +kernel) rfl rfl rfl (by decide +kernel)
set_option maxRecDepth 65536 in
theorem w_c7 : (Jvm.Cond.code ({ cls := "java/lang/String", name := "isLatin1", desc := "()Z" } : Jvm.MethodName) jdk_42_method_154_code (1 : Nat) (Option.some Jvm.ClassFile.FieldType.boolean)).before args0 about1 = true := code_word (m := ⟨9, 4⟩) (meth := k9m4) (c := k9c4) (by decide +kernel) rfl rfl rfl (by decide +kernel)
set_option maxRecDepth 65536 in
theorem w_c8 : (Jvm.Cond.code ({ cls := "java/lang/StringLatin1", name := "charAt", desc := "([BI)C" } : Jvm.MethodName) jdk_43_method_2_code (2 : Nat) (Option.some Jvm.ClassFile.FieldType.char)).before args0 about1 = true := code_word (m := ⟨10, 1⟩) (meth := k10m1) (c := k10c1) (by decide +kernel) rfl rfl rfl (by decide +kernel)
set_option maxRecDepth 65536 in
theorem w_c9 : (Jvm.Cond.code ({ cls := "java/lang/String", name := "checkIndex", desc := "(II)V" } : Jvm.MethodName) jdk_42_method_155_code (2 : Nat) (Option.none : Option Jvm.ClassFile.FieldType)).before args0 about1 = true := code_word (m := ⟨9, 5⟩) (meth := k9m5) (c := k9c5) (by decide +kernel) rfl rfl rfl (by decide +kernel)
set_option maxRecDepth 65536 in
theorem w_c10 : (Jvm.Cond.code ({ cls := "jdk/internal/util/Preconditions", name := "checkIndex", desc := "(IILjava/util/function/BiFunction;)I" } : Jvm.MethodName) jdk_41_method_11_code (3 : Nat) (Option.some Jvm.ClassFile.FieldType.int)).before args0 about1 = true := code_word (m := ⟨11, 1⟩) (meth := k11m1) (c := k11c1) (by decide +kernel) rfl rfl rfl (by decide +kernel)
def codes1 : List Jvm.Cond := [Jvm.Cond.code x code maxLocals ret, Jvm.Cond.code ({ cls := "com/example/stutter/stutter/eval/KindFairnessPinLaw", name := "kindAt", desc := "(I)Lcom/example/stutter/stutter/eval/TemporalNode$Kind;" } : Jvm.MethodName) method_3_code (2 : Nat) (Option.some (Jvm.ClassFile.FieldType.object "com/example/stutter/stutter/eval/TemporalNode$Kind")), Jvm.Cond.code ({ cls := "com/example/stutter/stutter/eval/TemporalNode$Kind", name := "fairness", desc := "()Z" } : Jvm.MethodName) prog_103_method_6_code (1 : Nat) (Option.some Jvm.ClassFile.FieldType.boolean), Jvm.Cond.code ({ cls := "com/example/stutter/stutter/eval/TemporalNode$Kind", name := "spelling", desc := "()Ljava/lang/String;" } : Jvm.MethodName) prog_103_method_4_code (1 : Nat) (Option.some (Jvm.ClassFile.FieldType.object "java/lang/String")), Jvm.Cond.code ({ cls := "java/lang/String", name := "length", desc := "()I" } : Jvm.MethodName) jdk_42_method_54_code (1 : Nat) (Option.some Jvm.ClassFile.FieldType.int), Jvm.Cond.code ({ cls := "java/lang/String", name := "coder", desc := "()B" } : Jvm.MethodName) jdk_42_method_152_code (1 : Nat) (Option.some Jvm.ClassFile.FieldType.byte), Jvm.Cond.code ({ cls := "java/lang/String", name := "charAt", desc := "(I)C" } : Jvm.MethodName) jdk_42_method_56_code (2 : Nat) (Option.some Jvm.ClassFile.FieldType.char), Jvm.Cond.code ({ cls := "java/lang/String", name := "isLatin1", desc := "()Z" } : Jvm.MethodName) jdk_42_method_154_code (1 : Nat) (Option.some Jvm.ClassFile.FieldType.boolean), Jvm.Cond.code ({ cls := "java/lang/StringLatin1", name := "charAt", desc := "([BI)C" } : Jvm.MethodName) jdk_43_method_2_code (2 : Nat) (Option.some Jvm.ClassFile.FieldType.char), Jvm.Cond.code ({ cls := "java/lang/String", name := "checkIndex", desc := "(II)V" } : Jvm.MethodName) jdk_42_method_155_code (2 : Nat) (Option.none : Option Jvm.ClassFile.FieldType), Jvm.Cond.code ({ cls := "jdk/internal/util/Preconditions", name := "checkIndex", desc := "(IILjava/util/function/BiFunction;)I" } : Jvm.MethodName) jdk_41_method_11_code (3 : Nat) (Option.some Jvm.ClassFile.FieldType.int)]
set_option maxRecDepth 65536 in
theorem codes_eq : words1.filter isCode = codes1 := rfl
theorem w_codes : ∀ c ∈ words1.filter isCode, c.before args0 about1 = true := by
  rw [codes_eq]
  intro c hc
  simp only [codes1, List.mem_cons, List.not_mem_nil, or_false] at hc
  rcases hc with rfl | rfl | rfl | rfl | rfl | rfl | rfl | rfl | rfl | rfl | rfl
  · exact w_c0
  · exact w_c1
  · exact w_c2
  · exact w_c3
  · exact w_c4
  · exact w_c5
  · exact w_c6
  · exact w_c7
  · exact w_c8
  · exact w_c9
  · exact w_c10
set_option maxRecDepth 65536 in
theorem w_t1 : (words1.take 24).all (fun c => isCode c || c.before args0 about1) = true := by decide +kernel
set_option maxRecDepth 65536 in
theorem w_t2 : ((words1.drop 24).take 24).all (fun c => isCode c || c.before args0 about1) = true := by decide +kernel
set_option maxRecDepth 65536 in
theorem w_t3 : ((words1.drop 24).drop 24).all (fun c => isCode c || c.before args0 about1) = true := by decide +kernel
theorem w_tables : (allAtoms (Jvm.Cond.code x code maxLocals ret :: tables_1)).before args0 about1 = true := by
  rw [allAtoms_all]
  show words1.all (fun c => c.before args0 about1) = true
  refine all_split ?_ w_codes
  rw [← List.take_append_drop 24 words1, List.all_append, w_t1, ← List.take_append_drop 24 (words1.drop 24), List.all_append, w_t2, w_t3]
  rfl
set_option maxRecDepth 65536 in
theorem w_rest : rest_1_c.before args0 about1 = true := by decide +kernel
set_option maxRecDepth 65536 in
theorem w_case : (Jvm.Cond.and given_1 narrow_1).before args0 about1 = true := by decide +kernel
theorem w_applies : (headSpec (Jvm.Cond.code x code maxLocals ret :: tables_1) room_1).applies x e0.platform about1 = true :=
  (Spec.applies_iff w_frames).mpr ⟨w_running, w_runnable, w_alone, w_named, w_hears, w_ripe, w_room, w_tables⟩
theorem atStart : AtStart classFile x code maxLocals ret World_1 tables_1 room_1 Calls_1 rest_1 Pre_1 launch0 p0 e0 about1 theMethod args0 below0 :=
  ⟨lists_1, trivial, launch0.admits_env _ _ _, launch0.least_env, fairChoices_fair.cas, fairChoices_fair.clock, w_frames, w_args, w_heap, w_applies, trivial, w_rest, w_case⟩
end start1
theorem witness_1 : WitnessClaimed_1 := ⟨start1.p0, start1.e0, start1.about1, start1.theMethod, start1.args0, start1.below0, start1.atStart⟩
end Jvm.Pilot.@@N@@
