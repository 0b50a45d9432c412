import JvmDerived
import JvmDerived.Pilot.@@N@@Statement
import JvmDerived.Pilot.@@N@@Code
set_option linter.unusedVariables false
set_option linter.unusedSimpArgs false
namespace Jvm.RoadKit
open Sem ClassFile Op Lib Jvm.Stand Jvm.Free Jvm.LawKit
section New
variable {p : Program} {l : Launch} {e : Env} {R : Room} {s : State} {m : MethodId} {args : Array Value} {below : List Frame} {meth : Method} {c : Code} {T : State} {locs : List Loc} {cells slots : Nat}
theorem retI (X : Stand p l e R s m args below meth c T locs cells slots) (hx : p.tables.exec = Jvm.exec) {pc : Nat} {Ls : Array Slot} {z : Int32} {rest : List Value} (hret : meth.sig.returnType = some .int) (hd : decode c.code pc = .ok (.ireturn, 1)) {fs : List Frame}
    (hl : ∀ (f : JFrame) (acts : List Action), f.method = m → f.locked = none → f.entered = [] → (doReturn e (T.setTop f) acts (some (.int z))).1 = T.setFrames fs) : Steps p.tables e below (T.setTop (mkF m pc Ls (.int z :: rest))) (T.setFrames fs) := by
  have hm' : T.vm.method? m = some meth := X.method'
  have hn : narrow .int (.int z) = .int z := rfl
  show Steps p.tables e below (T.setTop { method := m, pc := pc, locals := Ls, stack := _ :: rest, locked := none }) _
  jvm_step X.here [X.here.top, hx, hd, hm', hret, hn]
  first | (intro acts; rw [hl _ acts rfl rfl rfl]) | rw [hl _ _ rfl rfl rfl]
  exact Steps.refl _
theorem retL (X : Stand p l e R s m args below meth c T locs cells slots) (hx : p.tables.exec = Jvm.exec) {pc : Nat} {Ls : Array Slot} {z : Int64} {rest : List Value} (hret : meth.sig.returnType = some .long) (hd : decode c.code pc = .ok (.lreturn, 1)) {fs : List Frame}
    (hl : ∀ (f : JFrame) (acts : List Action), f.method = m → f.locked = none → f.entered = [] → (doReturn e (T.setTop f) acts (some (.long z))).1 = T.setFrames fs) : Steps p.tables e below (T.setTop (mkF m pc Ls (.long z :: rest))) (T.setFrames fs) := by
  have hm' : T.vm.method? m = some meth := X.method'
  show Steps p.tables e below (T.setTop { method := m, pc := pc, locals := Ls, stack := _ :: rest, locked := none }) _
  jvm_step X.here [X.here.top, hx, hd, hm', hret, narrow]
  first | (intro acts; rw [hl _ acts rfl rfl rfl]) | rw [hl _ _ rfl rfl rfl]
  exact Steps.refl _
theorem retD (X : Stand p l e R s m args below meth c T locs cells slots) (hx : p.tables.exec = Jvm.exec) {pc : Nat} {Ls : Array Slot} {z : UInt64} {rest : List Value} (hret : meth.sig.returnType = some .double) (hd : decode c.code pc = .ok (.dreturn, 1)) {fs : List Frame}
    (hl : ∀ (f : JFrame) (acts : List Action), f.method = m → f.locked = none → f.entered = [] → (doReturn e (T.setTop f) acts (some (.double z))).1 = T.setFrames fs) : Steps p.tables e below (T.setTop (mkF m pc Ls (.double z :: rest))) (T.setFrames fs) := by
  have hm' : T.vm.method? m = some meth := X.method'
  show Steps p.tables e below (T.setTop { method := m, pc := pc, locals := Ls, stack := _ :: rest, locked := none }) _
  jvm_step X.here [X.here.top, hx, hd, hm', hret, narrow]
  first | (intro acts; rw [hl _ acts rfl rfl rfl]) | rw [hl _ _ rfl rfl rfl]
  exact Steps.refl _
theorem retR (X : Stand p l e R s m args below meth c T locs cells slots) (hx : p.tables.exec = Jvm.exec) {pc : Nat} {Ls : Array Slot} {z : Value} {rest : List Value} {ty : FieldType} (hz : z.isRef = true) (hty : ty.isReference = true) (hret : meth.sig.returnType = some ty) (hd : decode c.code pc = .ok (.areturn, 1)) {fs : List Frame}
    (hl : ∀ (f : JFrame) (acts : List Action), f.method = m → f.locked = none → f.entered = [] → (doReturn e (T.setTop f) acts (some z)).1 = T.setFrames fs) : Steps p.tables e below (T.setTop (mkF m pc Ls (z :: rest))) (T.setFrames fs) := by
  have hm' : T.vm.method? m = some meth := X.method'
  show Steps p.tables e below (T.setTop { method := m, pc := pc, locals := Ls, stack := _ :: rest, locked := none }) _
  jvm_step X.here [X.here.top, hx, hd, hm', hret, hz, hty]
  first | (intro acts; rw [hl _ acts rfl rfl rfl]) | rw [hl _ _ rfl rfl rfl]
  exact Steps.refl _
end New
abbrev lv (x : Int64) : Slot := .val (.long x)
abbrev un : Slot := .unset
abbrev sd : Slot := .second
/-- where the run stands, it comes to an end that G likes -/
def Go (tb : Tables) (e : Env) (below : List Frame) (G : Outcome → State → Prop) (F : State) : Prop := ∃ t o, Steps tb e below F t ∧ t.status = .running ∧ Ended t below o ∧ G o t
theorem Go.stp {tb : Tables} {e : Env} {below : List Frame} {G : Outcome → State → Prop} {F F' : State} (h : ∀ t, Steps tb e below F' t → Steps tb e below F t) (g : Go tb e below G F') : Go tb e below G F := by
  obtain ⟨t, o, h1, r⟩ := g
  exact ⟨t, o, h _ h1, r⟩
end Jvm.RoadKit
namespace Jvm.RoadKit
open Sem ClassFile Op Lib Jvm.Stand Jvm.Free Jvm.LawKit
/-- the array at a has n places of the sort ty; place j holds f j -/
def Ia {α : Type} (Z : State) (h : Heap) (a : Addr) (ty : FieldType) (n : Nat) (mk : α → Value) (f : Nat → α) : Prop := ∃ c : Cell, Arr Z h a c ty ∧ c.slots.size = n ∧ n < 2147483648 ∧ ∀ j, j < n → c.slots[j]? = some (mk (f j))
def upf {α : Type} (f : Nat → α) (i : Nat) (x : α) : Nat → α := fun j => if j = i then x else f j
theorem upf_same {α : Type} (f : Nat → α) (i : Nat) (x : α) : upf f i x i = x := by simp [upf]
theorem upf_ne {α : Type} (f : Nat → α) (i j : Nat) (x : α) (h : j ≠ i) : upf f i x j = f j := by simp [upf, h]
section IaS
variable {α : Type} {Z : State} {h h' : Heap} {a b : Addr} {ty : FieldType} {n sl : Nat} {mk : α → Value} {f : Nat → α} {v : Value} {ws : List Addr}
theorem Ia.lt (F : Ia Z h a ty n mk f) : a < h.size := by obtain ⟨c, A, -⟩ := F; exact A.lt
theorem Ia.ext (F : Ia Z h a ty n mk f) (E : Ext h h') : Ia Z h' a ty n mk f := by obtain ⟨c, A, r⟩ := F; exact ⟨c, A.ext E, r⟩
theorem Ia.other (F : Ia Z h b ty n mk f) (W : Wr h h' a sl v) (q : b ≠ a) : Ia Z h' b ty n mk f := by obtain ⟨c, A, r⟩ := F; exact ⟨c, A.other W q, r⟩
theorem Ia.keep (F : Ia Z h a ty n mk f) (K : Keep h h' ws) (q : a ∉ ws) : Ia Z h' a ty n mk f := by obtain ⟨c, A, r⟩ := F; exact ⟨c, ⟨K.2.1 a c A.1 q, A.2⟩, r⟩
theorem Ia.new {k : ClassId} {z : Int32} {x : α} (A : Arr Z h a (newA k ty z) ty) (hz : z.toNatClampNeg = n) (hn : n < 2147483648) (hx : defaultValue ty = mk x) : Ia Z h a ty n mk (fun _ => x) := by
  refine ⟨_, A, by rw [sz_new, hz], hn, fun j hj => ?_⟩
  simp [newA, hz, hj, hx]
theorem Ia.set {x : α} {j : Int32} {i : Nat} (F : Ia Z h a ty n mk f) (W : Wr h h' a j.toNatClampNeg (mk x)) (hj : j.toNatClampNeg = i) : Ia Z h' a ty n mk (upf f i x) := by
  obtain ⟨c, A, s1, s2, s3⟩ := F
  refine ⟨_, A.same W, by simpa [Cell.setSlot] using s1, s2, fun k hk => ?_⟩
  subst hj
  have q := s3 k hk
  simp only [Cell.setSlot, upf]
  by_cases e : k = j.toNatClampNeg
  · subst e
    rw [Array.getElem?_setIfInBounds_self]
    simp [s1, hk]
  · rw [Array.getElem?_setIfInBounds_ne (by omega), q]
    simp [e]
end IaS
theorem in_of {c : Cell} {n : Nat} {j : Int32} (S : c.slots.size = n) (h : 0 ≤ j.toInt ∧ j.toInt < n) : ¬ (j < 0 ∨ c.slots.size ≤ j.toNatClampNeg) := by
  rw [S, Int32.lt_iff_toInt_lt]
  have e0 : (0 : Int32).toInt = 0 := rfl
  simp only [Int32.toNatClampNeg]
  omega
theorem at_of {n : Nat} {j : Int32} (h : 0 ≤ j.toInt ∧ j.toInt < n) : j.toNatClampNeg < n := by
  simp only [Int32.toNatClampNeg]
  omega
end Jvm.RoadKit
namespace Jvm.RoadKit
open Sem ClassFile Op Lib Jvm.Stand Jvm.Free Jvm.LawKit
def Szk (k : Nat) (h : Heap) : Prop := k ≤ h.size
theorem Szk.ext {k : Nat} {h h' : Heap} (F : Szk k h) (E : Ext h h') : Szk k h' := Nat.le_trans F E.1
theorem Szk.wr {k : Nat} {h h' : Heap} {a : Addr} {sl : Nat} {v : Value} (F : Szk k h) (W : Wr h h' a sl v) : Szk k h' := Nat.le_trans F (Keep.of_wr W).1
theorem Szk.keep {k : Nat} {h h' : Heap} {ws : List Addr} (F : Szk k h) (K : Keep h h' ws) : Szk k h' := Nat.le_trans F K.1
theorem sta_keep0 {Z : State} {h h' : Heap} {C n d : String} {v : Value} (F : Sta Z h C n d v) (K : Keep h h' []) : Sta Z h' C n d v := by
  obtain ⟨cf, i, k, f, st, cell, h1, h2, h3, h4, h5, h6, h7⟩ := F
  exact ⟨cf, i, k, f, st, cell, h1, h2, h3, h4, K.2.1 st cell h5 (fun q => nomatch q), h6, h7⟩
theorem sta_keep {Z : State} {h h' : Heap} {a : Addr} {C C' n d : String} {v : Value} (F : Sta Z h C n d v) (K : Keep h h' [a]) (E : Exa Z h a C') : Sta Z h' C n d v := by
  obtain ⟨cf, i, k, f, st, cell, h1, h2, h3, h4, h5, h6, h7⟩ := F
  obtain ⟨ce, ke, g1, g2, g3, g4, g5⟩ := E
  refine ⟨cf, i, k, f, st, cell, h1, h2, h3, h4, K.2.1 st cell h5 (fun q => ?_), h6, h7⟩
  rw [List.mem_singleton.mp q, g1] at h5
  rw [Option.some.inj h5] at g4
  rw [g4] at h6
  cases h6
end Jvm.RoadKit
namespace Jvm.RoadKit
open Sem ClassFile Op Lib Jvm.Stand Jvm.Free Jvm.LawKit
theorem sel_priv {s : State} {args : Array Value} {y : MethodName} {n : Nat} (hi : (Jvm.Cond.instantiable y.cls n).before args s = true) (hpriv : s.PrivateAt y) (hinst : (Jvm.Cond.instanceMethod y).before args s = true) (hy : y.cls ≠ "java/lang/invoke/MethodHandle" ∧ y.cls ≠ "java/lang/invoke/VarHandle") : (Jvm.Cond.selects y.cls y y).before args s = true := by
  cases hc : s.vm.findClass y.cls with
  | none => simp [Jvm.Cond.before, Jvm.Cond.holds, Jvm.Cond.value, hc] at hi
  | some c =>
    cases hk : s.vm.classes[c]? with
    | none => simp [Jvm.Cond.before, Jvm.Cond.holds, Jvm.Cond.value, hc, hk] at hi
    | some k =>
      refine selects_self_of_private hc hk ?_ hpriv hinst hy
      simp [Jvm.Cond.before, Jvm.Cond.holds, Jvm.Cond.value, hc, hk] at hi
      cases hq : k.isInterface with
      | false => rfl
      | true => simp [hq] at hi
end Jvm.RoadKit
namespace Jvm.RoadKit
open Sem ClassFile Op Lib Jvm.Stand Jvm.Free Jvm.LawKit
section ZZ
variable {p : Program} {l : Launch} {e : Env} {R : Room} {s : State} {m : MethodId} {args : Array Value} {below : List Frame} {meth : Method} {c : Code} {T : State} {locs : List Loc} {cells slots : Nat} {G : Outcome → State → Prop} {pc : Nat} {Ls : Array Slot} {S : List Value} {Z : State} {h : Heap} {a0 : Array Value} {rest : List Value}
theorem zaconstNull (X : Stand p l e R s m args below meth c T locs cells slots) (hx : p.tables.exec = Jvm.exec) (hd : decode c.code pc = .ok (.aconst_null, 1)) (g : Go p.tables e below G (T.setTop (mkF m (pc + 1) Ls (.null :: S)))) : Go p.tables e below G (T.setTop (mkF m pc Ls (S))) := Go.stp (fun t k => XS.aconstNull X.here hx rfl hd k) g
theorem zaload (X : Stand p l e R s m args below meth c T locs cells slots) (hx : p.tables.exec = Jvm.exec) {k : Nat} {v : Value} (hd : decode c.code pc = .ok (.aload k, 2)) (hl : Ls[k]? = some (.val v)) (hv : v.isRef = true) (g : Go p.tables e below G (T.setTop (mkF m (pc + 2) Ls (v :: S)))) : Go p.tables e below G (T.setTop (mkF m pc Ls (S))) := Go.stp (fun t k => XS.aload X.here hx rfl hd hl hv k) g
theorem zaloadN (X : Stand p l e R s m args below meth c T locs cells slots) (hx : p.tables.exec = Jvm.exec) {k : Fin 4} {v : Value} (hd : decode c.code pc = .ok (.aload_n k, 1)) (hl : Ls[k.val]? = some (.val v)) (hv : v.isRef = true) (g : Go p.tables e below G (T.setTop (mkF m (pc + 1) Ls (v :: S)))) : Go p.tables e below G (T.setTop (mkF m pc Ls (S))) := Go.stp (fun t k => XS.aloadN X.here hx rfl hd hl hv k) g
theorem zastore (X : Stand p l e R s m args below meth c T locs cells slots) (hx : p.tables.exec = Jvm.exec) {k : Nat} {x : Value} {rest : List Value} {l' : Array Slot} (hd : decode c.code pc = .ok (.astore k, 2)) (hv : x.isRef = true) (hl : storeLocals Ls k x = some l') (g : Go p.tables e below G (T.setTop (mkF m (pc + 2) l' (rest)))) : Go p.tables e below G (T.setTop (mkF m pc Ls (x :: rest))) := Go.stp (fun t k => XS.astore X.here hx rfl hd rfl hv hl k) g
theorem zastoreN (X : Stand p l e R s m args below meth c T locs cells slots) (hx : p.tables.exec = Jvm.exec) {k : Fin 4} {x : Value} {rest : List Value} {l' : Array Slot} (hd : decode c.code pc = .ok (.astore_n k, 1)) (hv : x.isRef = true) (hl : storeLocals Ls k.val x = some l') (g : Go p.tables e below G (T.setTop (mkF m (pc + 1) l' (rest)))) : Go p.tables e below G (T.setTop (mkF m pc Ls (x :: rest))) := Go.stp (fun t k => XS.astoreN X.here hx rfl hd rfl hv hl k) g
theorem zbipush (X : Stand p l e R s m args below meth c T locs cells slots) (hx : p.tables.exec = Jvm.exec) {i : Int} (hd : decode c.code pc = .ok (.bipush i, 2)) {z : Int32} (hz : (Int8.ofInt i).toInt32 = z) (g : Go p.tables e below G (T.setTop (mkF m (pc + 2) Ls (.int z :: S)))) : Go p.tables e below G (T.setTop (mkF m pc Ls (S))) := by subst hz; exact Go.stp (fun t k => XS.bipush X.here hx rfl hd k) g
theorem zdcmpS (X : Stand p l e R s m args below meth c T locs cells slots) (hx : p.tables.exec = Jvm.exec) {o : CmpOp} {x y : UInt64} {v : Int32} {rest : List Value} (hd : decode c.code pc = .ok (.dcmp o, 1)) (hv : cmpValue (FP.dcmp x y) o = v) (g : Go p.tables e below G (T.setTop (mkF m (pc + 1) Ls (.int v :: rest)))) : Go p.tables e below G (T.setTop (mkF m pc Ls (.double y :: .double x :: rest))) := Go.stp (fun t k => XS.dcmpS X.here hx rfl hd rfl hv k) g
theorem zdconst1 (X : Stand p l e R s m args below meth c T locs cells slots) (hx : p.tables.exec = Jvm.exec) {v : UInt64} (hd : decode c.code pc = .ok (.dconst 1, 1)) (hv : FP.dconst1 = v) (g : Go p.tables e below G (T.setTop (mkF m (pc + 1) Ls (.double v :: S)))) : Go p.tables e below G (T.setTop (mkF m pc Ls (S))) := Go.stp (fun t k => XS.dconst1 X.here hx rfl hd hv k) g
theorem zdload (X : Stand p l e R s m args below meth c T locs cells slots) (hx : p.tables.exec = Jvm.exec) {k : Nat} {v : UInt64} (hd : decode c.code pc = .ok (.dload k, 2)) (hl : Ls[k]? = some (.val (.double v))) (g : Go p.tables e below G (T.setTop (mkF m (pc + 2) Ls (.double v :: S)))) : Go p.tables e below G (T.setTop (mkF m pc Ls (S))) := Go.stp (fun t k => XS.dload X.here hx rfl hd hl k) g
theorem zdloadN (X : Stand p l e R s m args below meth c T locs cells slots) (hx : p.tables.exec = Jvm.exec) {k : Fin 4} {v : UInt64} (hd : decode c.code pc = .ok (.dload_n k, 1)) (hl : Ls[k.val]? = some (.val (.double v))) (g : Go p.tables e below G (T.setTop (mkF m (pc + 1) Ls (.double v :: S)))) : Go p.tables e below G (T.setTop (mkF m pc Ls (S))) := Go.stp (fun t k => XS.dloadN X.here hx rfl hd hl k) g
theorem zdup (X : Stand p l e R s m args below meth c T locs cells slots) (hx : p.tables.exec = Jvm.exec) {x : Value} {rest : List Value} (hd : decode c.code pc = .ok (.dup, 1)) (hc : x.category = 1) (g : Go p.tables e below G (T.setTop (mkF m (pc + 1) Ls (x :: x :: rest)))) : Go p.tables e below G (T.setTop (mkF m pc Ls (x :: rest))) := Go.stp (fun t k => XS.dup X.here hx rfl hd rfl hc k) g
theorem zgoto (X : Stand p l e R s m args below meth c T locs cells slots) (hx : p.tables.exec = Jvm.exec) {o : Int} {pc' : Nat} (hd : decode c.code pc = .ok (.goto o, 3)) (ho : 0 ≤ (pc : Int) + o) (hp : ((pc : Int) + o).toNat = pc') (g : Go p.tables e below G (T.setTop (mkF m (pc') Ls (S)))) : Go p.tables e below G (T.setTop (mkF m pc Ls (S))) := Go.stp (fun t k => XS.goto X.here hx rfl rfl hd ho hp k) g
theorem zi2c (X : Stand p l e R s m args below meth c T locs cells slots) (hx : p.tables.exec = Jvm.exec) {v : Int32} {rest : List Value} (hd : decode c.code pc = .ok (.i2c, 1)) (g : Go p.tables e below G (T.setTop (mkF m (pc + 1) Ls (.int (v.toUInt32.toUInt16.toUInt32.toInt32) :: rest)))) : Go p.tables e below G (T.setTop (mkF m pc Ls (.int v :: rest))) := Go.stp (fun t k => XS.i2c X.here hx rfl hd rfl k) g
theorem zi2l (X : Stand p l e R s m args below meth c T locs cells slots) (hx : p.tables.exec = Jvm.exec) {v : Int32} {rest : List Value} (hd : decode c.code pc = .ok (.i2l, 1)) (g : Go p.tables e below G (T.setTop (mkF m (pc + 1) Ls (.long (v.toInt64) :: rest)))) : Go p.tables e below G (T.setTop (mkF m pc Ls (.int v :: rest))) := Go.stp (fun t k => XS.i2l X.here hx rfl hd rfl k) g
theorem ziadd (X : Stand p l e R s m args below meth c T locs cells slots) (hx : p.tables.exec = Jvm.exec) {x y : Int32} {rest : List Value} (hd : decode c.code pc = .ok (.iadd, 1)) (g : Go p.tables e below G (T.setTop (mkF m (pc + 1) Ls (.int (x + y) :: rest)))) : Go p.tables e below G (T.setTop (mkF m pc Ls (.int y :: .int x :: rest))) := Go.stp (fun t k => XS.iadd X.here hx rfl hd rfl k) g
theorem ziand (X : Stand p l e R s m args below meth c T locs cells slots) (hx : p.tables.exec = Jvm.exec) {x y : Int32} {rest : List Value} (hd : decode c.code pc = .ok (.iand, 1)) (g : Go p.tables e below G (T.setTop (mkF m (pc + 1) Ls (.int (x &&& y) :: rest)))) : Go p.tables e below G (T.setTop (mkF m pc Ls (.int y :: .int x :: rest))) := Go.stp (fun t k => XS.iand X.here hx rfl hd rfl k) g
theorem zicmpNo (X : Stand p l e R s m args below meth c T locs cells slots) (hx : p.tables.exec = Jvm.exec) {cd : ClassFile.Cond} {o : Int} {x y : Int32} {rest : List Value} (hd : decode c.code pc = .ok (.if_icmp cd o, 3)) (hc : if_icmp.holds cd x y = false) (g : Go p.tables e below G (T.setTop (mkF m (pc + 3) Ls (rest)))) : Go p.tables e below G (T.setTop (mkF m pc Ls (.int y :: .int x :: rest))) := Go.stp (fun t k => XS.icmpNo X.here hx rfl hd rfl hc k) g
theorem zicmpYes (X : Stand p l e R s m args below meth c T locs cells slots) (hx : p.tables.exec = Jvm.exec) {cd : ClassFile.Cond} {x y : Int32} {rest : List Value} {o : Int} {pc' : Nat} (hd : decode c.code pc = .ok (.if_icmp cd o, 3)) (hc : if_icmp.holds cd x y = true) (ho : 0 ≤ (pc : Int) + o) (hp : ((pc : Int) + o).toNat = pc') (g : Go p.tables e below G (T.setTop (mkF m (pc') Ls (rest)))) : Go p.tables e below G (T.setTop (mkF m pc Ls (.int y :: .int x :: rest))) := Go.stp (fun t k => XS.icmpYes X.here hx rfl rfl hd rfl hc ho hp k) g
theorem ziconst (X : Stand p l e R s m args below meth c T locs cells slots) (hx : p.tables.exec = Jvm.exec) {i : Int} (hd : decode c.code pc = .ok (.iconst i, 1)) {z : Int32} (hz : (Int32.ofInt i) = z) (g : Go p.tables e below G (T.setTop (mkF m (pc + 1) Ls (.int z :: S)))) : Go p.tables e below G (T.setTop (mkF m pc Ls (S))) := by subst hz; exact Go.stp (fun t k => XS.iconst X.here hx rfl hd k) g
theorem zidiv (X : Stand p l e R s m args below meth c T locs cells slots) (hx : p.tables.exec = Jvm.exec) {x y : Int32} {rest : List Value} (hd : decode c.code pc = .ok (.idiv, 1)) (hy : y ≠ 0) (g : Go p.tables e below G (T.setTop (mkF m (pc + 1) Ls (.int (x / y) :: rest)))) : Go p.tables e below G (T.setTop (mkF m pc Ls (.int y :: .int x :: rest))) := Go.stp (fun t k => XS.idiv X.here hx rfl hd rfl hy k) g
theorem zifNo (X : Stand p l e R s m args below meth c T locs cells slots) (hx : p.tables.exec = Jvm.exec) {cd : ClassFile.Cond} {o : Int} {x : Int32} {rest : List Value} (hd : decode c.code pc = .ok (.ifCond cd o, 3)) (hc : ifCond.holds cd x = false) (g : Go p.tables e below G (T.setTop (mkF m (pc + 3) Ls (rest)))) : Go p.tables e below G (T.setTop (mkF m pc Ls (.int x :: rest))) := Go.stp (fun t k => XS.ifNo X.here hx rfl hd rfl hc k) g
theorem zifYes (X : Stand p l e R s m args below meth c T locs cells slots) (hx : p.tables.exec = Jvm.exec) {cd : ClassFile.Cond} {x : Int32} {rest : List Value} {o : Int} {pc' : Nat} (hd : decode c.code pc = .ok (.ifCond cd o, 3)) (hc : ifCond.holds cd x = true) (ho : 0 ≤ (pc : Int) + o) (hp : ((pc : Int) + o).toNat = pc') (g : Go p.tables e below G (T.setTop (mkF m (pc') Ls (rest)))) : Go p.tables e below G (T.setTop (mkF m pc Ls (.int x :: rest))) := Go.stp (fun t k => XS.ifYes X.here hx rfl rfl hd rfl hc ho hp k) g
theorem zifnonnullNo (X : Stand p l e R s m args below meth c T locs cells slots) (hx : p.tables.exec = Jvm.exec) {o : Int} {rest : List Value} (hd : decode c.code pc = .ok (.ifnonnull o, 3)) (g : Go p.tables e below G (T.setTop (mkF m (pc + 3) Ls (rest)))) : Go p.tables e below G (T.setTop (mkF m pc Ls (.null :: rest))) := Go.stp (fun t k => XS.ifnonnullNo X.here hx rfl hd rfl k) g
theorem zifnonnullYes (X : Stand p l e R s m args below meth c T locs cells slots) (hx : p.tables.exec = Jvm.exec) {b : Addr} {rest : List Value} {o : Int} {pc' : Nat} (hd : decode c.code pc = .ok (.ifnonnull o, 3)) (ho : 0 ≤ (pc : Int) + o) (hp : ((pc : Int) + o).toNat = pc') (g : Go p.tables e below G (T.setTop (mkF m (pc') Ls (rest)))) : Go p.tables e below G (T.setTop (mkF m pc Ls (.ref b :: rest))) := Go.stp (fun t k => XS.ifnonnullYes X.here hx rfl rfl hd rfl ho hp k) g
theorem zifnullNo (X : Stand p l e R s m args below meth c T locs cells slots) (hx : p.tables.exec = Jvm.exec) {o : Int} {b : Addr} {rest : List Value} (hd : decode c.code pc = .ok (.ifnull o, 3)) (g : Go p.tables e below G (T.setTop (mkF m (pc + 3) Ls (rest)))) : Go p.tables e below G (T.setTop (mkF m pc Ls (.ref b :: rest))) := Go.stp (fun t k => XS.ifnullNo X.here hx rfl hd rfl k) g
theorem zifnullYes (X : Stand p l e R s m args below meth c T locs cells slots) (hx : p.tables.exec = Jvm.exec) {rest : List Value} {o : Int} {pc' : Nat} (hd : decode c.code pc = .ok (.ifnull o, 3)) (ho : 0 ≤ (pc : Int) + o) (hp : ((pc : Int) + o).toNat = pc') (g : Go p.tables e below G (T.setTop (mkF m (pc') Ls (rest)))) : Go p.tables e below G (T.setTop (mkF m pc Ls (.null :: rest))) := Go.stp (fun t k => XS.ifnullYes X.here hx rfl rfl hd rfl ho hp k) g
theorem ziinc (X : Stand p l e R s m args below meth c T locs cells slots) (hx : p.tables.exec = Jvm.exec) {k : Nat} {cst : Int} {x : Int32} {l' : Array Slot} (hd : decode c.code pc = .ok (.iinc k cst, 3)) (hl : Ls[k]? = some (.val (.int x))) (hl' : storeLocals Ls k (.int (x + Int32.ofInt cst)) = some l') (g : Go p.tables e below G (T.setTop (mkF m (pc + 3) l' (S)))) : Go p.tables e below G (T.setTop (mkF m pc Ls (S))) := Go.stp (fun t k => XS.iinc X.here hx rfl hd hl hl' k) g
theorem ziload (X : Stand p l e R s m args below meth c T locs cells slots) (hx : p.tables.exec = Jvm.exec) {k : Nat} {v : Int32} (hd : decode c.code pc = .ok (.iload k, 2)) (hl : Ls[k]? = some (.val (.int v))) (g : Go p.tables e below G (T.setTop (mkF m (pc + 2) Ls (.int v :: S)))) : Go p.tables e below G (T.setTop (mkF m pc Ls (S))) := Go.stp (fun t k => XS.iload X.here hx rfl hd hl k) g
theorem ziloadN (X : Stand p l e R s m args below meth c T locs cells slots) (hx : p.tables.exec = Jvm.exec) {k : Fin 4} {v : Int32} (hd : decode c.code pc = .ok (.iload_n k, 1)) (hl : Ls[k.val]? = some (.val (.int v))) (g : Go p.tables e below G (T.setTop (mkF m (pc + 1) Ls (.int v :: S)))) : Go p.tables e below G (T.setTop (mkF m pc Ls (S))) := Go.stp (fun t k => XS.iloadN X.here hx rfl hd hl k) g
theorem zimul (X : Stand p l e R s m args below meth c T locs cells slots) (hx : p.tables.exec = Jvm.exec) {x y : Int32} {rest : List Value} (hd : decode c.code pc = .ok (.imul, 1)) (g : Go p.tables e below G (T.setTop (mkF m (pc + 1) Ls (.int (x * y) :: rest)))) : Go p.tables e below G (T.setTop (mkF m pc Ls (.int y :: .int x :: rest))) := Go.stp (fun t k => XS.imul X.here hx rfl hd rfl k) g
theorem zirem (X : Stand p l e R s m args below meth c T locs cells slots) (hx : p.tables.exec = Jvm.exec) {x y : Int32} {rest : List Value} (hd : decode c.code pc = .ok (.irem, 1)) (hy : y ≠ 0) (g : Go p.tables e below G (T.setTop (mkF m (pc + 1) Ls (.int (x - (x / y) * y) :: rest)))) : Go p.tables e below G (T.setTop (mkF m pc Ls (.int y :: .int x :: rest))) := Go.stp (fun t k => XS.irem X.here hx rfl hd rfl hy k) g
theorem zishr (X : Stand p l e R s m args below meth c T locs cells slots) (hx : p.tables.exec = Jvm.exec) {x : Int32} {y : Int32} {rest : List Value} (hd : decode c.code pc = .ok (.ishr, 1)) (g : Go p.tables e below G (T.setTop (mkF m (pc + 1) Ls (.int (x >>> (y &&& 31)) :: rest)))) : Go p.tables e below G (T.setTop (mkF m pc Ls (.int y :: .int x :: rest))) := Go.stp (fun t k => XS.ishr X.here hx rfl hd rfl k) g
theorem zistore (X : Stand p l e R s m args below meth c T locs cells slots) (hx : p.tables.exec = Jvm.exec) {k : Nat} {x : Int32} {rest : List Value} {l' : Array Slot} (hd : decode c.code pc = .ok (.istore k, 2)) (hl : storeLocals Ls k (.int x) = some l') (g : Go p.tables e below G (T.setTop (mkF m (pc + 2) l' (rest)))) : Go p.tables e below G (T.setTop (mkF m pc Ls (.int x :: rest))) := Go.stp (fun t k => XS.istore X.here hx rfl hd rfl hl k) g
theorem zistoreN (X : Stand p l e R s m args below meth c T locs cells slots) (hx : p.tables.exec = Jvm.exec) {k : Fin 4} {x : Int32} {rest : List Value} {l' : Array Slot} (hd : decode c.code pc = .ok (.istore_n k, 1)) (hl : storeLocals Ls k.val (.int x) = some l') (g : Go p.tables e below G (T.setTop (mkF m (pc + 1) l' (rest)))) : Go p.tables e below G (T.setTop (mkF m pc Ls (.int x :: rest))) := Go.stp (fun t k => XS.istoreN X.here hx rfl hd rfl hl k) g
theorem zisub (X : Stand p l e R s m args below meth c T locs cells slots) (hx : p.tables.exec = Jvm.exec) {x y : Int32} {rest : List Value} (hd : decode c.code pc = .ok (.isub, 1)) (g : Go p.tables e below G (T.setTop (mkF m (pc + 1) Ls (.int (x - y) :: rest)))) : Go p.tables e below G (T.setTop (mkF m pc Ls (.int y :: .int x :: rest))) := Go.stp (fun t k => XS.isub X.here hx rfl hd rfl k) g
theorem ziushr (X : Stand p l e R s m args below meth c T locs cells slots) (hx : p.tables.exec = Jvm.exec) {x : Int32} {y : Int32} {rest : List Value} (hd : decode c.code pc = .ok (.iushr, 1)) (g : Go p.tables e below G (T.setTop (mkF m (pc + 1) Ls (.int ((x.toUInt32 >>> (y &&& 31).toUInt32).toInt32) :: rest)))) : Go p.tables e below G (T.setTop (mkF m pc Ls (.int y :: .int x :: rest))) := Go.stp (fun t k => XS.iushr X.here hx rfl hd rfl k) g
theorem zladd (X : Stand p l e R s m args below meth c T locs cells slots) (hx : p.tables.exec = Jvm.exec) {x : Int64} {y : Int64} {rest : List Value} (hd : decode c.code pc = .ok (.ladd, 1)) (g : Go p.tables e below G (T.setTop (mkF m (pc + 1) Ls (.long (x + y) :: rest)))) : Go p.tables e below G (T.setTop (mkF m pc Ls (.long y :: .long x :: rest))) := Go.stp (fun t k => XS.ladd X.here hx rfl hd rfl k) g
theorem zlcmp (X : Stand p l e R s m args below meth c T locs cells slots) (hx : p.tables.exec = Jvm.exec) {x y : Int64} {rest : List Value} (hd : decode c.code pc = .ok (.lcmp, 1)) {z : Int32} (hz : (if x > y then 1 else if x = y then 0 else -1) = z) (g : Go p.tables e below G (T.setTop (mkF m (pc + 1) Ls (.int z :: rest)))) : Go p.tables e below G (T.setTop (mkF m pc Ls (.long y :: .long x :: rest))) := by subst hz; exact Go.stp (fun t k => XS.lcmp X.here hx rfl hd rfl k) g
theorem zlconst (X : Stand p l e R s m args below meth c T locs cells slots) (hx : p.tables.exec = Jvm.exec) {k : Fin 2} (hd : decode c.code pc = .ok (.lconst k, 1)) {z : Int64} (hz : (Int64.ofNat k) = z) (g : Go p.tables e below G (T.setTop (mkF m (pc + 1) Ls (.long z :: S)))) : Go p.tables e below G (T.setTop (mkF m pc Ls (S))) := by subst hz; exact Go.stp (fun t k => XS.lconst X.here hx rfl hd k) g
theorem zlload (X : Stand p l e R s m args below meth c T locs cells slots) (hx : p.tables.exec = Jvm.exec) {k : Nat} {v : Int64} (hd : decode c.code pc = .ok (.lload k, 2)) (hl : Ls[k]? = some (.val (.long v))) (g : Go p.tables e below G (T.setTop (mkF m (pc + 2) Ls (.long v :: S)))) : Go p.tables e below G (T.setTop (mkF m pc Ls (S))) := Go.stp (fun t k => XS.lload X.here hx rfl hd hl k) g
theorem zlloadN (X : Stand p l e R s m args below meth c T locs cells slots) (hx : p.tables.exec = Jvm.exec) {k : Fin 4} {v : Int64} (hd : decode c.code pc = .ok (.lload_n k, 1)) (hl : Ls[k.val]? = some (.val (.long v))) (g : Go p.tables e below G (T.setTop (mkF m (pc + 1) Ls (.long v :: S)))) : Go p.tables e below G (T.setTop (mkF m pc Ls (S))) := Go.stp (fun t k => XS.lloadN X.here hx rfl hd hl k) g
theorem zlmul (X : Stand p l e R s m args below meth c T locs cells slots) (hx : p.tables.exec = Jvm.exec) {x : Int64} {y : Int64} {rest : List Value} (hd : decode c.code pc = .ok (.lmul, 1)) (g : Go p.tables e below G (T.setTop (mkF m (pc + 1) Ls (.long (x * y) :: rest)))) : Go p.tables e below G (T.setTop (mkF m pc Ls (.long y :: .long x :: rest))) := Go.stp (fun t k => XS.lmul X.here hx rfl hd rfl k) g
theorem zlneg (X : Stand p l e R s m args below meth c T locs cells slots) (hx : p.tables.exec = Jvm.exec) {v : Int64} {rest : List Value} (hd : decode c.code pc = .ok (.lneg, 1)) (g : Go p.tables e below G (T.setTop (mkF m (pc + 1) Ls (.long (-v) :: rest)))) : Go p.tables e below G (T.setTop (mkF m pc Ls (.long v :: rest))) := Go.stp (fun t k => XS.lneg X.here hx rfl hd rfl k) g
theorem zlstore (X : Stand p l e R s m args below meth c T locs cells slots) (hx : p.tables.exec = Jvm.exec) {k : Nat} {x : Int64} {rest : List Value} {l' : Array Slot} (hd : decode c.code pc = .ok (.lstore k, 2)) (hl : storeLocals Ls k (.long x) = some l') (g : Go p.tables e below G (T.setTop (mkF m (pc + 2) l' (rest)))) : Go p.tables e below G (T.setTop (mkF m pc Ls (.long x :: rest))) := Go.stp (fun t k => XS.lstore X.here hx rfl hd rfl hl k) g
theorem zlstoreN (X : Stand p l e R s m args below meth c T locs cells slots) (hx : p.tables.exec = Jvm.exec) {k : Fin 4} {x : Int64} {rest : List Value} {l' : Array Slot} (hd : decode c.code pc = .ok (.lstore_n k, 1)) (hl : storeLocals Ls k.val (.long x) = some l') (g : Go p.tables e below G (T.setTop (mkF m (pc + 1) l' (rest)))) : Go p.tables e below G (T.setTop (mkF m pc Ls (.long x :: rest))) := Go.stp (fun t k => XS.lstoreN X.here hx rfl hd rfl hl k) g
theorem zpop (X : Stand p l e R s m args below meth c T locs cells slots) (hx : p.tables.exec = Jvm.exec) {x : Value} {rest : List Value} (hd : decode c.code pc = .ok (.pop, 1)) (hc : x.category = 1) (g : Go p.tables e below G (T.setTop (mkF m (pc + 1) Ls (rest)))) : Go p.tables e below G (T.setTop (mkF m pc Ls (x :: rest))) := Go.stp (fun t k => XS.pop X.here hx rfl hd rfl hc k) g
theorem zsipush (X : Stand p l e R s m args below meth c T locs cells slots) (hx : p.tables.exec = Jvm.exec) {i : Int} (hd : decode c.code pc = .ok (.sipush i, 3)) {z : Int32} (hz : (Int16.ofInt i).toInt32 = z) (g : Go p.tables e below G (T.setTop (mkF m (pc + 3) Ls (.int z :: S)))) : Go p.tables e below G (T.setTop (mkF m pc Ls (S))) := by subst hz; exact Go.stp (fun t k => XS.sipush X.here hx rfl hd k) g
theorem zgetF (X : Stand p l e R s m args below meth c T locs cells slots) (hx : p.tables.exec = Jvm.exec) (hZ : Z.Warmed39 s.vm) {own O n d : String} {index : Nat} (hown : s.vm.findClass own = some m.cls) (w : (Cond.fieldLink own index O n d).before a0 Z = true) (eT : T.heap = h) {a : Addr} {v : Value} (F : Fld Z h a O n d v) (hd : decode c.code pc = .ok (.getfield index, 3)) (k : ∀ T', Stand p l e R s m args below meth c T' locs cells slots → T'.heap = h → Go p.tables e below G (T'.setTop (mkF m (pc + 3) Ls (v :: rest)))) : Go p.tables e below G (T.setTop (mkF m pc Ls (.ref a :: rest))) := by
  obtain ⟨T', X', e', st⟩ := getF X hx hZ hown (host := "") (Or.inl w) Via.refl eT F (g := mkF m pc Ls (.ref a :: rest)) rfl rfl hd
  exact Go.stp (fun t q => st t q) (k T' X' e')
theorem zputF (X : Stand p l e R s m args below meth c T locs cells slots) (hx : p.tables.exec = Jvm.exec) (hZ : Z.Warmed39 s.vm) {own O n d C : String} {index kk : Nat} {ty : FieldType} (hown : s.vm.findClass own = some m.cls) (w : (Cond.fieldLink own index O n d).before a0 Z = true) (eT : T.heap = h) {a : Addr} {v old : Value} (F : Fld Z h a O n d old) (E : Exa Z h a C) (L : (Cond.lays C O n d).before a0 Z = true ∨ ((Cond.laysFinal C O n d).before a0 Z = true ∧ own = O ∧ meth.name = "<init>")) (wi : (Cond.instantiable C kk).before a0 Z = true) (hty : parseFieldDescriptor d = some ty) (hn : narrow ty v = v) (hf : fits ty v = true) (hd : decode c.code pc = .ok (.putfield index, 3)) (k : ∀ T' h', Stand p l e R s m args below meth c T' (locs ++ [⟨a, slotOf Z O n d⟩]) cells slots → T'.heap = h' → Wr h h' a (slotOf Z O n d) v → Go p.tables e below G (T'.setTop (mkF m (pc + 3) Ls (rest)))) : Go p.tables e below G (T.setTop (mkF m pc Ls (v :: .ref a :: rest))) := by
  obtain ⟨T', h', X', e', W, st⟩ := putF X hx hZ hown (host := "") (Or.inl w) Via.refl eT F E L wi hty hn hf (g := mkF m pc Ls (v :: .ref a :: rest)) rfl rfl hd
  exact Go.stp (fun t q => st t q) (k T' h' X' e' W)
theorem zial (X : Stand p l e R s m args below meth c T locs cells slots) (hx : p.tables.exec = Jvm.exec) (hZ : Z.Warmed39 s.vm) (eT : T.heap = h) {a : Addr} {n : Nat} {f : Nat → Int32} (F : Ia Z h a .int n Value.int f) {j : Int32} (ib : 0 ≤ j.toInt ∧ j.toInt < (n : Int)) (hd : decode c.code pc = .ok (.iaload, 1)) (g : Go p.tables e below G (T.setTop (mkF m (pc + 1) Ls (.int (f j.toNatClampNeg) :: rest)))) : Go p.tables e below G (T.setTop (mkF m pc Ls (.int j :: .ref a :: rest))) := by
  obtain ⟨cl, Ar, Sz, -, Hs⟩ := id F
  exact Go.stp (fun t q => X.iaload hx (by rw [eT]; exact Ar.1) (State.isArrayOf_alike hZ.alike Ar.2.1) Ar.2.2 (in_of Sz ib) (Hs _ (at_of ib)) (g := mkF m pc Ls (.int j :: .ref a :: rest)) rfl rfl hd t q) g
theorem zlal (X : Stand p l e R s m args below meth c T locs cells slots) (hx : p.tables.exec = Jvm.exec) (hZ : Z.Warmed39 s.vm) (eT : T.heap = h) {a : Addr} {n : Nat} {f : Nat → Int64} (F : Ia Z h a .long n Value.long f) {j : Int32} (ib : 0 ≤ j.toInt ∧ j.toInt < (n : Int)) (hd : decode c.code pc = .ok (.laload, 1)) (g : Go p.tables e below G (T.setTop (mkF m (pc + 1) Ls (.long (f j.toNatClampNeg) :: rest)))) : Go p.tables e below G (T.setTop (mkF m pc Ls (.int j :: .ref a :: rest))) := by
  obtain ⟨cl, Ar, Sz, -, Hs⟩ := id F
  exact Go.stp (fun t q => X.laload hx (by rw [eT]; exact Ar.1) (State.isArrayOf_alike hZ.alike Ar.2.1) Ar.2.2 (in_of Sz ib) (Hs _ (at_of ib)) (g := mkF m pc Ls (.int j :: .ref a :: rest)) rfl rfl hd t q) g
theorem zias (X : Stand p l e R s m args below meth c T locs cells slots) (hx : p.tables.exec = Jvm.exec) (hZ : Z.Warmed39 s.vm) (eT : T.heap = h) {a : Addr} {n : Nat} {f : Nat → Int32} (F : Ia Z h a .int n Value.int f) {j : Int32} {x : Int32} (ib : 0 ≤ j.toInt ∧ j.toInt < (n : Int)) (hd : decode c.code pc = .ok (.iastore, 1)) (k : ∀ T' h', Stand p l e R s m args below meth c T' (locs ++ [⟨a, j.toNatClampNeg⟩]) cells slots → T'.heap = h' → Wr h h' a j.toNatClampNeg (.int x) → Ia Z h' a .int n Value.int (upf f j.toNatClampNeg x) → Go p.tables e below G (T'.setTop (mkF m (pc + 1) Ls (rest)))) : Go p.tables e below G (T.setTop (mkF m pc Ls (.int x :: .int j :: .ref a :: rest))) := by
  obtain ⟨cl, Ar, Sz, -, -⟩ := id F
  obtain ⟨T', h', X', e', W, st⟩ := stI X hx hZ eT Ar (j := j) (in_of Sz ib) (g := mkF m pc Ls (.int x :: .int j :: .ref a :: rest)) rfl rfl hd
  exact Go.stp (fun t q => st t q) (k T' h' X' e' W (F.set W rfl))
theorem zlas (X : Stand p l e R s m args below meth c T locs cells slots) (hx : p.tables.exec = Jvm.exec) (hZ : Z.Warmed39 s.vm) (eT : T.heap = h) {a : Addr} {n : Nat} {f : Nat → Int64} (F : Ia Z h a .long n Value.long f) {j : Int32} {x : Int64} (ib : 0 ≤ j.toInt ∧ j.toInt < (n : Int)) (hd : decode c.code pc = .ok (.lastore, 1)) (k : ∀ T' h', Stand p l e R s m args below meth c T' (locs ++ [⟨a, j.toNatClampNeg⟩]) cells slots → T'.heap = h' → Wr h h' a j.toNatClampNeg (.long x) → Ia Z h' a .long n Value.long (upf f j.toNatClampNeg x) → Go p.tables e below G (T'.setTop (mkF m (pc + 1) Ls (rest)))) : Go p.tables e below G (T.setTop (mkF m pc Ls (.long x :: .int j :: .ref a :: rest))) := by
  obtain ⟨cl, Ar, Sz, -, -⟩ := id F
  obtain ⟨T', h', X', e', W, st⟩ := stJ X hx hZ eT Ar (j := j) (in_of Sz ib) (g := mkF m pc Ls (.long x :: .int j :: .ref a :: rest)) rfl rfl hd
  exact Go.stp (fun t q => st t q) (k T' h' X' e' W (F.set W rfl))
theorem zlen (X : Stand p l e R s m args below meth c T locs cells slots) (hx : p.tables.exec = Jvm.exec) (hZ : Z.Warmed39 s.vm) (eT : T.heap = h) {a : Addr} {cl : Cell} {ty : FieldType} {n : Nat} {z : Int32} (A : Arr Z h a cl ty) (Sz : cl.slots.size = n) (hz : n.toInt32 = z) (hd : decode c.code pc = .ok (.arraylength, 1)) (g : Go p.tables e below G (T.setTop (mkF m (pc + 1) Ls (.int z :: rest)))) : Go p.tables e below G (T.setTop (mkF m pc Ls (.ref a :: rest))) := by
  subst hz; subst Sz
  exact Go.stp (fun t q => X.arraylength hx (by rw [eT]; exact A.1) (State.isArrayOf_alike hZ.alike A.2.1) (g := mkF m pc Ls (.ref a :: rest)) rfl rfl hd t q) g
theorem zretI {C' S' : Nat} {Q : Option Value → Heap → List Loc → Prop} {z : Int32} (X : Stand p l e R s m args below meth c T locs cells slots) (hx : p.tables.exec = Jvm.exec) (hret : meth.sig.returnType = some .int) (hlk : meth.locks = false) (hd : decode c.code pc = .ok (.ireturn, 1)) (eT : T.heap = h) (hG : ∀ v L U', Q v U'.heap L → FrameEnd s (.returned v) U' L C' S' → G (.returned v) U') (hc : cells ≤ C') (hs : slots ≤ S') (q : Q (some (.int z)) h locs) : Go p.tables e below G (T.setTop (mkF m pc Ls (.int z :: rest))) := by
  obtain ⟨fs, hr, hrun, hended, hW, hsame⟩ := X.leave (v := some (.int z)) (fun h => by rw [hret] at h; cases h)
  refine ⟨_, _, retI X hx hret hd hr, hrun, hended, hG _ _ _ ?_ ⟨⟨_, rfl⟩, hW, hsame.mono hc hs⟩⟩
  show Q _ T.heap _
  rw [eT]
  exact q
theorem zretL {C' S' : Nat} {Q : Option Value → Heap → List Loc → Prop} {z : Int64} (X : Stand p l e R s m args below meth c T locs cells slots) (hx : p.tables.exec = Jvm.exec) (hret : meth.sig.returnType = some .long) (hlk : meth.locks = false) (hd : decode c.code pc = .ok (.lreturn, 1)) (eT : T.heap = h) (hG : ∀ v L U', Q v U'.heap L → FrameEnd s (.returned v) U' L C' S' → G (.returned v) U') (hc : cells ≤ C') (hs : slots ≤ S') (q : Q (some (.long z)) h locs) : Go p.tables e below G (T.setTop (mkF m pc Ls (.long z :: rest))) := by
  obtain ⟨fs, hr, hrun, hended, hW, hsame⟩ := X.leave (v := some (.long z)) (fun h => by rw [hret] at h; cases h)
  refine ⟨_, _, retL X hx hret hd hr, hrun, hended, hG _ _ _ ?_ ⟨⟨_, rfl⟩, hW, hsame.mono hc hs⟩⟩
  show Q _ T.heap _
  rw [eT]
  exact q
theorem zretR {C' S' : Nat} {Q : Option Value → Heap → List Loc → Prop} {z : Value} {ty : FieldType} (X : Stand p l e R s m args below meth c T locs cells slots) (hx : p.tables.exec = Jvm.exec) (hz : z.isRef = true) (hty : ty.isReference = true) (hret : meth.sig.returnType = some ty) (hlk : meth.locks = false) (hd : decode c.code pc = .ok (.areturn, 1)) (eT : T.heap = h) (hG : ∀ v L U', Q v U'.heap L → FrameEnd s (.returned v) U' L C' S' → G (.returned v) U') (hc : cells ≤ C') (hs : slots ≤ S') (q : Q (some z) h locs) : Go p.tables e below G (T.setTop (mkF m pc Ls (z :: rest))) := by
  obtain ⟨fs, hr, hrun, hended, hW, hsame⟩ := X.leave (v := some z) (fun h => by rw [hret] at h; cases h)
  refine ⟨_, _, retR X hx hz hty hret hd hr, hrun, hended, hG _ _ _ ?_ ⟨⟨_, rfl⟩, hW, hsame.mono hc hs⟩⟩
  show Q _ T.heap _
  rw [eT]
  exact q
theorem zretN {C' S' : Nat} {Q : Option Value → Heap → List Loc → Prop} {z : Int32} {t : FieldType} (X : Stand p l e R s m args below meth c T locs cells slots) (hx : p.tables.exec = Jvm.exec) (ht : t = .boolean ∨ t = .byte ∨ t = .char ∨ t = .short) (hret : meth.sig.returnType = some t) (hlk : meth.locks = false) (hd : decode c.code pc = .ok (.ireturn, 1)) (eT : T.heap = h) (hG : ∀ v L U', Q v U'.heap L → FrameEnd s (.returned v) U' L C' S' → G (.returned v) U') (hc : cells ≤ C') (hs : slots ≤ S') (q : Q (some (.int (nar t z))) h locs) : Go p.tables e below G (T.setTop (mkF m pc Ls (.int z :: rest))) := by
  obtain ⟨fs, hr, hrun, hended, hW, hsame⟩ := X.leave (v := some (.int (nar t z))) (fun h => by rw [hret] at h; cases h)
  refine ⟨_, _, retN X hx hret ht hd hr, hrun, hended, hG _ _ _ ?_ ⟨⟨_, rfl⟩, hW, hsame.mono hc hs⟩⟩
  show Q _ T.heap _
  rw [eT]
  exact q
theorem zretV {C' S' : Nat} {Q : Option Value → Heap → List Loc → Prop}  (X : Stand p l e R s m args below meth c T locs cells slots) (hx : p.tables.exec = Jvm.exec) (hret : meth.sig.returnType = none) (hlk : meth.locks = false) (hd : decode c.code pc = .ok (.return_, 1)) (eT : T.heap = h) (hG : ∀ v L U', Q v U'.heap L → FrameEnd s (.returned v) U' L C' S' → G (.returned v) U') (hc : cells ≤ C') (hs : slots ≤ S') (q : Q (none) h locs) : Go p.tables e below G (T.setTop (mkF m pc Ls ([]))) := by
  obtain ⟨fs, hr, hrun, hended, hW, hsame⟩ := X.leave (v := none) (fun _ => rfl)
  refine ⟨_, _, X.returnOut hx hret hd hr, hrun, hended, hG _ _ _ ?_ ⟨⟨_, rfl⟩, hW, hsame.mono hc hs⟩⟩
  show Q _ T.heap _
  rw [eT]
  exact q
abbrev Mzz (l : Launch) (y : MethodName) (code : ByteArray) (ml : Nat) (rt : Option FieldType) (ws : List Jvm.Cond) (rm : Room) (A : Array Value) (Z : State) (h0 : Heap) (Q : Option Value → Heap → List Loc → Prop) : Prop := MetFree l y (head1 (Jvm.Cond.code y code ml rt :: ws) rm) (fun a U => a = A ∧ Z.Warmed39 U.vm ∧ U.heap = h0) (fun _ _ _ _ _ => True) (fun _ U o U' => ∃ v L, o = .returned v ∧ Q v U'.heap L ∧ FrameEnd U o U' L rm.cells rm.slots)
theorem Mzz.go {y : MethodName} {own nm : String} {code : ByteArray} {ml : Nat} {rt : Option FieldType} {ws : List Jvm.Cond} {rm : Room} {A : Array Value} {h0 : Heap} {Q : Option Value → Heap → List Loc → Prop} {L0 : Array Slot} (hp : plainFor y = true) (ho : y.cls = own) (hn : y.name = nm) (ef : ∀ m, entryFrame m A ml = mkF m 0 L0 [])
    (H : ∀ (p : Program) (e : Env) (s : State) (m : MethodId) (below : List Frame) (meth : Method) (c : Code) (s₁ : State), p.tables.exec = Jvm.exec → c.code = code → c.maxLocals = ml → s.vm.findClass own = some m.cls → meth.name = nm → Stand p l e rm s m A below meth c s₁ [] 0 0 → s₁.heap = h0 → Z.Warmed39 s.vm → meth.sig.returnType = rt → meth.locks = false → ∀ G : Outcome → State → Prop, (∀ v L U', Q v U'.heap L → FrameEnd s (.returned v) U' L rm.cells rm.slots → G (.returned v) U') → Go p.tables e below G (s₁.setTop (mkF m 0 L0 []))) : Mzz l y code ml rt ws rm A Z h0 Q := by
  refine MetFree.of_bodySF hp hisR ?_
  intro p e s m args below meth c s₁ Bd hml0 hP hK
  obtain ⟨rfl, hZ, hh⟩ := hP
  subst ho hn
  obtain ⟨s2, o, h1, h2, h3, h4⟩ := H p e s m below meth c s₁ Bd.exec Bd.bytes hml0 (findClass_of_methodNamed Bd.named) (name_of_methodNamed Bd.named Bd.method).1 (Stand.of_body Bd) (by rw [← hh, Bd.state]; rfl) hZ Bd.returns (BodyLoose.notSynchronized Bd) (fun o U' => ∃ v L, o = .returned v ∧ Q v U'.heap L ∧ FrameEnd s o U' L rm.cells rm.slots) (fun v L U' q f => ⟨v, L, rfl, q, f⟩)
  exact ⟨s2, o, castTop (ef m) h1, h2, h3, h4⟩
abbrev rk (f c s l : Nat) : Room := { frames := f, cells := c, slots := s, locals := l }
end ZZ
end Jvm.RoadKit
namespace Jvm.Pilot.@@N@@
open Jvm Jvm.ClassFile Sem Op Lib Jvm.Free Jvm.Stand Jvm.LawKit Jvm.RoadKit Bundle Jvm.Pilot.@@N@@.Jvm.D
theorem wm {Z : State} {a0 : Array Value} (hw : ∀ d ∈ tables_1, d.before a0 Z = true) (i : Nat) {d : Jvm.Cond} (h : tables_1[i]? = some d) : d.before a0 Z = true := hw d (List.mem_of_getElem? h)
abbrev yn0 : MethodName := ⟨"java/lang/Record", "<init>", "()V"⟩
abbrev yn1 : MethodName := ⟨"java/util/AbstractMap", "<init>", "()V"⟩
abbrev yn2 : MethodName := ⟨"java/util/AbstractCollection", "<init>", "()V"⟩
abbrev yn3 : MethodName := ⟨"java/util/AbstractSet", "<init>", "()V"⟩
abbrev yn4 : MethodName := ⟨"com/example/keys_in_order/keysinorder/DrainingHashes", "<init>", "()V"⟩
abbrev yn5 : MethodName := ⟨"java/lang/Double", "isFinite", "(D)Z"⟩
abbrev yn6 : MethodName := ⟨"com/example/keys_in_order/keysinorder/NackBackoff", "<init>", "(JJD)V"⟩
abbrev yn7 : MethodName := ⟨"com/example/keys_in_order/keysinorder/NackBackoff", "fixed", "(J)Lcom/example/keys_in_order/keysinorder/NackBackoff;"⟩
abbrev yn8 : MethodName := ⟨"java/lang/String", "coder", "()B"⟩
abbrev yn9 : MethodName := ⟨"java/lang/String", "isLatin1", "()Z"⟩
abbrev yn10 : MethodName := ⟨"jdk/internal/util/Preconditions", "checkIndex", "(IILjava/util/function/BiFunction;)I"⟩
abbrev yn11 : MethodName := ⟨"java/lang/String", "checkIndex", "(II)V"⟩
abbrev yn12 : MethodName := ⟨"java/lang/StringLatin1", "charAt", "([BI)C"⟩
abbrev yn13 : MethodName := ⟨"java/lang/String", "charAt", "(I)C"⟩
abbrev yn14 : MethodName := ⟨"java/lang/String", "length", "()I"⟩
abbrev yn15 : MethodName := ⟨"java/lang/String", "isEmpty", "()Z"⟩
abbrev yn16 : MethodName := ⟨"com/example/keys_in_order/keysinorder/Names", "require", "(Ljava/lang/String;Ljava/lang/String;)Ljava/lang/String;"⟩
abbrev yn17 : MethodName := ⟨"java/util/Objects", "requireNonNull", "(Ljava/lang/Object;Ljava/lang/String;)Ljava/lang/Object;"⟩
abbrev yn18 : MethodName := ⟨"com/example/keys_in_order/keysinorder/ConsumerOptions", "<init>", "(Ljava/lang/String;Lcom/example/keys_in_order/keysinorder/SubscriptionType;Lcom/example/keys_in_order/keysinorder/InitialPosition;IJLcom/example/keys_in_order/keysinorder/NackBackoff;)V"⟩
abbrev yn19 : MethodName := ⟨"com/example/keys_in_order/keysinorder/ConsumerOptions", "<init>", "(Ljava/lang/String;Lcom/example/keys_in_order/keysinorder/SubscriptionType;Lcom/example/keys_in_order/keysinorder/InitialPosition;IJ)V"⟩
abbrev yn20 : MethodName := ⟨"com/example/keys_in_order/keysinorder/ConsumerOptions", "<init>", "(Ljava/lang/String;Lcom/example/keys_in_order/keysinorder/SubscriptionType;Lcom/example/keys_in_order/keysinorder/InitialPosition;I)V"⟩
abbrev yn21 : MethodName := ⟨"com/example/keys_in_order/keysinorder/ConsumerOptions", "leaseMs", "()J"⟩
abbrev yn22 : MethodName := ⟨"java/util/concurrent/TimeUnit", "toNanos", "(J)J"⟩
abbrev yn23 : MethodName := ⟨"java/util/TreeMap", "<init>", "()V"⟩
abbrev yn24 : MethodName := ⟨"java/util/TreeSet", "<init>", "(Ljava/util/NavigableMap;)V"⟩
abbrev yn25 : MethodName := ⟨"java/util/TreeSet", "<init>", "()V"⟩
abbrev yn26 : MethodName := ⟨"com/example/keys_in_order/keysinorder/Consumer", "<init>", "(Ljava/lang/String;Lcom/example/keys_in_order/keysinorder/ConsumerOptions;Lcom/example/keys_in_order/keysinorder/Topic;Lcom/example/keys_in_order/keysinorder/Subscription;J)V"⟩
abbrev yn27 : MethodName := ⟨"java/lang/Integer", "numberOfLeadingZeros", "(I)I"⟩
abbrev yn28 : MethodName := ⟨"com/example/keys_in_order/keysinorder/DrainingHashes", "home", "(I)I"⟩
abbrev yn29 : MethodName := ⟨"com/example/keys_in_order/keysinorder/DrainingHashes", "slotOf", "(I)I"⟩
abbrev yn30 : MethodName := ⟨"com/example/keys_in_order/keysinorder/DrainingHashes", "allocate", "(I)V"⟩
abbrev yn31 : MethodName := ⟨"com/example/keys_in_order/keysinorder/DrainingHashes", "place", "(ILcom/example/keys_in_order/keysinorder/Consumer;IJJ)I"⟩
abbrev yn32 : MethodName := ⟨"com/example/keys_in_order/keysinorder/DrainingHashes", "resize", "(I)V"⟩
abbrev yn33 : MethodName := ⟨"com/example/keys_in_order/keysinorder/DrainingHashes", "move", "(II)V"⟩
abbrev yn34 : MethodName := ⟨"com/example/keys_in_order/keysinorder/DrainingHashes", "grow", "()V"⟩
abbrev yn35 : MethodName := ⟨"com/example/keys_in_order/keysinorder/DrainingHashes", "add", "(ILcom/example/keys_in_order/keysinorder/Consumer;J)V"⟩
abbrev yn36 : MethodName := ⟨"com/example/keys_in_order/keysinorder/DrainingHashes", "shrink", "()V"⟩
abbrev yn37 : MethodName := ⟨"com/example/keys_in_order/keysinorder/DrainingHashes", "remove", "(I)J"⟩
abbrev yn38 : MethodName := ⟨"com/example/keys_in_order/keysinorder/DrainingHashes", "capacity", "()I"⟩
abbrev cn0 : ByteArray := jdk_30_method_1_code
abbrev cn1 : ByteArray := jdk_71_method_1_code
abbrev cn2 : ByteArray := jdk_22_method_1_code
abbrev cn3 : ByteArray := jdk_91_method_1_code
abbrev cn4 : ByteArray := prog_8_method_1_code
abbrev cn5 : ByteArray := jdk_117_method_8_code
abbrev cn6 : ByteArray := prog_21_method_1_code
abbrev cn7 : ByteArray := prog_21_method_2_code
abbrev cn8 : ByteArray := jdk_42_method_152_code
abbrev cn9 : ByteArray := jdk_42_method_154_code
abbrev cn10 : ByteArray := jdk_41_method_11_code
abbrev cn11 : ByteArray := jdk_42_method_155_code
abbrev cn12 : ByteArray := jdk_43_method_2_code
abbrev cn13 : ByteArray := jdk_42_method_56_code
abbrev cn14 : ByteArray := jdk_42_method_54_code
abbrev cn15 : ByteArray := jdk_42_method_55_code
abbrev cn16 : ByteArray := prog_24_method_2_code
abbrev cn17 : ByteArray := jdk_31_method_11_code
abbrev cn18 : ByteArray := prog_3_method_1_code
abbrev cn19 : ByteArray := prog_3_method_2_code
abbrev cn20 : ByteArray := prog_3_method_3_code
abbrev cn21 : ByteArray := prog_3_method_11_code
abbrev cn22 : ByteArray := jdk_2799_method_7_code
abbrev cn23 : ByteArray := jdk_2729_method_1_code
abbrev cn24 : ByteArray := jdk_2756_method_1_code
abbrev cn25 : ByteArray := jdk_2756_method_2_code
abbrev cn26 : ByteArray := prog_2_method_1_code
abbrev cn27 : ByteArray := jdk_33_method_47_code
abbrev cn28 : ByteArray := prog_8_method_13_code
abbrev cn29 : ByteArray := prog_8_method_12_code
abbrev cn30 : ByteArray := prog_8_method_16_code
abbrev cn31 : ByteArray := prog_8_method_18_code
abbrev cn32 : ByteArray := prog_8_method_17_code
abbrev cn33 : ByteArray := prog_8_method_19_code
abbrev cn34 : ByteArray := prog_8_method_14_code
abbrev cn35 : ByteArray := prog_8_method_5_code
abbrev cn36 : ByteArray := prog_8_method_15_code
abbrev cn37 : ByteArray := prog_8_method_8_code
abbrev cn38 : ByteArray := prog_8_method_9_code
abbrev sn0 : String := "com/example/keys_in_order/keysinorder/Consumer"
abbrev sn1 : String := "com/example/keys_in_order/keysinorder/DrainingHashes"
abbrev sn2 : String := "[Lcom/example/keys_in_order/keysinorder/Consumer;"
abbrev sn3 : String := "java/lang/String"
abbrev sn4 : String := "com/example/keys_in_order/keysinorder/NackBackoff"
abbrev sn5 : String := "com/example/keys_in_order/keysinorder/SubscriptionType"
abbrev sn6 : String := "com/example/keys_in_order/keysinorder/InitialPosition"
abbrev sn7 : String := "com/example/keys_in_order/keysinorder/ConsumerOptions"
abbrev sn8 : String := "com/example/keys_in_order/keysinorder/Topic"
abbrev sn9 : String := "com/example/keys_in_order/keysinorder/Subscription"
abbrev sn10 : String := "COMPACT_STRINGS"
abbrev sn11 : String := "jdk/internal/util/Preconditions"
abbrev sn12 : String := "SIOOBE_FORMATTER"
abbrev sn13 : String := "Ljava/util/function/BiFunction;"
abbrev sn14 : String := "Ljava/lang/String;"
abbrev sn15 : String := "Lcom/example/keys_in_order/keysinorder/SubscriptionType;"
abbrev sn16 : String := "Lcom/example/keys_in_order/keysinorder/InitialPosition;"
abbrev sn17 : String := "Lcom/example/keys_in_order/keysinorder/NackBackoff;"
abbrev sn18 : String := "java/util/concurrent/TimeUnit"
abbrev sn19 : String := "java/util/TreeMap"
abbrev sn20 : String := "java/util/Comparator"
abbrev sn21 : String := "java/util/TreeSet"
abbrev sn22 : String := "java/util/NavigableSet"
abbrev sn23 : String := "com/example/keys_in_order/keysinorder/DrainingHashesCapacityPinLaw"
theorem own_sA {Z : State} {a0 : Array Value} (hw : ∀ d ∈ tables_1, d.before a0 Z = true) : ∀ a ∈ Bundle.stringAtoms, a.before a0 Z = true := by
  intro d hd
  simp only [Bundle.stringAtoms, List.mem_cons, List.not_mem_nil, or_false] at hd
  rcases hd with rfl | rfl | rfl | rfl | rfl | rfl | rfl
  · exact hw _ (List.mem_of_getElem? (i := 5) rfl)
  · exact hw _ (List.mem_of_getElem? (i := 6) rfl)
  · exact hw _ (List.mem_of_getElem? (i := 7) rfl)
  · exact hw _ (List.mem_of_getElem? (i := 8) rfl)
  · exact hw _ (List.mem_of_getElem? (i := 9) rfl)
  · exact hw _ (List.mem_of_getElem? (i := 10) rfl)
  · exact hw _ (List.mem_of_getElem? (i := 11) rfl)
theorem own_pig (F : List Nat) : ∀ (f : Nat → Nat), (∀ u v, u ≤ F.length → v ≤ F.length → f u = f v → u = v) → ∃ v, v ≤ F.length ∧ f v ∉ F := by
  induction F with
  | nil => intro f _; exact ⟨0, Nat.le_refl _, by simp⟩
  | cons a F ih =>
    intro f hf
    by_cases hw : ∃ w, w ≤ F.length + 1 ∧ f w = a
    · obtain ⟨w, hw1, hw2⟩ := hw
      obtain ⟨v, hv1, hv2⟩ := ih (fun u => if u < w then f u else f (u + 1)) (by
        intro u v hu hv
        simp only [List.length_cons] at hf
        by_cases h1 : u < w
        · by_cases h2 : v < w
          · simp only [h1, h2, if_true]; exact fun q => hf u v (by omega) (by omega) q
          · simp only [h1, h2, if_true, if_false]; intro q; have := hf u (v + 1) (by omega) (by omega) q; omega
        · by_cases h2 : v < w
          · simp only [h1, h2, if_true, if_false]; intro q; have := hf (u + 1) v (by omega) (by omega) q; omega
          · simp only [h1, h2, if_false]; intro q; have := hf (u + 1) (v + 1) (by omega) (by omega) q; omega)
      simp only [List.length_cons] at hf ⊢
      by_cases h1 : v < w
      · simp only [h1, if_true] at hv2
        refine ⟨v, by omega, ?_⟩
        rw [List.mem_cons]
        rintro (q | q)
        · have := hf v w (by omega) hw1 (q.trans hw2.symm); omega
        · exact hv2 q
      · simp only [h1, if_false] at hv2
        refine ⟨v + 1, by omega, ?_⟩
        rw [List.mem_cons]
        rintro (q | q)
        · have := hf (v + 1) w (by omega) hw1 (q.trans hw2.symm); omega
        · exact hv2 q
    · simp only [List.length_cons] at hf ⊢
      obtain ⟨v, hv1, hv2⟩ := ih f (fun u v hu hv q => hf u v (by omega) (by omega) q)
      refine ⟨v, by omega, ?_⟩
      rw [List.mem_cons]
      rintro (q | q)
      · exact hw ⟨v, by omega, q⟩
      · exact hv2 q
theorem own_least (Q : Nat → Prop) (n : Nat) (h : Q n) : ∃ t, t ≤ n ∧ Q t ∧ ∀ u, u < t → ¬ Q u := by
  induction n using Nat.strongRecOn with
  | _ n ih =>
    by_cases hu : ∃ u, u < n ∧ Q u
    · obtain ⟨u, h1, h2⟩ := hu
      obtain ⟨t, t1, t2, t3⟩ := ih u h1 h2
      exact ⟨t, by omega, t2, t3⟩
    · exact ⟨n, Nat.le_refl _, h, fun u h1 h2 => hu ⟨u, h1, h2⟩⟩
def Stp {α : Type} (F : Nat → Bool) (K : Nat → α) (p : Nat → Nat) (x : α) (t : Nat) : Prop := (∀ u, u < t → F (p u) = true ∧ K (p u) ≠ x) ∧ (F (p t) = false ∨ K (p t) = x)
def RepH {α : Type} (N : Nat) (P : α → Nat → Nat) (F : Nat → Bool) (K : Nat → α) (m : α → Bool) (L : List Nat) : Prop :=
  (∀ i, i < N → F i = true → i ∈ L) ∧ (∀ x, ∃ t, t < N ∧ Stp F K (P x) x t ∧ F (P x t) = m x) ∧ (∀ i, i < N → F i = true → m (K i) = true) ∧ (∀ i j, i < N → j < N → F i = true → F j = true → K i = K j → i = j)
theorem reph_nil {α : Type} (N : Nat) (P : α → Nat → Nat) (K : Nat → α) (hN : 0 < N) : RepH N P (fun _ => false) K (fun _ => false) [] :=
  ⟨fun i _ h => by simp at h, fun x => ⟨0, hN, ⟨fun u h => absurd h (Nat.not_lt_zero _), Or.inl rfl⟩, rfl⟩, fun i _ h => by simp at h, fun i j _ _ h => by simp at h⟩
theorem reph_add {α : Type} [DecidableEq α] {N : Nat} {P : α → Nat → Nat} {F : Nat → Bool} {K : Nat → α} {m : α → Bool} {L : List Nat} (h : RepH N P F K m L) (hP : ∀ x u, P x u < N) (hI : ∀ x u v, u < N → v < N → P x u = P x v → u = v) (hL : L.length + 1 < N) {x : α} {t : Nat} (hs : ∀ u, u < t → F (P x u) = true) (he : F (P x t) = false) (ht : t < N) (hm : m x = false) :
    RepH N P (upf F (P x t) true) (upf K (P x t) x) (fun y => if y = x then true else m y) (P x t :: L) := by
  obtain ⟨h1, h2, h3, h4⟩ := h
  have nk : ∀ i, i < N → F i = true → K i ≠ x := fun i hi hf q => by have := h3 i hi hf; rw [q, hm] at this; cases this
  have k1 : ∀ i, i < N → upf F (P x t) true i = true → i ∈ P x t :: L := by
    intro i hi hf
    by_cases e : i = P x t
    · rw [e]; exact List.mem_cons_self
    · rw [upf_ne _ _ _ _ e] at hf; exact List.mem_cons_of_mem _ (h1 i hi hf)
  have k3 : ∀ i, i < N → upf F (P x t) true i = true → (if upf K (P x t) x i = x then true else m (upf K (P x t) x i)) = true := by
    intro i hi hf
    by_cases e : i = P x t
    · rw [e, upf_same]; simp
    · rw [upf_ne _ _ _ _ e] at hf ⊢
      rw [h3 i hi hf]; simp
  refine ⟨k1, fun y => ?_, k3, ?_⟩
  · obtain ⟨s, s1, s2, s3⟩ := h2 y
    have far : ∀ u, u < s → P y u ≠ P x t := fun u hu q => by have := (s2.1 u hu).1; rw [q, he] at this; cases this
    by_cases hy : y = x
    · subst hy
      refine ⟨t, ht, ⟨fun u hu => ?_, Or.inr (upf_same _ _ _)⟩, by rw [upf_same]; simp⟩
      have q : P y u ≠ P y t := fun q => by have := hs u hu; rw [q, he] at this; cases this
      rw [upf_ne _ _ _ _ q, upf_ne _ _ _ _ q]
      exact ⟨hs u hu, nk _ (hP y u) (hs u hu)⟩
    · simp only [hy, if_false]
      by_cases hq : P y s = P x t
      · have my : m y = false := by rw [← s3, hq]; exact he
        obtain ⟨v, v1, v2⟩ := own_pig (P x t :: L) (P y) (fun a b ha hb => hI y a b (by simp only [List.length_cons] at ha; omega) (by simp only [List.length_cons] at hb; omega))
        simp only [List.length_cons] at v1
        have ve : upf F (P x t) true (P y v) = false := by
          cases hb : upf F (P x t) true (P y v) with
          | false => rfl
          | true => exact absurd (k1 _ (hP y v) hb) v2
        obtain ⟨w, w1, w2, w3⟩ := own_least (fun u => upf F (P x t) true (P y u) = false ∨ upf K (P x t) x (P y u) = y) v (Or.inl ve)
        refine ⟨w, by omega, ⟨fun u hu => ⟨?_, fun q => w3 u hu (Or.inr q)⟩, w2⟩, ?_⟩
        · cases hb : upf F (P x t) true (P y u) with
          | true => rfl
          | false => exact absurd (Or.inl hb) (w3 u hu)
        · rw [my]
          cases hb : upf F (P x t) true (P y w) with
          | false => rfl
          | true =>
            have z := k3 _ (hP y w) hb
            rcases w2 with w2 | w2
            · rw [hb] at w2; cases w2
            · rw [w2] at z
              simp [hy, my] at z
      · refine ⟨s, s1, ⟨fun u hu => ?_, ?_⟩, ?_⟩
        · rw [upf_ne _ _ _ _ (far u hu), upf_ne _ _ _ _ (far u hu)]
          exact s2.1 u hu
        · rw [upf_ne _ _ _ _ hq, upf_ne _ _ _ _ hq]
          exact s2.2
        · rw [upf_ne _ _ _ _ hq]
          exact s3
  · intro i j hi hj fi fj e
    by_cases ei : i = P x t
    · by_cases ej : j = P x t
      · rw [ei, ej]
      · rw [ei, upf_same, upf_ne _ _ _ _ ej] at e
        rw [upf_ne _ _ _ _ ej] at fj
        exact absurd e.symm (nk j hj fj)
    · by_cases ej : j = P x t
      · rw [ej, upf_same, upf_ne _ _ _ _ ei] at e
        rw [upf_ne _ _ _ _ ei] at fi
        exact absurd e (nk i hi fi)
      · rw [upf_ne _ _ _ _ ei, upf_ne _ _ _ _ ej] at e
        rw [upf_ne _ _ _ _ ei] at fi
        rw [upf_ne _ _ _ _ ej] at fj
        exact h4 i j hi hj fi fj e
def cntF (F : Nat → Bool) : Nat → Nat
  | 0 => 0
  | i + 1 => cntF F i + (if F i = true then 1 else 0)
theorem cnt_le (F : Nat → Bool) (i : Nat) : ∀ L : List Nat, (∀ j, j < i → F j = true → j ∈ L) → cntF F i ≤ L.length := by
  induction i with
  | zero => intro L _; exact Nat.zero_le _
  | succ i ih =>
    intro L h
    show cntF F i + (if F i = true then 1 else 0) ≤ _
    by_cases hf : F i = true
    · have hm := h i (by omega) hf
      have q := ih (L.erase i) (fun j hj hf' => (List.mem_erase_of_ne (by omega)).mpr (h j (by omega) hf'))
      rw [List.length_erase_of_mem hm] at q
      have : 0 < L.length := List.length_pos_of_mem hm
      simp only [hf, if_true]
      omega
    · have q := ih L (fun j hj hf' => h j (by omega) hf')
      simp only [hf, if_false]
      simpa using q
theorem cnt_mono (F : Nat → Bool) (i j : Nat) (h : i ≤ j) : cntF F i ≤ cntF F j := by
  induction j with
  | zero => have : i = 0 := by omega
            subst this; exact Nat.le_refl _
  | succ j ih =>
    by_cases e : i = j + 1
    · subst e; exact Nat.le_refl _
    · have := ih (by omega)
      show _ ≤ cntF F j + _
      omega
/-- what a table holds when the first i old places have been placed anew -/
def Rz {α : Type} (P : α → Nat → Nat) (F : Nat → Bool) (K : Nat → α) : Nat → (Nat → Bool) → (Nat → α) → Prop
  | 0, F', _ => F' = fun _ => false
  | i + 1, F', K' => (F i = false ∧ Rz P F K i F' K') ∨ (F i = true ∧ ∃ F2 K2 t, Rz P F K i F2 K2 ∧ (∀ u, u < t → F2 (P (K i) u) = true) ∧ F2 (P (K i) t) = false ∧ F' = upf F2 (P (K i) t) true ∧ K' = upf K2 (P (K i) t) (K i))
/-- the filled places of what Rz leaves: at most as many as the old ones -/
theorem rz_list {α : Type} {N : Nat} {P : α → Nat → Nat} {F : Nat → Bool} {K : Nat → α} (i : Nat) : ∀ F' K', Rz P F K i F' K' → ∃ L : List Nat, L.length = cntF F i ∧ ∀ j, j < N → F' j = true → j ∈ L := by
  induction i with
  | zero => intro F' K' h; exact ⟨[], rfl, fun j _ q => by rw [show F' = fun _ => false from h] at q; cases q⟩
  | succ i ih =>
    intro F' K' h
    rcases h with ⟨h1, h2⟩ | ⟨h1, F2, K2, t, h2, h3, h4, rfl, rfl⟩
    · obtain ⟨L, l1, l2⟩ := ih F' K' h2
      exact ⟨L, by show _ = cntF F i + _; simp [h1, l1], l2⟩
    · obtain ⟨L, l1, l2⟩ := ih F2 K2 h2
      refine ⟨P (K i) t :: L, by show _ = cntF F i + _; simp [h1, l1], fun j hj q => ?_⟩
      by_cases e : j = P (K i) t
      · rw [e]; exact List.mem_cons_self
      · rw [upf_ne _ _ _ _ e] at q; exact List.mem_cons_of_mem _ (l2 j hj q)
/-- an empty place is on every probe row of a table that isn't full -/
theorem row_free {N : Nat} {p : Nat → Nat} {F : Nat → Bool} {L : List Nat} (h : ∀ j, j < N → F j = true → j ∈ L) (hp : ∀ u, p u < N) (hI : ∀ u v, u < N → v < N → p u = p v → u = v) (hL : L.length < N) : ∃ t, t < N ∧ (∀ u, u < t → F (p u) = true) ∧ F (p t) = false := by
  obtain ⟨v, v1, v2⟩ := own_pig L p (fun a b ha hb => hI a b (by omega) (by omega))
  have ve : F (p v) = false := by
    cases hb : F (p v) with
    | false => rfl
    | true => exact absurd (h _ (hp v) hb) v2
  obtain ⟨t, t1, t2, t3⟩ := own_least (fun u => F (p u) = false) v ve
  refine ⟨t, by omega, fun u hu => ?_, t2⟩
  cases hb : F (p u) with
  | true => rfl
  | false => exact absurd hb (t3 u hu)
theorem rz_rep {α : Type} [DecidableEq α] {N M : Nat} {P P' : α → Nat → Nat} {F : Nat → Bool} {K : Nat → α} {m : α → Bool} {L : List Nat} (h : RepH N P F K m L) (hP : ∀ x u, P' x u < M) (hI : ∀ x u v, u < M → v < M → P' x u = P' x v → u = v) (hL : L.length < M) (hM : 0 < M) (i : Nat) (hi : i ≤ N) :
    ∀ F' K', Rz P' F K i F' K' → ∃ (m' : α → Bool) (L' : List Nat), RepH M P' F' K' m' L' ∧ L'.length = cntF F i ∧ ∀ x, m' x = true ↔ ∃ j, j < i ∧ F j = true ∧ K j = x := by
  induction i with
  | zero =>
    intro F' K' q
    have e : F' = fun _ => false := q
    subst e
    exact ⟨_, [], reph_nil M P' K' hM, rfl, fun x => by simp⟩
  | succ i ih =>
    intro F' K' q
    rcases q with ⟨q1, q2⟩ | ⟨q1, F2, K2, t, q2, q3, q4, rfl, rfl⟩
    · obtain ⟨m', L', r1, r2, r3⟩ := ih (by omega) F' K' q2
      refine ⟨m', L', r1, by show _ = cntF F i + _; simp [q1, r2], fun x => ?_⟩
      rw [r3]
      constructor
      · rintro ⟨j, a, b, c⟩; exact ⟨j, by omega, b, c⟩
      · rintro ⟨j, a, b, c⟩
        refine ⟨j, ?_, b, c⟩
        by_cases e : j = i
        · rw [e, q1] at b; cases b
        · omega
    · obtain ⟨m', L', r1, r2, r3⟩ := ih (by omega) F2 K2 q2
      have cb := cnt_le F (i + 1) L (fun j hj hf => h.1 j (by omega) hf)
      have cc : cntF F (i + 1) = cntF F i + 1 := by show cntF F i + _ = _; simp [q1]
      have ha : m' (K i) = false := by
        cases hb : m' (K i) with
        | false => rfl
        | true =>
          obtain ⟨j, a, b, c⟩ := (r3 _).mp hb
          have := h.2.2.2 j i (by omega) (by omega) b q1 c
          omega
      have ht : t < M := by
        obtain ⟨v, v1, v2, v3⟩ := row_free (p := P' (K i)) r1.1 (hP _) (hI _) (by omega)
        by_cases e : t ≤ v
        · omega
        · have := q3 v (by omega)
          rw [v3] at this
          cases this
      refine ⟨_, _, reph_add r1 hP hI (by omega) q3 q4 ht ha, by simp [r2, cc], fun x => ?_⟩
      by_cases e : x = K i
      · subst e
        simp only [if_true, true_iff]
        exact ⟨i, by omega, q1, rfl⟩
      · simp only [e, if_false]
        rw [r3]
        constructor
        · rintro ⟨j, a, b, c⟩; exact ⟨j, by omega, b, c⟩
        · rintro ⟨j, a, b, c⟩
          refine ⟨j, ?_, b, c⟩
          by_cases ej : j = i
          · rw [ej] at c; exact absurd c.symm e
          · omega
def own_i : Nat → Int32
  | 0 => 0
  | u + 1 => own_i u + (1 : Int32)
theorem own_iv (u : Nat) (h : u < 1000) : (own_i u).toInt = u := by
  induction u with
  | zero => rfl
  | succ u ih =>
    have q := ih (by omega)
    have a := c_iadd (own_i u) 1
    have r := rng32 (own_i u + 1)
    have e1 : (1 : Int32).toInt = 1 := by decide
    show (own_i u + 1).toInt = _
    omega
theorem own_in (u : Nat) (h : u < 1000) : (own_i u).toNatClampNeg = u := by
  have q := own_iv u h
  simp only [Int32.toNatClampNeg]
  omega
def own_it (h M : Int32) : Nat → Int32
  | 0 => h
  | u + 1 => (own_it h M u + (1 : Int32)) &&& M
theorem own_nn {i : Int32} (h : 0 ≤ i.toInt) : ¬ (i < (0 : Int32)) := by
  rw [Int32.lt_iff_toInt_lt]
  have e : (0 : Int32).toInt = 0 := rfl
  omega
def mkh (hd : Addr) (b : Bool) : Value := match b with
  | true => .ref hd
  | false => .null
theorem mkh_ref (hd : Addr) (b : Bool) : (mkh hd b).isRef = true := by cases b <;> rfl
theorem mkh_t {hd : Addr} {b : Bool} (h : b = true) : mkh hd b = .ref hd := by rw [h]; rfl
theorem mkh_f {hd : Addr} {b : Bool} (h : b = false) : mkh hd b = .null := by rw [h]; rfl
def Ho (Z : State) (h : Heap) (a : Addr) (n : Nat) (hd : Addr) (F : Nat → Bool) : Prop := ∃ c : Cell, Arr Z h a c (.object sn0) ∧ c.slots.size = n ∧ (n < 2147483648 ∧ Ovr Z c.cls sn0) ∧ ∀ j, j < n → c.slots[j]? = some (mkh hd (F j))
section HoS
variable {Z : State} {h h' : Heap} {a b hd : Addr} {n sl : Nat} {F : Nat → Bool} {v : Value} {ws : List Addr}
theorem Ho.lt (H : Ho Z h a n hd F) : a < h.size := by obtain ⟨c, A, -⟩ := H; exact A.lt
theorem Ho.ext (H : Ho Z h a n hd F) (E : Ext h h') : Ho Z h' a n hd F := by obtain ⟨c, A, r⟩ := H; exact ⟨c, A.ext E, r⟩
theorem Ho.other (H : Ho Z h b n hd F) (W : Wr h h' a sl v) (q : b ≠ a) : Ho Z h' b n hd F := by obtain ⟨c, A, r⟩ := H; exact ⟨c, A.other W q, r⟩
theorem Ho.keep (H : Ho Z h a n hd F) (K : Keep h h' ws) (q : a ∉ ws) : Ho Z h' a n hd F := by obtain ⟨c, A, r⟩ := H; exact ⟨c, ⟨K.2.1 a c A.1 q, A.2⟩, r⟩
theorem Ho.new {k : ClassId} {z : Int32} (A : Arr Z h a (newA k (.object sn0) z) (.object sn0)) (O : Ovr Z k sn0) (hz : z.toNatClampNeg = n) (hn : n < 2147483648) : Ho Z h a n hd (fun _ => false) := by
  refine ⟨_, A, by rw [sz_new, hz], ⟨hn, O⟩, fun j hj => ?_⟩
  simp [newA, hz, hj, mkh, defaultValue]
theorem Ho.set {x : Bool} {j : Int32} {i : Nat} (H : Ho Z h a n hd F) (W : Wr h h' a j.toNatClampNeg (mkh hd x)) (hj : j.toNatClampNeg = i) : Ho Z h' a n hd (upf F i x) := by
  obtain ⟨c, A, s1, ⟨s2, s4⟩, s3⟩ := H
  refine ⟨_, A.same W, by simpa [Cell.setSlot] using s1, ⟨s2, s4⟩, fun k hk => ?_⟩
  subst hj
  have q := s3 k hk
  simp only [Cell.setSlot, upf]
  by_cases e : k = j.toNatClampNeg
  · subst e
    rw [Array.getElem?_setIfInBounds_self]
    simp [s1, hk]
  · rw [Array.getElem?_setIfInBounds_ne (by omega), q]
    simp [e]
theorem zaal {p : Program} {l : Launch} {e : Env} {R : Room} {s : State} {m : MethodId} {args : Array Value} {below : List Frame} {meth : Method} {c : Code} {T : State} {locs : List Loc} {cells slots : Nat} {G : Outcome → State → Prop} {pc : Nat} {Ls : Array Slot} {rest : List Value} (X : Stand p l e R s m args below meth c T locs cells slots) (hx : p.tables.exec = Jvm.exec) (hZ : Z.Warmed39 s.vm) (eT : T.heap = h) (H : Ho Z h a n hd F) {j : Int32} (ib : 0 ≤ j.toInt ∧ j.toInt < (n : Int)) (hdd : decode c.code pc = .ok (.aaload, 1)) (g : Go p.tables e below G (T.setTop (mkF m (pc + 1) Ls (mkh hd (F j.toNatClampNeg) :: rest)))) : Go p.tables e below G (T.setTop (mkF m pc Ls (.int j :: .ref a :: rest))) := by
  obtain ⟨cl, Ar, Sz, -, Hs⟩ := id H
  exact Go.stp (fun t q => X.aaload hx (by rw [eT]; exact Ar.1) (State.isArrayOf_alike hZ.alike Ar.2.1) rfl Ar.2.2 (in_of Sz ib) (Hs _ (at_of ib)) (g := mkF m pc Ls (.int j :: .ref a :: rest)) rfl rfl hdd t q) g
theorem zaas {b : Bool} {p : Program} {l : Launch} {e : Env} {R : Room} {s : State} {m : MethodId} {args : Array Value} {below : List Frame} {meth : Method} {c : Code} {T : State} {locs : List Loc} {cells slots : Nat} {G : Outcome → State → Prop} {pc : Nat} {Ls : Array Slot} {rest : List Value} (X : Stand p l e R s m args below meth c T locs cells slots) (hx : p.tables.exec = Jvm.exec) (hZ : Z.Warmed39 s.vm) (eT : T.heap = h) (H : Ho Z h a n hd F) (E : Exa Z h hd sn0) {j : Int32} (ib : 0 ≤ j.toInt ∧ j.toInt < (n : Int)) (hdd : decode c.code pc = .ok (.aastore, 1)) (k : ∀ T' h', Stand p l e R s m args below meth c T' (locs ++ [⟨a, j.toNatClampNeg⟩]) cells slots → T'.heap = h' → Wr h h' a j.toNatClampNeg (mkh hd b) → Ho Z h' a n hd (upf F j.toNatClampNeg b) → Go p.tables e below G (T'.setTop (mkF m (pc + 1) Ls rest))) : Go p.tables e below G (T.setTop (mkF m pc Ls (mkh hd b :: .int j :: .ref a :: rest))) := by
  obtain ⟨cl, Ar, Sz, ⟨-, Ov⟩, -⟩ := id H
  obtain ⟨T', h', X', e', W, st⟩ := stR X hx hZ eT Ar (j := j) (v := mkh hd b) (in_of Sz ib) rfl (by cases b with
    | true => exact Sto.of Ar Ov (Ins.self E)
    | false => exact Or.inl rfl) (g := mkF m pc Ls (mkh hd b :: .int j :: .ref a :: rest)) rfl rfl hdd
  exact Go.stp (fun t q => st t q) (k T' h' X' e' W (Ho.set H W rfl))
end HoS
theorem keep_app {h h1 h2 : Heap} {ws ws' : List Addr} (K : Keep h h1 ws) (K' : Keep h1 h2 ws') : Keep h h2 (ws ++ ws') := by
  have K1 : Keep h h1 (ws ++ ws') := ⟨K.1, fun x c q r => K.2.1 x c q (fun z => r (List.mem_append_left _ z)), K.2.2⟩
  exact K1.trans K' (fun x q => Or.inl (List.mem_append_right _ q))
theorem own_is {n : Nat} (h1 : 1 ≤ n) : own_i n - (1 : Int32) = own_i (n - 1) := by
  obtain ⟨k, rfl⟩ : ∃ k, n = k + 1 := ⟨n - 1, by omega⟩
  show own_i k + 1 - 1 = own_i (k + 1 - 1)
  rw [Int32.add_sub_cancel]
  rfl
theorem own_m0 {n : Nat} (h : own_i n = (0 : Int32)) (h2 : n ≤ 5) : n = 0 := by
  rcases (by omega : n = 0 ∨ n = 1 ∨ n = 2 ∨ n = 3 ∨ n = 4 ∨ n = 5) with rfl | rfl | rfl | rfl | rfl | rfl <;> first | rfl | (revert h; decide)
def Gs (n0 r0 ah ao au ab ar : Nat) : Prop := n0 ≤ r0 ∧ n0 ≤ ah ∧ n0 ≤ ao ∧ n0 ≤ au ∧ n0 ≤ ab ∧ n0 ≤ ar
def Ap (r0 ah ao au ab ar : Addr) : Prop := r0 ≠ ah ∧ r0 ≠ ao ∧ r0 ≠ au ∧ r0 ≠ ab ∧ r0 ≠ ar ∧ ah ≠ ao ∧ ah ≠ au ∧ ah ≠ ab ∧ ah ≠ ar ∧ ao ≠ au ∧ ao ≠ ab ∧ ao ≠ ar ∧ au ≠ ab ∧ au ≠ ar ∧ ab ≠ ar
/-- the table at r0 stands: its object, its five arrays of N places -/
def Tb (Z : State) (h : Heap) (n0 : Nat) (r0 hd : Addr) (N : Nat) (F : Nat → Bool) (K : Nat → Int32) (sz : Int32) (ah ao au ab ar : Addr) : Prop :=
  Exa Z h r0 sn1 ∧ Exa Z h hd sn0 ∧ Fld Z h r0 sn1 "hashes" "[I" (.ref ah) ∧ Fld Z h r0 sn1 "holders" sn2 (.ref ao) ∧ Fld Z h r0 sn1 "unacked" "[I" (.ref au) ∧ Fld Z h r0 sn1 "blocked" "[J" (.ref ab) ∧ Fld Z h r0 sn1 "resumes" "[J" (.ref ar) ∧ Fld Z h r0 sn1 "size" "I" (.int sz) ∧
  Ia Z h ah .int N Value.int K ∧ Ho Z h ao N hd F ∧ (∃ f : Nat → Int32, Ia Z h au .int N Value.int f) ∧ (∃ f : Nat → Int64, Ia Z h ab .long N Value.long f) ∧ (∃ f : Nat → Int64, Ia Z h ar .long N Value.long f) ∧ Gs n0 r0 ah ao au ab ar ∧ Ap r0 ah ao au ab ar
def ins (m : Int32 → Bool) (x : Int32) : Int32 → Bool := fun y => if y = x then true else m y
theorem ins_same {m : Int32 → Bool} {x : Int32} (h : m x = true) : ins m x = m := by
  funext y
  unfold ins
  by_cases e : y = x
  · rw [if_pos e, e, h]
  · rw [if_neg e]
def T0 (Z : State) (h : Heap) (n0 : Nat) (r0 : Addr) : Prop := Exa Z h r0 sn1 ∧ Fld Z h r0 sn1 "hashes" "[I" .null ∧ Fld Z h r0 sn1 "holders" sn2 .null ∧ Fld Z h r0 sn1 "unacked" "[I" .null ∧ Fld Z h r0 sn1 "blocked" "[J" .null ∧ Fld Z h r0 sn1 "resumes" "[J" .null ∧ Fld Z h r0 sn1 "size" "I" (.int (0 : Int32)) ∧ n0 ≤ r0
def TN (N : Nat) (P : Int32 → Nat → Nat) (Z : State) (h : Heap) (n0 : Nat) (r0 hd : Addr) (m : Int32 → Bool) (n : Nat) : Prop := ∃ (F : Nat → Bool) (K : Nat → Int32) (Ls : List Nat) (ah ao au ab ar : Addr), RepH N P F K m Ls ∧ Ls.length ≤ n ∧ Tb Z h n0 r0 hd N F K (own_i n) ah ao au ab ar
def own_hm4 (x : Int32) : Int32 := (((x * (-1640531527 : Int32)).toUInt32 >>> ((30 : Int32) &&& 31).toUInt32).toInt32)
theorem own_hb4 (x : Int32) : 0 ≤ (own_hm4 x).toInt ∧ (own_hm4 x).toInt < 4 := by
  have h := c_iushr (x * (-1640531527 : Int32)) 30 30 (by decide) (by decide)
  unfold own_hm4
  omega
theorem own_tv4 (h : Int32) (hb : 0 ≤ h.toInt ∧ h.toInt < 4) (u : Nat) : (own_it h ((4 : Int32) - (1 : Int32)) u).toInt = (h.toInt + u) % 4 := by
  have e1 : (1 : Int32).toInt = 1 := by decide
  have eM : ((4 : Int32) - (1 : Int32)) = (3 : Int32) := by decide
  rw [eM]
  induction u with
  | zero => show h.toInt = _; omega
  | succ u ih =>
    have a := c_mask (own_it h (3 : Int32) u + (1 : Int32)) 3 2 (by decide) (by decide)
    have b := c_iadd (own_it h (3 : Int32) u) 1
    show ((own_it h (3 : Int32) u + (1 : Int32)) &&& (3 : Int32)).toInt = _
    omega
theorem own_rb4 (h : Int32) (hb : 0 ≤ h.toInt ∧ h.toInt < 4) (u : Nat) : 0 ≤ (own_it h ((4 : Int32) - (1 : Int32)) u).toInt ∧ (own_it h ((4 : Int32) - (1 : Int32)) u).toInt < ((4 : Nat) : Int) := by
  rw [own_tv4 _ hb]
  omega
theorem own_tb4 (x : Int32) (u : Nat) : 0 ≤ (own_it (own_hm4 x) ((4 : Int32) - (1 : Int32)) u).toInt ∧ (own_it (own_hm4 x) ((4 : Int32) - (1 : Int32)) u).toInt < ((4 : Nat) : Int) := own_rb4 _ (own_hb4 x) u
def own_P4 (x : Int32) (u : Nat) : Nat := (own_it (own_hm4 x) ((4 : Int32) - (1 : Int32)) u).toNatClampNeg
theorem own_Pl4 (x : Int32) (u : Nat) : own_P4 x u < 4 := at_of (own_tb4 x u)
theorem own_Pi4 (x : Int32) (u v : Nat) (hu : u < 4) (hv : v < 4) (q : own_P4 x u = own_P4 x v) : u = v := by
  have a := own_tv4 _ (own_hb4 x) u
  have b := own_tv4 _ (own_hb4 x) v
  have c := own_hb4 x
  unfold own_P4 at q
  simp only [Int32.toNatClampNeg] at q
  omega
def own_S4 (h : Int32) (u : Nat) : Nat := (own_it h ((4 : Int32) - (1 : Int32)) (u + 1)).toNatClampNeg
theorem own_Sl4 (h : Int32) (hb : 0 ≤ h.toInt ∧ h.toInt < 4) (u : Nat) : own_S4 h u < 4 := at_of (own_rb4 h hb (u + 1))
theorem own_Si4 (h : Int32) (hb : 0 ≤ h.toInt ∧ h.toInt < 4) (u v : Nat) (hu : u < 4) (hv : v < 4) (q : own_S4 h u = own_S4 h v) : u = v := by
  have a := own_tv4 h hb (u + 1)
  have b := own_tv4 h hb (v + 1)
  unfold own_S4 at q
  simp only [Int32.toNatClampNeg] at q
  omega
def own_hm8 (x : Int32) : Int32 := (((x * (-1640531527 : Int32)).toUInt32 >>> ((29 : Int32) &&& 31).toUInt32).toInt32)
theorem own_hb8 (x : Int32) : 0 ≤ (own_hm8 x).toInt ∧ (own_hm8 x).toInt < 8 := by
  have h := c_iushr (x * (-1640531527 : Int32)) 29 29 (by decide) (by decide)
  unfold own_hm8
  omega
theorem own_tv8 (h : Int32) (hb : 0 ≤ h.toInt ∧ h.toInt < 8) (u : Nat) : (own_it h ((8 : Int32) - (1 : Int32)) u).toInt = (h.toInt + u) % 8 := by
  have e1 : (1 : Int32).toInt = 1 := by decide
  have eM : ((8 : Int32) - (1 : Int32)) = (7 : Int32) := by decide
  rw [eM]
  induction u with
  | zero => show h.toInt = _; omega
  | succ u ih =>
    have a := c_mask (own_it h (7 : Int32) u + (1 : Int32)) 7 3 (by decide) (by decide)
    have b := c_iadd (own_it h (7 : Int32) u) 1
    show ((own_it h (7 : Int32) u + (1 : Int32)) &&& (7 : Int32)).toInt = _
    omega
theorem own_rb8 (h : Int32) (hb : 0 ≤ h.toInt ∧ h.toInt < 8) (u : Nat) : 0 ≤ (own_it h ((8 : Int32) - (1 : Int32)) u).toInt ∧ (own_it h ((8 : Int32) - (1 : Int32)) u).toInt < ((8 : Nat) : Int) := by
  rw [own_tv8 _ hb]
  omega
theorem own_tb8 (x : Int32) (u : Nat) : 0 ≤ (own_it (own_hm8 x) ((8 : Int32) - (1 : Int32)) u).toInt ∧ (own_it (own_hm8 x) ((8 : Int32) - (1 : Int32)) u).toInt < ((8 : Nat) : Int) := own_rb8 _ (own_hb8 x) u
def own_P8 (x : Int32) (u : Nat) : Nat := (own_it (own_hm8 x) ((8 : Int32) - (1 : Int32)) u).toNatClampNeg
theorem own_Pl8 (x : Int32) (u : Nat) : own_P8 x u < 8 := at_of (own_tb8 x u)
theorem own_Pi8 (x : Int32) (u v : Nat) (hu : u < 8) (hv : v < 8) (q : own_P8 x u = own_P8 x v) : u = v := by
  have a := own_tv8 _ (own_hb8 x) u
  have b := own_tv8 _ (own_hb8 x) v
  have c := own_hb8 x
  unfold own_P8 at q
  simp only [Int32.toNatClampNeg] at q
  omega
def own_S8 (h : Int32) (u : Nat) : Nat := (own_it h ((8 : Int32) - (1 : Int32)) (u + 1)).toNatClampNeg
theorem own_Sl8 (h : Int32) (hb : 0 ≤ h.toInt ∧ h.toInt < 8) (u : Nat) : own_S8 h u < 8 := at_of (own_rb8 h hb (u + 1))
theorem own_Si8 (h : Int32) (hb : 0 ≤ h.toInt ∧ h.toInt < 8) (u v : Nat) (hu : u < 8) (hv : v < 8) (q : own_S8 h u = own_S8 h v) : u = v := by
  have a := own_tv8 h hb (u + 1)
  have b := own_tv8 h hb (v + 1)
  unfold own_S8 at q
  simp only [Int32.toNatClampNeg] at q
  omega
def Tab (Z : State) (h : Heap) (n0 : Nat) (r0 hd : Addr) (m : Int32 → Bool) (n : Nat) : Prop := (n = 0 ∧ T0 Z h n0 r0 ∧ m = fun _ => false) ∨ (1 ≤ n ∧ n ≤ 3 ∧ TN 4 own_P4 Z h n0 r0 hd m n) ∨ (4 ≤ n ∧ n ≤ 5 ∧ TN 8 own_P8 Z h n0 r0 hd m n)
def Cap (Z : State) (h : Heap) (r0 : Addr) (n : Nat) : Prop := Exa Z h r0 sn1 ∧ ((n = 0 ∧ Fld Z h r0 sn1 "holders" sn2 .null) ∨ (1 ≤ n ∧ n ≤ 3 ∧ ∃ (ao hd : Addr) (F : Nat → Bool), Fld Z h r0 sn1 "holders" sn2 (.ref ao) ∧ Ho Z h ao 4 hd F) ∨ (4 ≤ n ∧ n ≤ 5 ∧ ∃ (ao hd : Addr) (F : Nat → Bool), Fld Z h r0 sn1 "holders" sn2 (.ref ao) ∧ Ho Z h ao 8 hd F))
theorem Tab.cap {Z : State} {h : Heap} {n0 : Nat} {r0 hd : Addr} {m : Int32 → Bool} {n : Nat} (T : Tab Z h n0 r0 hd m n) : Cap Z h r0 n := by
  rcases T with ⟨h1, T, -⟩ | ⟨h1, h2, F, K, Ls, ah, ao, au, ab, ar, -, -, T⟩ | ⟨h1, h2, F, K, Ls, ah, ao, au, ab, ar, -, -, T⟩
  · exact ⟨T.1, Or.inl ⟨h1, T.2.2.1⟩⟩
  · obtain ⟨a1, a2, a3, a4, a5, a6, a7, a8, a9, a10, -⟩ := T
    exact ⟨a1, Or.inr (Or.inl ⟨h1, h2, ao, hd, F, a4, a10⟩)⟩
  · obtain ⟨a1, a2, a3, a4, a5, a6, a7, a8, a9, a10, -⟩ := T
    exact ⟨a1, Or.inr (Or.inr ⟨h1, h2, ao, hd, F, a4, a10⟩)⟩
def own_cap (n : Nat) : Int32 := if n = 0 then 0 else if n ≤ 3 then 4 else 8
theorem rz_step {P : Int32 → Nat → Nat} {F F' : Nat → Bool} {K K' : Nat → Int32} {u i t : Nat} (e : i = u) (rz : Rz P F K u F' K') (hF : F i = true) (h1 : ∀ w, w < t → F' (P (K i) w) = true) (h2 : F' (P (K i) t) = false) : Rz P F K (u + 1) (upf F' (P (K i) t) true) (upf K' (P (K i) t) (K i)) := by
  subst e
  exact Or.inr ⟨hF, F', K', t, rz, h1, h2, rfl, rfl⟩
theorem rz_skip {P : Int32 → Nat → Nat} {F F' : Nat → Bool} {K K' : Nat → Int32} {u i : Nat} (e : i = u) (rz : Rz P F K u F' K') (hF : ¬ (F i = true)) : Rz P F K (u + 1) F' K' := by
  subst e
  exact Or.inl ⟨by simpa using hF, rz⟩
theorem rz_full {N M : Nat} {P P' : Int32 → Nat → Nat} {F : Nat → Bool} {K : Nat → Int32} {m : Int32 → Bool} {L : List Nat} (h : RepH N P F K m L) (hPN : ∀ x u, P x u < N) (hP : ∀ x u, P' x u < M) (hI : ∀ x u v, u < M → v < M → P' x u = P' x v → u = v) (hL : L.length < M) (hM : 0 < M) {F' : Nat → Bool} {K' : Nat → Int32} (rz : Rz P' F K N F' K') : ∃ L' : List Nat, RepH M P' F' K' m L' ∧ L'.length ≤ L.length := by
  obtain ⟨m', L', r1, r2, r3⟩ := rz_rep h hP hI hL hM N (Nat.le_refl _) F' K' rz
  have e : m' = m := by
    funext x
    have q := r3 x
    cases hb : m x with
    | true =>
      obtain ⟨t, t1, t2, t3⟩ := h.2.1 x
      rw [hb] at t3
      rcases t2.2 with z | z
      · rw [t3] at z; cases z
      · exact q.mpr ⟨P x t, hPN x t, t3, z⟩
    | false =>
      cases hc : m' x with
      | false => rfl
      | true =>
        obtain ⟨j, j1, j2, j3⟩ := q.mp hc
        have z := h.2.2.1 j j1 j2
        rw [j3, hb] at z
        cases z
  rw [e] at r1
  exact ⟨L', r1, by rw [r2]; exact cnt_le F N L h.1⟩
theorem era_list {N : Nat} {F : Nat → Bool} {L : List Nat} {g : Nat} (h : ∀ j, j < N → F j = true → j ∈ L) (hg : g < N) (hF : F g = true) : cntF (upf F g false) N + 1 ≤ L.length := by
  have hm := h g hg hF
  have q := cnt_le (upf F g false) N (L.erase g) (fun j hj hf => by
    by_cases e : j = g
    · rw [e, upf_same] at hf; cases hf
    · rw [upf_ne _ _ _ _ e] at hf; exact (List.mem_erase_of_ne e).mpr (h j hj hf))
  rw [List.length_erase_of_mem hm] at q
  have : 0 < L.length := List.length_pos_of_mem hm
  omega
theorem upf_true {F : Nat → Bool} {g : Nat} (h : F g = true) : upf F g true = F := by
  funext j
  by_cases e : j = g
  · rw [e, upf_same, h]
  · rw [upf_ne _ _ _ _ e]
theorem own_rem (x m : Int32) (k : Int) (hm : m.toInt = k) (hk : 0 < k) : 0 ≤ ((x &&& (2147483647 : Int32)) - ((x &&& (2147483647 : Int32)) / m) * m).toInt ∧ ((x &&& (2147483647 : Int32)) - ((x &&& (2147483647 : Int32)) / m) * m).toInt < k := by
  rw [irem_eq_mod]
  have h1 := c_mask x 2147483647 31 (by decide) (by decide)
  have h2 := (c_irem (x &&& (2147483647 : Int32)) m k hm).1 (by omega)
  rw [h2]
  exact ⟨Int.emod_nonneg _ (by omega), Int.emod_lt_of_pos _ hk⟩
theorem own_d6 (x : Int32) (h0 : 0 ≤ x.toInt) (h : x.toInt < 6) : x = (0 : Int32) ∨ x = (1 : Int32) ∨ x = (2 : Int32) ∨ x = (3 : Int32) ∨ x = (4 : Int32) ∨ x = (5 : Int32) := by
  have e0 : (0 : Int32).toInt = 0 := by decide
  have e1 : (1 : Int32).toInt = 1 := by decide
  have e2 : (2 : Int32).toInt = 2 := by decide
  have e3 : (3 : Int32).toInt = 3 := by decide
  have e4 : (4 : Int32).toInt = 4 := by decide
  have e5 : (5 : Int32).toInt = 5 := by decide
  simp only [← Int32.toInt_inj]
  omega
theorem own_eqi {A : Term} {args : Array Value} {s : State} {k : Int32} (h : (Jvm.Cond.eq A (Term.int k)).value args s none s [] = some true) : A.eval args s none [] s = some (.int k) := by
  cases hf : A.eval args s none [] s with
  | none => simp [Jvm.Cond.value, hf] at h
  | some v => cases v <;> simp [Jvm.Cond.value, hf, Term.eval] at h ⊢ <;> exact h
theorem own_eqj {A : Term} {args : Array Value} {s : State} {k : Int64} (h : (Jvm.Cond.eq A (Term.long k)).value args s none s [] = some true) : A.eval args s none [] s = some (.long k) := by
  cases hf : A.eval args s none [] s with
  | none => simp [Jvm.Cond.value, hf] at h
  | some v => cases v <;> simp [Jvm.Cond.value, hf, Term.eval] at h ⊢ <;> exact h
theorem own_nz0 {t : Term} {args : Array Value} {s : State} {k : Int32} (ev : t.eval args s none [] s = some (.int k)) (h : (Jvm.Cond.not (Jvm.Cond.eq t (Term.int (0 : Int32)))).value args s none s [] = some true) : ¬ k = (0 : Int32) := fun q => by
  subst q
  simp [Jvm.Cond.value, ev, Term.eval] at h
theorem ia_c {Z : State} {h : Heap} {b : Addr} {k : ClassId} (A : Arv Z h b k .byte 1 [.int 99] (.int 0)) : Ia Z h b .byte 1 Value.int (fun _ => (99 : Int32)) := by
  obtain ⟨c, A, q1, q2, q3, H, G⟩ := A
  have e : c.slots.size = 1 := by rw [q2]; rfl
  refine ⟨c, A, e, by decide, fun j hj => ?_⟩
  obtain rfl : j = 0 := by omega
  have q := H 0 (by omega)
  simpa using q
theorem own_ine {n : Nat} (h1 : 1 ≤ n) (h2 : n ≤ 5) : ¬ (own_i n = (0 : Int32)) := by
  rcases (by omega : n = 1 ∨ n = 2 ∨ n = 3 ∨ n = 4 ∨ n = 5) with rfl | rfl | rfl | rfl | rfl <;> decide
theorem own_c8 {n : Nat} (h : (3 : Int32) < own_i n) (h1 : 1 ≤ n) (h2 : n ≤ 5) : (8 : Int32) = own_cap n := by
  rcases (by omega : n = 1 ∨ n = 2 ∨ n = 3 ∨ n = 4 ∨ n = 5) with rfl | rfl | rfl | rfl | rfl <;> revert h <;> decide
theorem own_c4 {n : Nat} (h : ¬ ((3 : Int32) < own_i n)) (h1 : 1 ≤ n) (h2 : n ≤ 5) : (4 : Int32) = own_cap n := by
  rcases (by omega : n = 1 ∨ n = 2 ∨ n = 3 ∨ n = 4 ∨ n = 5) with rfl | rfl | rfl | rfl | rfl <;> revert h <;> decide
theorem own_r0 {n : Nat} (h : (own_i n - (1 : Int32)) = (0 : Int32)) (h1 : 1 ≤ n) (h2 : n ≤ 5) : (0 : Int32) = own_cap (n - 1) := by
  rcases (by omega : n = 1 ∨ n = 2 ∨ n = 3 ∨ n = 4 ∨ n = 5) with rfl | rfl | rfl | rfl | rfl <;> revert h <;> decide
theorem own_r4 {n : Nat} (h : ¬ ((own_i n - (1 : Int32)) = (0 : Int32))) (h' : (own_i n - (1 : Int32)) < (4 : Int32)) (h1 : 1 ≤ n) (h2 : n ≤ 5) : (4 : Int32) = own_cap (n - 1) := by
  rcases (by omega : n = 1 ∨ n = 2 ∨ n = 3 ∨ n = 4 ∨ n = 5) with rfl | rfl | rfl | rfl | rfl <;> revert h h' <;> decide
theorem own_r8 {n : Nat} (h : ¬ ((own_i n - (1 : Int32)) < (4 : Int32))) (h1 : 1 ≤ n) (h2 : n ≤ 5) : (8 : Int32) = own_cap (n - 1) := by
  rcases (by omega : n = 1 ∨ n = 2 ∨ n = 3 ∨ n = 4 ∨ n = 5) with rfl | rfl | rfl | rfl | rfl <;> revert h <;> decide
theorem pd_0 : parseMethodDescriptor "()V" = some ⟨[], none⟩ := by decide +kernel
theorem pd_1 : parseMethodDescriptor "(D)D" = some ⟨[.double], some .double⟩ := by decide +kernel
theorem pd_2 : parseMethodDescriptor "(D)Z" = some ⟨[.double], some .boolean⟩ := by decide +kernel
theorem pd_3 : parseMethodDescriptor "(JJD)V" = some ⟨[.long, .long, .double], none⟩ := by decide +kernel
theorem pd_4 : parseMethodDescriptor "(IILjava/util/function/BiFunction;)I" = some ⟨[.int, .int, (.object "java/util/function/BiFunction")], some .int⟩ := by decide +kernel
theorem pd_5 : parseMethodDescriptor "(II)V" = some ⟨[.int, .int], none⟩ := by decide +kernel
theorem pd_6 : parseMethodDescriptor "()Z" = some ⟨[], some .boolean⟩ := by decide +kernel
theorem pd_7 : parseMethodDescriptor "([BI)C" = some ⟨[(.array .byte), .int], some .char⟩ := by decide +kernel
theorem pd_8 : parseMethodDescriptor "()B" = some ⟨[], some .byte⟩ := by decide +kernel
theorem pd_9 : parseMethodDescriptor "()I" = some ⟨[], some .int⟩ := by decide +kernel
theorem pd_10 : parseMethodDescriptor "(I)C" = some ⟨[.int], some .char⟩ := by decide +kernel
theorem pd_11 : parseMethodDescriptor "(Ljava/lang/String;Ljava/lang/String;)Ljava/lang/String;" = some ⟨[(.object sn3), (.object sn3)], some (.object sn3)⟩ := by decide +kernel
theorem pd_12 : parseMethodDescriptor "(Ljava/lang/Object;Ljava/lang/String;)Ljava/lang/Object;" = some ⟨[(.object "java/lang/Object"), (.object sn3)], some (.object "java/lang/Object")⟩ := by decide +kernel
theorem pd_13 : parseMethodDescriptor "(J)Lcom/example/keys_in_order/keysinorder/NackBackoff;" = some ⟨[.long], some (.object sn4)⟩ := by decide +kernel
theorem pd_14 : parseMethodDescriptor "(Ljava/lang/String;Lcom/example/keys_in_order/keysinorder/SubscriptionType;Lcom/example/keys_in_order/keysinorder/InitialPosition;IJLcom/example/keys_in_order/keysinorder/NackBackoff;)V" = some ⟨[(.object sn3), (.object sn5), (.object sn6), .int, .long, (.object sn4)], none⟩ := by decide +kernel
theorem pd_15 : parseMethodDescriptor "(Ljava/lang/String;Lcom/example/keys_in_order/keysinorder/SubscriptionType;Lcom/example/keys_in_order/keysinorder/InitialPosition;IJ)V" = some ⟨[(.object sn3), (.object sn5), (.object sn6), .int, .long], none⟩ := by decide +kernel
theorem pd_16 : parseMethodDescriptor "(Ljava/util/NavigableMap;)V" = some ⟨[(.object "java/util/NavigableMap")], none⟩ := by decide +kernel
theorem pd_17 : parseMethodDescriptor "()J" = some ⟨[], some .long⟩ := by decide +kernel
theorem pd_18 : parseMethodDescriptor "(J)J" = some ⟨[.long], some .long⟩ := by decide +kernel
theorem pd_19 : parseMethodDescriptor "(I)I" = some ⟨[.int], some .int⟩ := by decide +kernel
theorem pd_20 : parseMethodDescriptor "(I)V" = some ⟨[.int], none⟩ := by decide +kernel
theorem pd_21 : parseMethodDescriptor "(ILcom/example/keys_in_order/keysinorder/Consumer;IJJ)I" = some ⟨[.int, (.object sn0), .int, .long, .long], some .int⟩ := by decide +kernel
theorem pd_22 : parseMethodDescriptor "(Ljava/lang/String;Lcom/example/keys_in_order/keysinorder/SubscriptionType;Lcom/example/keys_in_order/keysinorder/InitialPosition;I)V" = some ⟨[(.object sn3), (.object sn5), (.object sn6), .int], none⟩ := by decide +kernel
theorem pd_23 : parseMethodDescriptor "(Ljava/lang/String;Lcom/example/keys_in_order/keysinorder/ConsumerOptions;Lcom/example/keys_in_order/keysinorder/Topic;Lcom/example/keys_in_order/keysinorder/Subscription;J)V" = some ⟨[(.object sn3), (.object sn7), (.object sn8), (.object sn9), .long], none⟩ := by decide +kernel
theorem pd_24 : parseMethodDescriptor "(ILcom/example/keys_in_order/keysinorder/Consumer;J)V" = some ⟨[.int, (.object sn0), .long], none⟩ := by decide +kernel
theorem pd_25 : parseMethodDescriptor "(I)J" = some ⟨[.int], some .long⟩ := by decide +kernel
theorem pn_5 : plainName "java/lang/Record" = true := by first | (simp [plainName, overriddenIn]; done) | decide +kernel
theorem d5_0 : decode cn0 0 = .ok (.aload_n 0, 1) := by decide +kernel
theorem d5_1 : decode cn0 1 = .ok (.invokespecial 1, 3) := by decide +kernel
theorem d5_4 : decode cn0 4 = .ok (.return_, 1) := by decide +kernel
theorem ef_5 (m : MethodId) (r0 : Addr) : entryFrame m #[(.ref r0)] 1 = mkF m 0 #[rv r0] [] := by first | (simp [entryFrame, mkF, argsToLocals, Value.category, iv, rv, lv, un, sd]; done) | rfl
def Q5 (Z : State) (r0 : Addr) (h0 : Heap) (n0 : Nat) (v : Option Value) (h : Heap) (L : List Loc) : Prop := v = none ∧ Fr n0 L ∧ h = h0
set_option maxRecDepth 65536 in
set_option maxHeartbeats 40000000 in
theorem rm5 (l : Launch) (Z : State) (a0 : Array Value) (hw : ∀ d ∈ tables_1, d.before a0 Z = true) (ws : List Jvm.Cond) (r0 : Addr) (h0 : Heap) (n0 : Nat) (Z0 : n0 ≤ h0.size) :
    Mzz l yn0 cn0 1 none ws (rk 1 0 0 12) #[(.ref r0)] Z h0 (Q5 Z r0 h0 n0) := by
  refine Mzz.go (own := "java/lang/Record") (nm := "<init>") (L0 := #[rv r0]) (plainFor_of_name pn_5) rfl rfl (fun m => ef_5 m r0) ?_
  intro p e s m below meth c s₁ hx hby hml hown hnm X0 e0 hZ hrt hlk G hG
  have N0 := Fr.nil n0
  show Go p.tables e below G (s₁.setTop (mkF m 0 #[rv r0] []))
  refine zaloadN X0 hx (hb hby d5_0) rfl rfl ?_
  obtain ⟨T1, X1, e1, st1⟩ := initO X0 hx hZ hown (wm hw 43 rfl) (wm hw 44 rfl) (wm hw 45 rfl) e0 (g := (mkF m 1 #[rv r0] [(.ref r0)])) rfl (by rw [hml]; rfl) rfl (hb hby d5_1) (by decide) (W := 0) (by show 2 * 0 + _ ≤ _; exact Nat.le_of_eq rfl) (by decide)
  refine Go.stp (fun t_ k_ => st1 t_ k_) ?_
  show Go p.tables e below G (T1.setTop (mkF m 4 #[rv r0] []))
  refine zretV X1 hx hrt hlk (hb hby d5_4) e1 hG (by decide) (by decide) ?_
  exact ⟨rfl, N0, rfl⟩
theorem pn_23 : plainName "java/util/AbstractMap" = true := by first | (simp [plainName, overriddenIn]; done) | decide +kernel
theorem d23_0 : decode cn1 0 = .ok (.aload_n 0, 1) := by decide +kernel
theorem d23_1 : decode cn1 1 = .ok (.invokespecial 1, 3) := by decide +kernel
theorem d23_4 : decode cn1 4 = .ok (.return_, 1) := by decide +kernel
theorem ef_23 (m : MethodId) (r0 : Addr) : entryFrame m #[(.ref r0)] 1 = mkF m 0 #[rv r0] [] := by first | (simp [entryFrame, mkF, argsToLocals, Value.category, iv, rv, lv, un, sd]; done) | rfl
def Q23 (Z : State) (r0 : Addr) (h0 : Heap) (n0 : Nat) (v : Option Value) (h : Heap) (L : List Loc) : Prop := v = none ∧ Fr n0 L ∧ h = h0
set_option maxRecDepth 65536 in
set_option maxHeartbeats 40000000 in
theorem rm23 (l : Launch) (Z : State) (a0 : Array Value) (hw : ∀ d ∈ tables_1, d.before a0 Z = true) (ws : List Jvm.Cond) (r0 : Addr) (h0 : Heap) (n0 : Nat) (Z0 : n0 ≤ h0.size) :
    Mzz l yn1 cn1 1 none ws (rk 1 0 0 12) #[(.ref r0)] Z h0 (Q23 Z r0 h0 n0) := by
  refine Mzz.go (own := "java/util/AbstractMap") (nm := "<init>") (L0 := #[rv r0]) (plainFor_of_name pn_23) rfl rfl (fun m => ef_23 m r0) ?_
  intro p e s m below meth c s₁ hx hby hml hown hnm X0 e0 hZ hrt hlk G hG
  have N0 := Fr.nil n0
  show Go p.tables e below G (s₁.setTop (mkF m 0 #[rv r0] []))
  refine zaloadN X0 hx (hb hby d23_0) rfl rfl ?_
  obtain ⟨T1, X1, e1, st1⟩ := initO X0 hx hZ hown (wm hw 155 rfl) (wm hw 44 rfl) (wm hw 45 rfl) e0 (g := (mkF m 1 #[rv r0] [(.ref r0)])) rfl (by rw [hml]; rfl) rfl (hb hby d23_1) (by decide) (W := 0) (by show 2 * 0 + _ ≤ _; exact Nat.le_of_eq rfl) (by decide)
  refine Go.stp (fun t_ k_ => st1 t_ k_) ?_
  show Go p.tables e below G (T1.setTop (mkF m 4 #[rv r0] []))
  refine zretV X1 hx hrt hlk (hb hby d23_4) e1 hG (by decide) (by decide) ?_
  exact ⟨rfl, N0, rfl⟩
theorem pn_26 : plainName "java/util/AbstractCollection" = true := by first | (simp [plainName, overriddenIn]; done) | decide +kernel
theorem d26_0 : decode cn2 0 = .ok (.aload_n 0, 1) := by decide +kernel
theorem d26_1 : decode cn2 1 = .ok (.invokespecial 1, 3) := by decide +kernel
theorem d26_4 : decode cn2 4 = .ok (.return_, 1) := by decide +kernel
theorem ef_26 (m : MethodId) (r0 : Addr) : entryFrame m #[(.ref r0)] 1 = mkF m 0 #[rv r0] [] := by first | (simp [entryFrame, mkF, argsToLocals, Value.category, iv, rv, lv, un, sd]; done) | rfl
def Q26 (Z : State) (r0 : Addr) (h0 : Heap) (n0 : Nat) (v : Option Value) (h : Heap) (L : List Loc) : Prop := v = none ∧ Fr n0 L ∧ h = h0
set_option maxRecDepth 65536 in
set_option maxHeartbeats 40000000 in
theorem rm26 (l : Launch) (Z : State) (a0 : Array Value) (hw : ∀ d ∈ tables_1, d.before a0 Z = true) (ws : List Jvm.Cond) (r0 : Addr) (h0 : Heap) (n0 : Nat) (Z0 : n0 ≤ h0.size) :
    Mzz l yn2 cn2 1 none ws (rk 1 0 0 12) #[(.ref r0)] Z h0 (Q26 Z r0 h0 n0) := by
  refine Mzz.go (own := "java/util/AbstractCollection") (nm := "<init>") (L0 := #[rv r0]) (plainFor_of_name pn_26) rfl rfl (fun m => ef_26 m r0) ?_
  intro p e s m below meth c s₁ hx hby hml hown hnm X0 e0 hZ hrt hlk G hG
  have N0 := Fr.nil n0
  show Go p.tables e below G (s₁.setTop (mkF m 0 #[rv r0] []))
  refine zaloadN X0 hx (hb hby d26_0) rfl rfl ?_
  obtain ⟨T1, X1, e1, st1⟩ := initO X0 hx hZ hown (wm hw 178 rfl) (wm hw 44 rfl) (wm hw 45 rfl) e0 (g := (mkF m 1 #[rv r0] [(.ref r0)])) rfl (by rw [hml]; rfl) rfl (hb hby d26_1) (by decide) (W := 0) (by show 2 * 0 + _ ≤ _; exact Nat.le_of_eq rfl) (by decide)
  refine Go.stp (fun t_ k_ => st1 t_ k_) ?_
  show Go p.tables e below G (T1.setTop (mkF m 4 #[rv r0] []))
  refine zretV X1 hx hrt hlk (hb hby d26_4) e1 hG (by decide) (by decide) ?_
  exact ⟨rfl, N0, rfl⟩
theorem pn_25 : plainName "java/util/AbstractSet" = true := by first | (simp [plainName, overriddenIn]; done) | decide +kernel
theorem d25_0 : decode cn3 0 = .ok (.aload_n 0, 1) := by decide +kernel
theorem d25_1 : decode cn3 1 = .ok (.invokespecial 1, 3) := by decide +kernel
theorem d25_4 : decode cn3 4 = .ok (.return_, 1) := by decide +kernel
theorem ef_25 (m : MethodId) (r0 : Addr) : entryFrame m #[(.ref r0)] 1 = mkF m 0 #[rv r0] [] := by first | (simp [entryFrame, mkF, argsToLocals, Value.category, iv, rv, lv, un, sd]; done) | rfl
def Q25 (Z : State) (r0 : Addr) (h0 : Heap) (n0 : Nat) (v : Option Value) (h : Heap) (L : List Loc) : Prop := v = none ∧ Fr n0 L ∧ h = h0
set_option maxRecDepth 65536 in
set_option maxHeartbeats 40000000 in
theorem rm25 (l : Launch) (Z : State) (a0 : Array Value) (hw : ∀ d ∈ tables_1, d.before a0 Z = true) (ws : List Jvm.Cond) (r0 : Addr) (h0 : Heap) (n0 : Nat) (Z0 : n0 ≤ h0.size) :
    Mzz l yn3 cn3 1 none ws (rk 2 0 0 24) #[(.ref r0)] Z h0 (Q25 Z r0 h0 n0) := by
  refine Mzz.go (own := "java/util/AbstractSet") (nm := "<init>") (L0 := #[rv r0]) (plainFor_of_name pn_25) rfl rfl (fun m => ef_25 m r0) ?_
  intro p e s m below meth c s₁ hx hby hml hown hnm X0 e0 hZ hrt hlk G hG
  have N0 := Fr.nil n0
  show Go p.tables e below G (s₁.setTop (mkF m 0 #[rv r0] []))
  refine zaloadN X0 hx (hb hby d25_0) rfl rfl ?_
  obtain ⟨_, _, ⟨T1, L1, k1, n1⟩, -, X1, ⟨Lc1, hQ1, l1, y1, z1⟩, st1⟩ := X0.specialBack hx (y := yn2) rfl hown (mvT hZ (wm hw 172 rfl)) (mvT hZ (wm hw 173 rfl)) (mvT hZ (wm hw 177 rfl)) (by decide) (backOf (W := 0) (rm26 l Z a0 hw [] r0  h0 n0 Z0 ) hZ (wm hw 177 rfl) (wm hw 176 rfl) (by decide) (by decide)) (g := (mkF m 1 #[rv r0] [(.ref r0)])) rfl (by rw [hml]; rfl) (Steps.refl _) (a := r0) (argsL := []) (rest := []) (lenOf pd_0 rfl) rfl (by show 2 * 0 + _ ≤ _; exact Nat.le_of_eq rfl) (hb hby d25_1) (fun _ _ => ⟨rfl, e0, (by decide : 0 + 0 ≤ _), (by decide : 0 + 0 ≤ _)⟩)
  dsimp only [Pt.U, Pt.locs, Pt.cells, Pt.slots] at X1 l1 y1 z1 st1 hQ1
  subst l1 y1 z1
  obtain ⟨rfl, Nq1, e1⟩ := hQ1
  have N1 := Fr.app N0 Nq1
  refine Go.stp (fun t_ k_ => st1.trans k_) ?_
  show Go p.tables e below G (T1.setTop (mkF m 4 #[rv r0] []))
  refine zretV X1 hx hrt hlk (hb hby d25_4) e1 hG (by decide) (by decide) ?_
  exact ⟨rfl, N1, rfl⟩
theorem pn_29 : plainName sn1 = true := by first | (simp [plainName, overriddenIn]; done) | decide +kernel
theorem d29_0 : decode cn4 0 = .ok (.aload_n 0, 1) := by decide +kernel
theorem d29_1 : decode cn4 1 = .ok (.invokespecial 1, 3) := by decide +kernel
theorem d29_4 : decode cn4 4 = .ok (.return_, 1) := by decide +kernel
theorem ef_29 (m : MethodId) (r0 : Addr) : entryFrame m #[(.ref r0)] 1 = mkF m 0 #[rv r0] [] := by first | (simp [entryFrame, mkF, argsToLocals, Value.category, iv, rv, lv, un, sd]; done) | rfl
def Q29 (Z : State) (r0 : Addr) (h0 : Heap) (n0 : Nat) (v : Option Value) (h : Heap) (L : List Loc) : Prop := v = none ∧ Fr n0 L ∧ h = h0
set_option maxRecDepth 65536 in
set_option maxHeartbeats 40000000 in
theorem rm29 (l : Launch) (Z : State) (a0 : Array Value) (hw : ∀ d ∈ tables_1, d.before a0 Z = true) (ws : List Jvm.Cond) (r0 : Addr) (h0 : Heap) (n0 : Nat) (Z0 : n0 ≤ h0.size) :
    Mzz l yn4 cn4 1 none ws (rk 1 0 0 12) #[(.ref r0)] Z h0 (Q29 Z r0 h0 n0) := by
  refine Mzz.go (own := sn1) (nm := "<init>") (L0 := #[rv r0]) (plainFor_of_name pn_29) rfl rfl (fun m => ef_29 m r0) ?_
  intro p e s m below meth c s₁ hx hby hml hown hnm X0 e0 hZ hrt hlk G hG
  have N0 := Fr.nil n0
  show Go p.tables e below G (s₁.setTop (mkF m 0 #[rv r0] []))
  refine zaloadN X0 hx (hb hby d29_0) rfl rfl ?_
  obtain ⟨T1, X1, e1, st1⟩ := initO X0 hx hZ hown (wm hw 219 rfl) (wm hw 44 rfl) (wm hw 45 rfl) e0 (g := (mkF m 1 #[rv r0] [(.ref r0)])) rfl (by rw [hml]; rfl) rfl (hb hby d29_1) (by decide) (W := 0) (by show 2 * 0 + _ ≤ _; exact Nat.le_of_eq rfl) (by decide)
  refine Go.stp (fun t_ k_ => st1 t_ k_) ?_
  show Go p.tables e below G (T1.setTop (mkF m 4 #[rv r0] []))
  refine zretV X1 hx hrt hlk (hb hby d29_4) e1 hG (by decide) (by decide) ?_
  exact ⟨rfl, N0, rfl⟩
theorem pn_7 : plainName "java/lang/Double" = true := by first | (simp [plainName, overriddenIn]; done) | decide +kernel
theorem d7_0 : decode cn5 0 = .ok (.dload_n 0, 1) := by decide +kernel
theorem d7_1 : decode cn5 1 = .ok (.invokestatic 38, 3) := by decide +kernel
theorem d7_4 : decode cn5 4 = .ok (.ldc2_w 111, 3) := by decide +kernel
theorem d7_7 : decode cn5 7 = .ok (.dcmp .g, 1) := by decide +kernel
theorem d7_8 : decode cn5 8 = .ok (.ifCond .gt 7, 3) := by decide +kernel
theorem d7_11 : decode cn5 11 = .ok (.iconst 1, 1) := by decide +kernel
theorem d7_12 : decode cn5 12 = .ok (.goto 4, 3) := by decide +kernel
theorem d7_16 : decode cn5 16 = .ok (.ireturn, 1) := by decide +kernel
theorem ef_7 (m : MethodId)  : entryFrame m #[(.double FP.dconst1)] 2 = mkF m 0 #[.val (.double FP.dconst1), sd] [] := by first | (simp [entryFrame, mkF, argsToLocals, Value.category, iv, rv, lv, un, sd]; done) | rfl
def Q7 (Z : State)  (h0 : Heap) (n0 : Nat) (v : Option Value) (h : Heap) (L : List Loc) : Prop := v = some (.int (1 : Int32)) ∧ Fr n0 L ∧ h = h0
set_option maxRecDepth 65536 in
set_option maxHeartbeats 40000000 in
theorem rm7 (l : Launch) (Z : State) (a0 : Array Value) (hw : ∀ d ∈ tables_1, d.before a0 Z = true) (ws : List Jvm.Cond)  (h0 : Heap) (n0 : Nat) (Z0 : n0 ≤ h0.size) :
    Mzz l yn5 cn5 2 (some .boolean) ws (rk 1 0 0 13) #[(.double FP.dconst1)] Z h0 (Q7 Z  h0 n0) := by
  refine Mzz.go (own := "java/lang/Double") (nm := "isFinite") (L0 := #[.val (.double FP.dconst1), sd]) (plainFor_of_name pn_7) rfl rfl (fun m => ef_7 m ) ?_
  intro p e s m below meth c s₁ hx hby hml hown hnm X0 e0 hZ hrt hlk G hG
  have N0 := Fr.nil n0
  show Go p.tables e below G (s₁.setTop (mkF m 0 #[.val (.double FP.dconst1), sd] []))
  refine zdloadN X0 hx (hb hby d7_0) rfl ?_
  obtain ⟨_, vq1, ⟨T1, L1, k1, n1⟩, -, X1, ⟨hB1, hQ1⟩, st1⟩ := Jvm.LawKit.callS X0 hx (y := Jvm.Free.NT.mathAbs64N) hown (mvT hZ (wm hw 51 rfl)) (mvT hZ (wm hw 52 rfl)) (mvT hZ (wm hw 53 rfl)) (mvT hZ (wm hw 54 rfl)) (by decide) (Jvm.Free.NT.Abs64.pays (W := 0) (mvT hZ (wm hw 54 rfl)) (mvT hZ (wm hw 52 rfl)) (by decide) (by decide)) (g := (mkF m 1 #[.val (.double FP.dconst1), sd] [(.double FP.dconst1)])) rfl (by rw [hml]; rfl) (argsL := [.double FP.dconst1]) (rest := []) (lenOf pd_1 rfl) rfl (by show 2 * 0 + _ ≤ _; exact Nat.le_of_eq rfl) (hb hby d7_1) (fun _ _ => ⟨_, rfl, by decide⟩)
  obtain rfl := hQ1 _ ⟨rfl, by decide⟩
  cases hB1
  dsimp only [Pt.U, Pt.locs, Pt.cells, Pt.slots] at X1 st1
  have e1 := e0
  obtain ⟨T1, hT1⟩ : ∃ z, z = s₁.setVm vq1 := ⟨_, rfl⟩
  rw [← hT1] at X1 st1
  have e1 : T1.heap = h0 := by rw [hT1]; exact e1
  refine Go.stp (fun t_ k_ => st1 t_ k_) ?_
  show Go p.tables e below G (T1.setTop (mkF m 4 #[.val (.double FP.dconst1), sd] [(.double (FP.dconst1 &&& 0x7fffffffffffffff))]))
  refine Go.stp (fun t_ k_ => X1.ldc2DoubleC hx hown (mvT hZ (wm hw 55 rfl)) (g := (mkF m 4 #[.val (.double FP.dconst1), sd] [(.double (FP.dconst1 &&& 0x7fffffffffffffff))])) rfl (hb hby d7_4) t_ k_) ?_
  show Go p.tables e below G (T1.setTop (mkF m 7 #[.val (.double FP.dconst1), sd] [(.double (9218868437227405311 : UInt64)), (.double (FP.dconst1 &&& 0x7fffffffffffffff))]))
  refine zdcmpS X1 hx (hb hby d7_7) rfl ?_
  have hd8 : ¬ ((0 : Int32) < (cmpValue (FP.dcmp (FP.dconst1 &&& 0x7fffffffffffffff) (9218868437227405311 : UInt64)) .g)) := (by decide +kernel)
  refine zifNo X1 hx (hb hby d7_8) ((if0 _ _).trans (flt hd8).2.2.1) ?_
  refine ziconst X1 hx (hb hby d7_11) (z := (1 : Int32)) rfl ?_
  refine zgoto X1 hx (pc' := 16) (hb hby d7_12) (by decide) (by decide) ?_
  refine zretN X1 hx (t := .boolean) (by simp) hrt hlk (hb hby d7_16) e1 hG (by decide) (by decide) ?_
  exact ⟨rfl, N0, rfl⟩
theorem pn_4 : plainName sn4 = true := by first | (simp [plainName, overriddenIn]; done) | decide +kernel
theorem d4_0 : decode cn6 0 = .ok (.aload_n 0, 1) := by decide +kernel
theorem d4_1 : decode cn6 1 = .ok (.invokespecial 1, 3) := by decide +kernel
theorem d4_4 : decode cn6 4 = .ok (.lload_n 1, 1) := by decide +kernel
theorem d4_5 : decode cn6 5 = .ok (.lconst 0, 1) := by decide +kernel
theorem d4_6 : decode cn6 6 = .ok (.lcmp, 1) := by decide +kernel
theorem d4_7 : decode cn6 7 = .ok (.ifCond .lt 11, 3) := by decide +kernel
theorem d4_10 : decode cn6 10 = .ok (.lload_n 1, 1) := by decide +kernel
theorem d4_11 : decode cn6 11 = .ok (.ldc2_w 9, 3) := by decide +kernel
theorem d4_14 : decode cn6 14 = .ok (.lcmp, 1) := by decide +kernel
theorem d4_15 : decode cn6 15 = .ok (.ifCond .le 13, 3) := by decide +kernel
theorem d4_28 : decode cn6 28 = .ok (.lload_n 3, 1) := by decide +kernel
theorem d4_29 : decode cn6 29 = .ok (.lload_n 1, 1) := by decide +kernel
theorem d4_30 : decode cn6 30 = .ok (.lcmp, 1) := by decide +kernel
theorem d4_31 : decode cn6 31 = .ok (.ifCond .lt 11, 3) := by decide +kernel
theorem d4_34 : decode cn6 34 = .ok (.lload_n 3, 1) := by decide +kernel
theorem d4_35 : decode cn6 35 = .ok (.ldc2_w 9, 3) := by decide +kernel
theorem d4_38 : decode cn6 38 = .ok (.lcmp, 1) := by decide +kernel
theorem d4_39 : decode cn6 39 = .ok (.ifCond .le 17, 3) := by decide +kernel
theorem d4_56 : decode cn6 56 = .ok (.dload 5, 2) := by decide +kernel
theorem d4_58 : decode cn6 58 = .ok (.invokestatic 22, 3) := by decide +kernel
theorem d4_61 : decode cn6 61 = .ok (.ifCond .eq 10, 3) := by decide +kernel
theorem d4_64 : decode cn6 64 = .ok (.dload 5, 2) := by decide +kernel
theorem d4_66 : decode cn6 66 = .ok (.dconst 1, 1) := by decide +kernel
theorem d4_67 : decode cn6 67 = .ok (.dcmp .g, 1) := by decide +kernel
theorem d4_68 : decode cn6 68 = .ok (.ifCond .ge 13, 3) := by decide +kernel
theorem d4_81 : decode cn6 81 = .ok (.aload_n 0, 1) := by decide +kernel
theorem d4_82 : decode cn6 82 = .ok (.lload_n 1, 1) := by decide +kernel
theorem d4_83 : decode cn6 83 = .ok (.putfield 30, 3) := by decide +kernel
theorem d4_86 : decode cn6 86 = .ok (.aload_n 0, 1) := by decide +kernel
theorem d4_87 : decode cn6 87 = .ok (.lload_n 3, 1) := by decide +kernel
theorem d4_88 : decode cn6 88 = .ok (.putfield 34, 3) := by decide +kernel
theorem d4_91 : decode cn6 91 = .ok (.aload_n 0, 1) := by decide +kernel
theorem d4_92 : decode cn6 92 = .ok (.dload 5, 2) := by decide +kernel
theorem d4_94 : decode cn6 94 = .ok (.putfield 37, 3) := by decide +kernel
theorem d4_97 : decode cn6 97 = .ok (.return_, 1) := by decide +kernel
theorem ef_4 (m : MethodId) (r0 : Addr) : entryFrame m #[(.ref r0), (.long (60000 : Int64)), (.long (60000 : Int64)), (.double FP.dconst1)] 7 = mkF m 0 #[rv r0, lv (60000 : Int64), sd, lv (60000 : Int64), sd, .val (.double FP.dconst1), sd] [] := by first | (simp [entryFrame, mkF, argsToLocals, Value.category, iv, rv, lv, un, sd]; done) | rfl
def Q4 (Z : State) (r0 : Addr) (h0 : Heap) (n0 : Nat) (v : Option Value) (h : Heap) (L : List Loc) : Prop := v = none ∧ Fr n0 L ∧ Keep h0 h [r0]
set_option maxRecDepth 65536 in
set_option maxHeartbeats 40000000 in
theorem rm4 (l : Launch) (Z : State) (a0 : Array Value) (hw : ∀ d ∈ tables_1, d.before a0 Z = true) (ws : List Jvm.Cond) (r0 : Addr) (h0 : Heap) (n0 : Nat) (Z0 : n0 ≤ h0.size) (E_r0 : Exa Z h0 r0 sn4) (F_minDelayMs : Fld Z h0 r0 sn4 "minDelayMs" "J" (.long (0 : Int64))) (F_maxDelayMs : Fld Z h0 r0 sn4 "maxDelayMs" "J" (.long (0 : Int64))) (F_multiplier : Fld Z h0 r0 sn4 "multiplier" "D" (.double (0 : UInt64))) (g_r0 : n0 ≤ r0) :
    Mzz l yn6 cn6 7 none ws (rk 2 0 0 26) #[(.ref r0), (.long (60000 : Int64)), (.long (60000 : Int64)), (.double FP.dconst1)] Z h0 (Q4 Z r0 h0 n0) := by
  refine Mzz.go (own := sn4) (nm := "<init>") (L0 := #[rv r0, lv (60000 : Int64), sd, lv (60000 : Int64), sd, .val (.double FP.dconst1), sd]) (plainFor_of_name pn_4) rfl rfl (fun m => ef_4 m r0) ?_
  intro p e s m below meth c s₁ hx hby hml hown hnm X0 e0 hZ hrt hlk G hG
  have N0 := Fr.nil n0
  have K0 := Keep.refl h0 [r0]
  show Go p.tables e below G (s₁.setTop (mkF m 0 #[rv r0, lv (60000 : Int64), sd, lv (60000 : Int64), sd, .val (.double FP.dconst1), sd] []))
  refine zaloadN X0 hx (hb hby d4_0) rfl rfl ?_
  obtain ⟨_, _, ⟨T1, L1, k1, n1⟩, -, X1, ⟨Lc1, hQ1, l1, y1, z1⟩, st1⟩ := X0.specialBack hx (y := yn0) rfl hown (mvT hZ (wm hw 38 rfl)) (mvT hZ (wm hw 39 rfl)) (mvT hZ (wm hw 42 rfl)) (by decide) (backOf (W := 0) (rm5 l Z a0 hw [] r0  h0 n0 Z0 ) hZ (wm hw 42 rfl) (wm hw 41 rfl) (by decide) (by decide)) (g := (mkF m 1 #[rv r0, lv (60000 : Int64), sd, lv (60000 : Int64), sd, .val (.double FP.dconst1), sd] [(.ref r0)])) rfl (by rw [hml]; rfl) (Steps.refl _) (a := r0) (argsL := []) (rest := []) (lenOf pd_0 rfl) rfl (by show 2 * 0 + _ ≤ _; exact Nat.le_of_eq rfl) (hb hby d4_1) (fun _ _ => ⟨rfl, e0, (by decide : 0 + 0 ≤ _), (by decide : 0 + 0 ≤ _)⟩)
  dsimp only [Pt.U, Pt.locs, Pt.cells, Pt.slots] at X1 l1 y1 z1 st1 hQ1
  subst l1 y1 z1
  obtain ⟨rfl, Nq1, e1⟩ := hQ1
  have N1 := Fr.app N0 Nq1
  refine Go.stp (fun t_ k_ => st1.trans k_) ?_
  show Go p.tables e below G (T1.setTop (mkF m 4 #[rv r0, lv (60000 : Int64), sd, lv (60000 : Int64), sd, .val (.double FP.dconst1), sd] []))
  refine zlloadN X1 hx (hb hby d4_4) rfl ?_
  refine zlconst X1 hx (hb hby d4_5) (z := (0 : Int64)) rfl ?_
  refine zlcmp X1 hx (hb hby d4_6) (z := (lcmpW (60000 : Int64) (0 : Int64))) rfl ?_
  refine zifNo X1 hx (hb hby d4_7) ((if0 _ _).trans (flt (fun q => (by decide : ¬ ((60000 : Int64) < (0 : Int64))) ((lw_lt (60000 : Int64) (0 : Int64)).mp q))).1) ?_
  refine zlloadN X1 hx (hb hby d4_10) rfl ?_
  refine Go.stp (fun t_ k_ => X1.ldc2Long hx hown (mvT hZ (wm hw 46 rfl)) (g := (mkF m 11 #[rv r0, lv (60000 : Int64), sd, lv (60000 : Int64), sd, .val (.double FP.dconst1), sd] [(.long (60000 : Int64))])) rfl (hb hby d4_11) t_ k_) ?_
  show Go p.tables e below G (T1.setTop (mkF m 14 #[rv r0, lv (60000 : Int64), sd, lv (60000 : Int64), sd, .val (.double FP.dconst1), sd] [(.long (86400000 : Int64)), (.long (60000 : Int64))]))
  refine zlcmp X1 hx (hb hby d4_14) (z := (lcmpW (60000 : Int64) (86400000 : Int64))) rfl ?_
  refine zifYes X1 hx (pc' := 28) (hb hby d4_15) ((if0 _ _).trans (flt (fun q => (by decide : ¬ ((86400000 : Int64) < (60000 : Int64))) ((lw_gt (60000 : Int64) (86400000 : Int64)).mp q))).2.2.2) (by decide) (by decide) ?_
  refine zlloadN X1 hx (hb hby d4_28) rfl ?_
  refine zlloadN X1 hx (hb hby d4_29) rfl ?_
  refine zlcmp X1 hx (hb hby d4_30) (z := (lcmpW (60000 : Int64) (60000 : Int64))) rfl ?_
  refine zifNo X1 hx (hb hby d4_31) ((if0 _ _).trans (flt (fun q => (by decide : ¬ ((60000 : Int64) < (60000 : Int64))) ((lw_lt (60000 : Int64) (60000 : Int64)).mp q))).1) ?_
  refine zlloadN X1 hx (hb hby d4_34) rfl ?_
  refine Go.stp (fun t_ k_ => X1.ldc2Long hx hown (mvT hZ (wm hw 46 rfl)) (g := (mkF m 35 #[rv r0, lv (60000 : Int64), sd, lv (60000 : Int64), sd, .val (.double FP.dconst1), sd] [(.long (60000 : Int64))])) rfl (hb hby d4_35) t_ k_) ?_
  show Go p.tables e below G (T1.setTop (mkF m 38 #[rv r0, lv (60000 : Int64), sd, lv (60000 : Int64), sd, .val (.double FP.dconst1), sd] [(.long (86400000 : Int64)), (.long (60000 : Int64))]))
  refine zlcmp X1 hx (hb hby d4_38) (z := (lcmpW (60000 : Int64) (86400000 : Int64))) rfl ?_
  refine zifYes X1 hx (pc' := 56) (hb hby d4_39) ((if0 _ _).trans (flt (fun q => (by decide : ¬ ((86400000 : Int64) < (60000 : Int64))) ((lw_gt (60000 : Int64) (86400000 : Int64)).mp q))).2.2.2) (by decide) (by decide) ?_
  refine zdload X1 hx (hb hby d4_56) rfl ?_
  obtain ⟨_, _, ⟨T2, L2, k2, n2⟩, -, X2, ⟨Lc2, hQ2, l2, y2, z2⟩, st2⟩ := Jvm.LawKit.callS X1 hx (y := yn5) hown (mvT hZ (wm hw 47 rfl)) (mvT hZ (wm hw 48 rfl)) (mvT hZ (wm hw 49 rfl)) (mvT hZ (wm hw 50 rfl)) (by decide) (backOf (W := 0) (rm7 l Z a0 hw [] h0 n0 Z0) hZ (wm hw 50 rfl) (wm hw 49 rfl) (by decide) (by decide)) (g := (mkF m 58 #[rv r0, lv (60000 : Int64), sd, lv (60000 : Int64), sd, .val (.double FP.dconst1), sd] [(.double FP.dconst1)])) rfl (by rw [hml]; rfl) (argsL := [(.double FP.dconst1)]) (rest := []) (lenOf pd_2 rfl) rfl (by show 2 * 0 + _ ≤ _; exact Nat.le_of_eq rfl) (hb hby d4_58) (fun _ _ => ⟨rfl, e1, (by decide : 0 + 0 ≤ _), (by decide : 0 + 0 ≤ _)⟩)
  dsimp only [Pt.U, Pt.locs, Pt.cells, Pt.slots] at X2 l2 y2 z2 st2 hQ2
  subst l2 y2 z2
  obtain ⟨rfl, Nq2, e2⟩ := hQ2
  have N2 := Fr.app N1 Nq2
  refine Go.stp (fun t_ k_ => st2 t_ k_) ?_
  show Go p.tables e below G (T2.setTop (mkF m 61 #[rv r0, lv (60000 : Int64), sd, lv (60000 : Int64), sd, .val (.double FP.dconst1), sd] [(.int (1 : Int32))]))
  refine zifNo X2 hx (hb hby d4_61) ((if0 _ _).trans (feq (by decide : ¬ ((1 : Int32) = (0 : Int32)))).1) ?_
  refine zdload X2 hx (hb hby d4_64) rfl ?_
  refine zdconst1 X2 hx (hb hby d4_66) rfl ?_
  refine zdcmpS X2 hx (hb hby d4_67) rfl ?_
  have hd68 : ¬ ((cmpValue (FP.dcmp FP.dconst1 FP.dconst1) .g) < (0 : Int32)) := (by decide +kernel)
  refine zifYes X2 hx (pc' := 81) (hb hby d4_68) ((if0 _ _).trans (flt hd68).2.1) (by decide) (by decide) ?_
  refine zaloadN X2 hx (hb hby d4_81) rfl rfl ?_
  refine zlloadN X2 hx (hb hby d4_82) rfl ?_
  refine zputF X2 hx hZ hown (wm hw 56 rfl) e2 F_minDelayMs E_r0 (Or.inr ⟨(wm hw 57 rfl), rfl, hnm⟩) (wm hw 34 rfl) (ty := .long) (by decide) rfl rfl (hb hby d4_83) (fun T3 h3 X3 e3 W3 => ?_)
  have f4 := F_minDelayMs.same W3
  have f5 := E_r0.wr W3
  have f6 := F_maxDelayMs.other W3 (Or.inr (slot_ne (Or.inr (wm hw 59 rfl)) (Or.inr (wm hw 57 rfl)) (by decide) (t := .long) (t' := .long) (by decide) (by decide)))
  have f7 := F_multiplier.other W3 (Or.inr (slot_ne (Or.inr (wm hw 61 rfl)) (Or.inr (wm hw 57 rfl)) (by decide) (t := .double) (t' := .long) (by decide) (by decide)))
  have N3 := Fr.snoc X3 N2 g_r0
  have K3 := K0.wr W3 (Or.inl (List.mem_of_getElem? (i := 0) rfl))
  have Z3 := Nat.le_trans Z0 (Keep.of_wr W3).1
  refine zaloadN X3 hx (hb hby d4_86) rfl rfl ?_
  refine zlloadN X3 hx (hb hby d4_87) rfl ?_
  refine zputF X3 hx hZ hown (wm hw 58 rfl) e3 f6 f5 (Or.inr ⟨(wm hw 59 rfl), rfl, hnm⟩) (wm hw 34 rfl) (ty := .long) (by decide) rfl rfl (hb hby d4_88) (fun T8 h8 X8 e8 W8 => ?_)
  have f9 := f6.same W8
  have f10 := f5.wr W8
  have f11 := f7.other W8 (Or.inr (slot_ne (Or.inr (wm hw 61 rfl)) (Or.inr (wm hw 59 rfl)) (by decide) (t := .double) (t' := .long) (by decide) (by decide)))
  have f12 := f4.other W8 (Or.inr (slot_ne (Or.inr (wm hw 57 rfl)) (Or.inr (wm hw 59 rfl)) (by decide) (t := .long) (t' := .long) (by decide) (by decide)))
  have N8 := Fr.snoc X8 N3 g_r0
  have K8 := K3.wr W8 (Or.inl (List.mem_of_getElem? (i := 0) rfl))
  have Z8 := Nat.le_trans Z3 (Keep.of_wr W8).1
  refine zaloadN X8 hx (hb hby d4_91) rfl rfl ?_
  refine zdload X8 hx (hb hby d4_92) rfl ?_
  refine zputF X8 hx hZ hown (wm hw 60 rfl) e8 f11 f10 (Or.inr ⟨(wm hw 61 rfl), rfl, hnm⟩) (wm hw 34 rfl) (ty := .double) (by decide) rfl rfl (hb hby d4_94) (fun T13 h13 X13 e13 W13 => ?_)
  have f14 := f11.same W13
  have f15 := f10.wr W13
  have f16 := f12.other W13 (Or.inr (slot_ne (Or.inr (wm hw 57 rfl)) (Or.inr (wm hw 61 rfl)) (by decide) (t := .long) (t' := .double) (by decide) (by decide)))
  have f17 := f9.other W13 (Or.inr (slot_ne (Or.inr (wm hw 59 rfl)) (Or.inr (wm hw 61 rfl)) (by decide) (t := .long) (t' := .double) (by decide) (by decide)))
  have N13 := Fr.snoc X13 N8 g_r0
  have K13 := K8.wr W13 (Or.inl (List.mem_of_getElem? (i := 0) rfl))
  have Z13 := Nat.le_trans Z8 (Keep.of_wr W13).1
  refine zretV X13 hx hrt hlk (hb hby d4_97) e13 hG (by decide) (by decide) ?_
  exact ⟨rfl, N13, K13⟩
theorem d3_0 : decode cn7 0 = .ok (.new 7, 3) := by decide +kernel
theorem d3_3 : decode cn7 3 = .ok (.dup, 1) := by decide +kernel
theorem d3_4 : decode cn7 4 = .ok (.lload_n 0, 1) := by decide +kernel
theorem d3_5 : decode cn7 5 = .ok (.lload_n 0, 1) := by decide +kernel
theorem d3_6 : decode cn7 6 = .ok (.dconst 1, 1) := by decide +kernel
theorem d3_7 : decode cn7 7 = .ok (.invokespecial 41, 3) := by decide +kernel
theorem d3_10 : decode cn7 10 = .ok (.areturn, 1) := by decide +kernel
theorem ef_3 (m : MethodId)  : entryFrame m #[(.long (60000 : Int64))] 2 = mkF m 0 #[lv (60000 : Int64), sd] [] := by first | (simp [entryFrame, mkF, argsToLocals, Value.category, iv, rv, lv, un, sd]; done) | rfl
def Q3 (Z : State)  (h0 : Heap) (n0 : Nat) (v : Option Value) (h : Heap) (L : List Loc) : Prop := ∃ z : Addr, v = some (.ref z) ∧ Fr n0 L ∧ Keep h0 h []
set_option maxRecDepth 65536 in
set_option maxHeartbeats 40000000 in
theorem rm3 (l : Launch) (Z : State) (a0 : Array Value) (hw : ∀ d ∈ tables_1, d.before a0 Z = true) (ws : List Jvm.Cond)  (h0 : Heap) (n0 : Nat) (Z0 : n0 ≤ h0.size) :
    Mzz l yn7 cn7 2 (some (.object sn4)) ws (rk 3 1 3 45) #[(.long (60000 : Int64))] Z h0 (Q3 Z  h0 n0) := by
  refine Mzz.go (own := sn4) (nm := "fixed") (L0 := #[lv (60000 : Int64), sd]) (plainFor_of_name pn_4) rfl rfl (fun m => ef_3 m ) ?_
  intro p e s m below meth c s₁ hx hby hml hown hnm X0 e0 hZ hrt hlk G hG
  have N0 := Fr.nil n0
  have K0 := Keep.refl h0 []
  show Go p.tables e below G (s₁.setTop (mkF m 0 #[lv (60000 : Int64), sd] []))
  obtain ⟨T1, h1, X1, e1, E1, A1, D1, -, st1⟩ := newO X0 hx hZ hown (wm hw 33 rfl) (wm hw 34 rfl) (wm hw 31 rfl) e0 (g := (mkF m 0 #[lv (60000 : Int64), sd] [])) rfl (hb hby d3_0) (by decide) (by decide)
  obtain ⟨b1, g1⟩ : ∃ z, z = h0.size := ⟨_, rfl⟩
  rw [← g1] at A1 D1 st1
  have g_b1 : n0 ≤ b1 := Nat.le_trans Z0 (Nat.le_of_eq g1.symm)
  have sz_b1 : h0.size ≤ b1 := Nat.le_trans K0.1 (Nat.le_of_eq g1.symm)
  have Z1 : n0 ≤ h1.size := Nat.le_trans Z0 E1.1
  have K1 := K0.ext E1
  have f2 : Fld Z h1 b1 sn4 "minDelayMs" "J" (.long (0 : Int64)) := D1 (Or.inr (wm hw 57 rfl)) (ty := .long) (by decide)
  have f3 : Fld Z h1 b1 sn4 "maxDelayMs" "J" (.long (0 : Int64)) := D1 (Or.inr (wm hw 59 rfl)) (ty := .long) (by decide)
  have f4 : Fld Z h1 b1 sn4 "multiplier" "D" (.double (0 : UInt64)) := D1 (Or.inr (wm hw 61 rfl)) (ty := .double) (by decide)
  refine Go.stp (fun t_ k_ => st1 t_ k_) ?_
  show Go p.tables e below G (T1.setTop (mkF m 3 #[lv (60000 : Int64), sd] [(.ref b1)]))
  refine zdup X1 hx (hb hby d3_3) rfl ?_
  refine zlloadN X1 hx (hb hby d3_4) rfl ?_
  refine zlloadN X1 hx (hb hby d3_5) rfl ?_
  refine zdconst1 X1 hx (hb hby d3_6) rfl ?_
  obtain ⟨_, _, ⟨T5, L5, k5, n5⟩, -, X5, ⟨Lc5, hQ5, l5, y5, z5⟩, st5⟩ := X1.specialBack hx (y := yn6) rfl hown (mvT hZ (wm hw 35 rfl)) (mvT hZ (wm hw 36 rfl)) (mvT hZ (wm hw 37 rfl)) (by decide) (backOf (W := 1) (rm4 l Z a0 hw [] b1 h1 n0 Z1 A1 f2 f3 f4 g_b1) hZ (wm hw 37 rfl) (wm hw 31 rfl) (by decide) (by decide)) (g := (mkF m 7 #[lv (60000 : Int64), sd] [(.double FP.dconst1), (.long (60000 : Int64)), (.long (60000 : Int64)), (.ref b1), (.ref b1)])) rfl (by rw [hml]; rfl) (Steps.refl _) (a := b1) (argsL := [(.long (60000 : Int64)), (.long (60000 : Int64)), (.double FP.dconst1)]) (rest := [(.ref b1)]) (lenOf pd_3 rfl) rfl (by show 2 * 0 + _ ≤ _; exact Nat.le_of_eq rfl) (hb hby d3_7) (fun _ _ => ⟨rfl, e1, (by decide : 1 + 0 ≤ _), (by decide : 3 + 0 ≤ _)⟩)
  dsimp only [Pt.U, Pt.locs, Pt.cells, Pt.slots] at X5 l5 y5 z5 st5 hQ5
  subst l5 y5 z5
  obtain ⟨rfl, Nq5, Kc5⟩ := hQ5
  have N5 := Fr.app N0 Nq5
  have f6 := A1.keep Kc5
  have Z5 : n0 ≤ T5.heap.size := Nat.le_trans Z1 Kc5.1
  have K5 := K1.trans Kc5 (fun x q => by
      simp only [List.mem_cons, List.not_mem_nil, or_false] at q
      rw [q]; exact (Or.inr sz_b1))
  refine Go.stp (fun t_ k_ => st5.trans k_) ?_
  show Go p.tables e below G (T5.setTop (mkF m 10 #[lv (60000 : Int64), sd] [(.ref b1)]))
  refine zretR X5 hx rfl rfl hrt hlk (hb hby d3_10) rfl hG (by decide) (by decide) ?_
  exact ⟨_, rfl, N5, K5⟩
theorem pn_13 : plainName sn3 = true := by first | (simp [plainName, overriddenIn]; done) | decide +kernel
theorem d13_0 : decode cn8 0 = .ok (.getstatic 38, 3) := by decide +kernel
theorem d13_3 : decode cn8 3 = .ok (.ifCond .eq 10, 3) := by decide +kernel
theorem d13_6 : decode cn8 6 = .ok (.aload_n 0, 1) := by decide +kernel
theorem d13_7 : decode cn8 7 = .ok (.getfield 15, 3) := by decide +kernel
theorem d13_10 : decode cn8 10 = .ok (.goto 4, 3) := by decide +kernel
theorem d13_14 : decode cn8 14 = .ok (.ireturn, 1) := by decide +kernel
theorem ef_13 (m : MethodId) (r0 : Addr) : entryFrame m #[(.ref r0)] 1 = mkF m 0 #[rv r0] [] := by first | (simp [entryFrame, mkF, argsToLocals, Value.category, iv, rv, lv, un, sd]; done) | rfl
def Q13 (Z : State) (r0 : Addr) (kc : Int32) (h0 : Heap) (n0 : Nat) (v : Option Value) (h : Heap) (L : List Loc) : Prop := v = some (.int (0 : Int32)) ∧ Fr n0 L ∧ h = h0
set_option maxRecDepth 65536 in
set_option maxHeartbeats 40000000 in
theorem rm13 (l : Launch) (Z : State) (a0 : Array Value) (hw : ∀ d ∈ tables_1, d.before a0 Z = true) (ws : List Jvm.Cond) (r0 : Addr) (kc : Int32) (h0 : Heap) (n0 : Nat) (Z0 : n0 ≤ h0.size) (S_cs : Sta Z h0 sn3 sn10 "Z" (.int kc)) (hkc : ¬ kc = (0 : Int32)) (Fc : Fld Z h0 r0 sn3 "coder" "B" (.int (0 : Int32))) :
    Mzz l yn8 cn8 1 (some .byte) ws (rk 0 0 0 0) #[(.ref r0)] Z h0 (Q13 Z r0 kc h0 n0) := by
  refine Mzz.go (own := sn3) (nm := "coder") (L0 := #[rv r0]) (plainFor_of_name pn_13) rfl rfl (fun m => ef_13 m r0) ?_
  intro p e s m below meth c s₁ hx hby hml hown hnm X0 e0 hZ hrt hlk G hG
  have N0 := Fr.nil n0
  show Go p.tables e below G (s₁.setTop (mkF m 0 #[rv r0] []))
  obtain ⟨T1, X1, e1, st1⟩ := getS2 X0 hx hZ hown (host := "") (Or.inl (wm hw 87 rfl)) Via.refl e0 S_cs (g := (mkF m 0 #[rv r0] [])) rfl (hb hby d13_0)
  refine Go.stp (fun t_ k_ => st1 t_ k_) ?_
  show Go p.tables e below G (T1.setTop (mkF m 3 #[rv r0] [(.int kc)]))
  have hd3 : ¬ (kc = (0 : Int32)) := hkc
  refine zifNo X1 hx (hb hby d13_3) ((if0 _ _).trans (feq hd3).1) ?_
  refine zaloadN X1 hx (hb hby d13_6) rfl rfl ?_
  refine zgetF X1 hx hZ hown (wm hw 88 rfl) e1 Fc (hb hby d13_7) (fun T2 X2 e2 => ?_)
  refine zgoto X2 hx (pc' := 14) (hb hby d13_10) (by decide) (by decide) ?_
  refine zretN X2 hx (t := .byte) (by simp) hrt hlk (hb hby d13_14) e2 hG (by decide) (by decide) ?_
  exact ⟨rfl, N0, rfl⟩
theorem d15_0 : decode cn9 0 = .ok (.getstatic 38, 3) := by decide +kernel
theorem d15_3 : decode cn9 3 = .ok (.ifCond .eq 14, 3) := by decide +kernel
theorem d15_6 : decode cn9 6 = .ok (.aload_n 0, 1) := by decide +kernel
theorem d15_7 : decode cn9 7 = .ok (.getfield 15, 3) := by decide +kernel
theorem d15_10 : decode cn9 10 = .ok (.ifCond .ne 7, 3) := by decide +kernel
theorem d15_13 : decode cn9 13 = .ok (.iconst 1, 1) := by decide +kernel
theorem d15_14 : decode cn9 14 = .ok (.goto 4, 3) := by decide +kernel
theorem d15_18 : decode cn9 18 = .ok (.ireturn, 1) := by decide +kernel
theorem ef_15 (m : MethodId) (r0 : Addr) : entryFrame m #[(.ref r0)] 1 = mkF m 0 #[rv r0] [] := by first | (simp [entryFrame, mkF, argsToLocals, Value.category, iv, rv, lv, un, sd]; done) | rfl
def Q15 (Z : State) (r0 : Addr) (kc : Int32) (h0 : Heap) (n0 : Nat) (v : Option Value) (h : Heap) (L : List Loc) : Prop := v = some (.int (1 : Int32)) ∧ Fr n0 L ∧ h = h0
set_option maxRecDepth 65536 in
set_option maxHeartbeats 40000000 in
theorem rm15 (l : Launch) (Z : State) (a0 : Array Value) (hw : ∀ d ∈ tables_1, d.before a0 Z = true) (ws : List Jvm.Cond) (r0 : Addr) (kc : Int32) (h0 : Heap) (n0 : Nat) (Z0 : n0 ≤ h0.size) (S_cs : Sta Z h0 sn3 sn10 "Z" (.int kc)) (hkc : ¬ kc = (0 : Int32)) (Fc : Fld Z h0 r0 sn3 "coder" "B" (.int (0 : Int32))) :
    Mzz l yn9 cn9 1 (some .boolean) ws (rk 0 0 0 0) #[(.ref r0)] Z h0 (Q15 Z r0 kc h0 n0) := by
  refine Mzz.go (own := sn3) (nm := "isLatin1") (L0 := #[rv r0]) (plainFor_of_name pn_13) rfl rfl (fun m => ef_15 m r0) ?_
  intro p e s m below meth c s₁ hx hby hml hown hnm X0 e0 hZ hrt hlk G hG
  have N0 := Fr.nil n0
  show Go p.tables e below G (s₁.setTop (mkF m 0 #[rv r0] []))
  obtain ⟨T1, X1, e1, st1⟩ := getS2 X0 hx hZ hown (host := "") (Or.inl (wm hw 87 rfl)) Via.refl e0 S_cs (g := (mkF m 0 #[rv r0] [])) rfl (hb hby d15_0)
  refine Go.stp (fun t_ k_ => st1 t_ k_) ?_
  show Go p.tables e below G (T1.setTop (mkF m 3 #[rv r0] [(.int kc)]))
  have hd3 : ¬ (kc = (0 : Int32)) := hkc
  refine zifNo X1 hx (hb hby d15_3) ((if0 _ _).trans (feq hd3).1) ?_
  refine zaloadN X1 hx (hb hby d15_6) rfl rfl ?_
  refine zgetF X1 hx hZ hown (wm hw 88 rfl) e1 Fc (hb hby d15_7) (fun T2 X2 e2 => ?_)
  refine zifNo X2 hx (hb hby d15_10) ((if0 _ _).trans (teq (by decide : (0 : Int32) = (0 : Int32))).2) ?_
  refine ziconst X2 hx (hb hby d15_13) (z := (1 : Int32)) rfl ?_
  refine zgoto X2 hx (pc' := 18) (hb hby d15_14) (by decide) (by decide) ?_
  refine zretN X2 hx (t := .boolean) (by simp) hrt hlk (hb hby d15_18) e2 hG (by decide) (by decide) ?_
  exact ⟨rfl, N0, rfl⟩
theorem pn_18 : plainName sn11 = true := by first | (simp [plainName, overriddenIn]; done) | decide +kernel
theorem d18_0 : decode cn10 0 = .ok (.iload_n 0, 1) := by decide +kernel
theorem d18_1 : decode cn10 1 = .ok (.ifCond .lt 8, 3) := by decide +kernel
theorem d18_4 : decode cn10 4 = .ok (.iload_n 0, 1) := by decide +kernel
theorem d18_5 : decode cn10 5 = .ok (.iload_n 1, 1) := by decide +kernel
theorem d18_6 : decode cn10 6 = .ok (.if_icmp .lt 10, 3) := by decide +kernel
theorem d18_16 : decode cn10 16 = .ok (.iload_n 0, 1) := by decide +kernel
theorem d18_17 : decode cn10 17 = .ok (.ireturn, 1) := by decide +kernel
theorem ef_18 (m : MethodId) (sf : Value) (hsf : sf.isRef = true) : entryFrame m #[(.int (0 : Int32)), (.int (1 : Int32)), sf] 3 = mkF m 0 #[iv (0 : Int32), iv (1 : Int32), .val sf] [] := by
  rcases ref_cases hsf with rfl | ⟨_, rfl⟩ <;> first | (simp [entryFrame, mkF, argsToLocals, Value.category, maxLocals, iv, rv, lv, un, sd]; done) | rfl
def Q18 (Z : State) (sf : Value) (h0 : Heap) (n0 : Nat) (v : Option Value) (h : Heap) (L : List Loc) : Prop := v = some (.int (0 : Int32)) ∧ Fr n0 L ∧ h = h0
set_option maxRecDepth 65536 in
set_option maxHeartbeats 40000000 in
theorem rm18 (l : Launch) (Z : State) (a0 : Array Value) (hw : ∀ d ∈ tables_1, d.before a0 Z = true) (ws : List Jvm.Cond) (sf : Value) (h0 : Heap) (n0 : Nat) (Z0 : n0 ≤ h0.size) (hsf : sf.isRef = true) :
    Mzz l yn10 cn10 3 (some .int) ws (rk 0 0 0 0) #[(.int (0 : Int32)), (.int (1 : Int32)), sf] Z h0 (Q18 Z sf h0 n0) := by
  refine Mzz.go (own := sn11) (nm := "checkIndex") (L0 := #[iv (0 : Int32), iv (1 : Int32), .val sf]) (plainFor_of_name pn_18) rfl rfl (fun m => ef_18 m sf hsf) ?_
  intro p e s m below meth c s₁ hx hby hml hown hnm X0 e0 hZ hrt hlk G hG
  have N0 := Fr.nil n0
  show Go p.tables e below G (s₁.setTop (mkF m 0 #[iv (0 : Int32), iv (1 : Int32), .val sf] []))
  refine ziloadN X0 hx (hb hby d18_0) rfl ?_
  refine zifNo X0 hx (hb hby d18_1) ((if0 _ _).trans (flt (by decide : ¬ ((0 : Int32) < (0 : Int32)))).1) ?_
  refine ziloadN X0 hx (hb hby d18_4) rfl ?_
  refine ziloadN X0 hx (hb hby d18_5) rfl ?_
  refine zicmpYes X0 hx (pc' := 16) (hb hby d18_6) (tlt (by decide : (0 : Int32) < (1 : Int32))).1 (by decide) (by decide) ?_
  refine ziloadN X0 hx (hb hby d18_16) rfl ?_
  refine zretI X0 hx hrt hlk (hb hby d18_17) e0 hG (by decide) (by decide) ?_
  exact ⟨rfl, N0, rfl⟩
theorem d17_0 : decode cn11 0 = .ok (.iload_n 0, 1) := by decide +kernel
theorem d17_1 : decode cn11 1 = .ok (.iload_n 1, 1) := by decide +kernel
theorem d17_2 : decode cn11 2 = .ok (.getstatic 1053, 3) := by decide +kernel
theorem d17_5 : decode cn11 5 = .ok (.invokestatic 1059, 3) := by decide +kernel
theorem d17_8 : decode cn11 8 = .ok (.pop, 1) := by decide +kernel
theorem d17_9 : decode cn11 9 = .ok (.return_, 1) := by decide +kernel
theorem ef_17 (m : MethodId)  : entryFrame m #[(.int (0 : Int32)), (.int (1 : Int32))] 2 = mkF m 0 #[iv (0 : Int32), iv (1 : Int32)] [] := by first | (simp [entryFrame, mkF, argsToLocals, Value.category, iv, rv, lv, un, sd]; done) | rfl
def Q17 (Z : State) (sf : Value) (h0 : Heap) (n0 : Nat) (v : Option Value) (h : Heap) (L : List Loc) : Prop := v = none ∧ Fr n0 L ∧ h = h0
set_option maxRecDepth 65536 in
set_option maxHeartbeats 40000000 in
theorem rm17 (l : Launch) (Z : State) (a0 : Array Value) (hw : ∀ d ∈ tables_1, d.before a0 Z = true) (ws : List Jvm.Cond) (sf : Value) (h0 : Heap) (n0 : Nat) (Z0 : n0 ≤ h0.size) (S_sf : Sta Z h0 sn11 sn12 sn13 sf) (hsf : sf.isRef = true) :
    Mzz l yn11 cn11 2 none ws (rk 1 0 0 14) #[(.int (0 : Int32)), (.int (1 : Int32))] Z h0 (Q17 Z sf h0 n0) := by
  refine Mzz.go (own := sn3) (nm := "checkIndex") (L0 := #[iv (0 : Int32), iv (1 : Int32)]) (plainFor_of_name pn_13) rfl rfl (fun m => ef_17 m ) ?_
  intro p e s m below meth c s₁ hx hby hml hown hnm X0 e0 hZ hrt hlk G hG
  have N0 := Fr.nil n0
  show Go p.tables e below G (s₁.setTop (mkF m 0 #[iv (0 : Int32), iv (1 : Int32)] []))
  refine ziloadN X0 hx (hb hby d17_0) rfl ?_
  refine ziloadN X0 hx (hb hby d17_1) rfl ?_
  obtain ⟨T1, X1, e1, st1⟩ := getS2 X0 hx hZ hown (host := "") (Or.inl (wm hw 106 rfl)) Via.refl e0 S_sf (g := (mkF m 2 #[iv (0 : Int32), iv (1 : Int32)] [(.int (1 : Int32)), (.int (0 : Int32))])) rfl (hb hby d17_2)
  refine Go.stp (fun t_ k_ => st1 t_ k_) ?_
  show Go p.tables e below G (T1.setTop (mkF m 5 #[iv (0 : Int32), iv (1 : Int32)] [sf, (.int (1 : Int32)), (.int (0 : Int32))]))
  obtain ⟨_, _, ⟨T2, L2, k2, n2⟩, -, X2, ⟨Lc2, hQ2, l2, y2, z2⟩, st2⟩ := Jvm.LawKit.callS X1 hx (y := yn10) hown (mvT hZ (wm hw 108 rfl)) (mvT hZ (wm hw 109 rfl)) (mvT hZ (wm hw 107 rfl)) (mvT hZ (wm hw 110 rfl)) (by decide) (backOf (W := 0) (rm18 l Z a0 hw [] sf h0 n0 Z0 hsf) hZ (wm hw 110 rfl) (wm hw 107 rfl) (by decide) (by decide)) (g := (mkF m 5 #[iv (0 : Int32), iv (1 : Int32)] [sf, (.int (1 : Int32)), (.int (0 : Int32))])) rfl (by rw [hml]; rfl) (argsL := [(.int (0 : Int32)), (.int (1 : Int32)), sf]) (rest := []) (lenOf pd_4 rfl) rfl (by show 2 * 0 + _ ≤ _; exact Nat.le_of_eq rfl) (hb hby d17_5) (fun _ _ => ⟨rfl, e1, (by decide : 0 + 0 ≤ _), (by decide : 0 + 0 ≤ _)⟩)
  dsimp only [Pt.U, Pt.locs, Pt.cells, Pt.slots] at X2 l2 y2 z2 st2 hQ2
  subst l2 y2 z2
  obtain ⟨rfl, Nq2, e2⟩ := hQ2
  have N2 := Fr.app N0 Nq2
  refine Go.stp (fun t_ k_ => st2 t_ k_) ?_
  show Go p.tables e below G (T2.setTop (mkF m 8 #[iv (0 : Int32), iv (1 : Int32)] [(.int (0 : Int32))]))
  refine zpop X2 hx (hb hby d17_8) rfl ?_
  refine zretV X2 hx hrt hlk (hb hby d17_9) e2 hG (by decide) (by decide) ?_
  exact ⟨rfl, N2, rfl⟩
theorem pn_16 : plainName "java/lang/StringLatin1" = true := by first | (simp [plainName, overriddenIn]; done) | decide +kernel
theorem d16_0 : decode cn12 0 = .ok (.iload_n 1, 1) := by decide +kernel
theorem d16_1 : decode cn12 1 = .ok (.aload_n 0, 1) := by decide +kernel
theorem d16_2 : decode cn12 2 = .ok (.arraylength, 1) := by decide +kernel
theorem d16_3 : decode cn12 3 = .ok (.invokestatic 9, 3) := by decide +kernel
theorem d16_6 : decode cn12 6 = .ok (.aload_n 0, 1) := by decide +kernel
theorem d16_7 : decode cn12 7 = .ok (.iload_n 1, 1) := by decide +kernel
theorem d16_8 : decode cn12 8 = .ok (.baload, 1) := by decide +kernel
theorem d16_9 : decode cn12 9 = .ok (.sipush 255, 3) := by decide +kernel
theorem d16_12 : decode cn12 12 = .ok (.iand, 1) := by decide +kernel
theorem d16_13 : decode cn12 13 = .ok (.i2c, 1) := by decide +kernel
theorem d16_14 : decode cn12 14 = .ok (.ireturn, 1) := by decide +kernel
theorem ef_16 (m : MethodId) (r0 : Addr) : entryFrame m #[(.ref r0), (.int (0 : Int32))] 2 = mkF m 0 #[rv r0, iv (0 : Int32)] [] := by first | (simp [entryFrame, mkF, argsToLocals, Value.category, iv, rv, lv, un, sd]; done) | rfl
def Q16 (Z : State) (r0 : Addr) (sf : Value) (h0 : Heap) (n0 : Nat) (v : Option Value) (h : Heap) (L : List Loc) : Prop := v = some (.int (99 : Int32)) ∧ Fr n0 L ∧ h = h0
set_option maxRecDepth 65536 in
set_option maxHeartbeats 40000000 in
theorem rm16 (l : Launch) (Z : State) (a0 : Array Value) (hw : ∀ d ∈ tables_1, d.before a0 Z = true) (ws : List Jvm.Cond) (r0 : Addr) (sf : Value) (h0 : Heap) (n0 : Nat) (Z0 : n0 ≤ h0.size) (S_sf : Sta Z h0 sn11 sn12 sn13 sf) (hsf : sf.isRef = true) (I_r0 : Ia Z h0 r0 .byte 1 Value.int (fun _ => (99 : Int32))) :
    Mzz l yn12 cn12 2 (some .char) ws (rk 2 0 0 27) #[(.ref r0), (.int (0 : Int32))] Z h0 (Q16 Z r0 sf h0 n0) := by
  refine Mzz.go (own := "java/lang/StringLatin1") (nm := "charAt") (L0 := #[rv r0, iv (0 : Int32)]) (plainFor_of_name pn_16) rfl rfl (fun m => ef_16 m r0) ?_
  intro p e s m below meth c s₁ hx hby hml hown hnm X0 e0 hZ hrt hlk G hG
  have N0 := Fr.nil n0
  show Go p.tables e below G (s₁.setTop (mkF m 0 #[rv r0, iv (0 : Int32)] []))
  refine ziloadN X0 hx (hb hby d16_0) rfl ?_
  refine zaloadN X0 hx (hb hby d16_1) rfl rfl ?_
  obtain ⟨cl1, Ar1, Sz1, -, -⟩ := id I_r0
  refine zlen X0 hx hZ e0 Ar1 Sz1 (z := (1 : Int32)) rfl (hb hby d16_2) ?_
  obtain ⟨_, _, ⟨T2, L2, k2, n2⟩, -, X2, ⟨Lc2, hQ2, l2, y2, z2⟩, st2⟩ := Jvm.LawKit.callS X0 hx (y := yn11) hown (mvT hZ (wm hw 103 rfl)) (mvT hZ (wm hw 104 rfl)) (mvT hZ (wm hw 5 rfl)) (mvT hZ (wm hw 105 rfl)) (by decide) (backOf (W := 0) (rm17 l Z a0 hw [] sf h0 n0 Z0 S_sf hsf) hZ (wm hw 105 rfl) (wm hw 5 rfl) (by decide) (by decide)) (g := (mkF m 3 #[rv r0, iv (0 : Int32)] [(.int (1 : Int32)), (.int (0 : Int32))])) rfl (by rw [hml]; rfl) (argsL := [(.int (0 : Int32)), (.int (1 : Int32))]) (rest := []) (lenOf pd_5 rfl) rfl (by show 2 * 0 + _ ≤ _; exact Nat.le_of_eq rfl) (hb hby d16_3) (fun _ _ => ⟨rfl, e0, (by decide : 0 + 0 ≤ _), (by decide : 0 + 0 ≤ _)⟩)
  dsimp only [Pt.U, Pt.locs, Pt.cells, Pt.slots] at X2 l2 y2 z2 st2 hQ2
  subst l2 y2 z2
  obtain ⟨rfl, Nq2, e2⟩ := hQ2
  have N2 := Fr.app N0 Nq2
  refine Go.stp (fun t_ k_ => st2 t_ k_) ?_
  show Go p.tables e below G (T2.setTop (mkF m 6 #[rv r0, iv (0 : Int32)] []))
  refine zaloadN X2 hx (hb hby d16_6) rfl rfl ?_
  refine ziloadN X2 hx (hb hby d16_7) rfl ?_
  obtain ⟨cl3, Ar3, Sz3, -, Hs3⟩ := id I_r0
  have ib3 : 0 ≤ ((0 : Int32)).toInt ∧ ((0 : Int32)).toInt < ((1 : Nat) : Int) := (by decide)
  refine Go.stp (fun t_ k_ => X2.baloadBytes hx (j := (0 : Int32)) (v := (Value.int ((fun _ => (99 : Int32)) 0))) (by rw [e2]; exact Ar3.1) (State.isArrayOf_alike hZ.alike Ar3.2.1) Ar3.2.2 (in_of Sz3 ib3) (Hs3 0 (by decide)) (g := (mkF m 8 #[rv r0, iv (0 : Int32)] [(.int (0 : Int32)), (.ref r0)])) rfl rfl (hb hby d16_8) t_ k_) ?_
  show Go p.tables e below G (T2.setTop (mkF m 9 #[rv r0, iv (0 : Int32)] [(.int ((fun _ => (99 : Int32)) 0))]))
  refine zsipush X2 hx (hb hby d16_9) (z := (255 : Int32)) rfl ?_
  refine ziand X2 hx (hb hby d16_12) ?_
  refine zi2c X2 hx (hb hby d16_13) ?_
  refine zretN X2 hx (t := .char) (by simp) hrt hlk (hb hby d16_14) e2 hG (by decide) (by decide) ?_
  exact ⟨congrArg (fun z => some (Value.int z)) (by decide +kernel), N2, rfl⟩
theorem d14_0 : decode cn13 0 = .ok (.aload_n 0, 1) := by decide +kernel
theorem d14_1 : decode cn13 1 = .ok (.invokevirtual 492, 3) := by decide +kernel
theorem d14_4 : decode cn13 4 = .ok (.ifCond .eq 12, 3) := by decide +kernel
theorem d14_7 : decode cn13 7 = .ok (.aload_n 0, 1) := by decide +kernel
theorem d14_8 : decode cn13 8 = .ok (.getfield 9, 3) := by decide +kernel
theorem d14_11 : decode cn13 11 = .ok (.iload_n 1, 1) := by decide +kernel
theorem d14_12 : decode cn13 12 = .ok (.invokestatic 495, 3) := by decide +kernel
theorem d14_15 : decode cn13 15 = .ok (.ireturn, 1) := by decide +kernel
theorem ef_14 (m : MethodId) (r0 : Addr) : entryFrame m #[(.ref r0), (.int (0 : Int32))] 2 = mkF m 0 #[rv r0, iv (0 : Int32)] [] := by first | (simp [entryFrame, mkF, argsToLocals, Value.category, iv, rv, lv, un, sd]; done) | rfl
def Q14 (Z : State) (r0 : Addr) (va : Addr) (kc : Int32) (sf : Value) (h0 : Heap) (n0 : Nat) (v : Option Value) (h : Heap) (L : List Loc) : Prop := v = some (.int (99 : Int32)) ∧ Fr n0 L ∧ h = h0
set_option maxRecDepth 65536 in
set_option maxHeartbeats 40000000 in
theorem rm14 (l : Launch) (Z : State) (a0 : Array Value) (hw : ∀ d ∈ tables_1, d.before a0 Z = true) (ws : List Jvm.Cond) (r0 : Addr) (va : Addr) (kc : Int32) (sf : Value) (h0 : Heap) (n0 : Nat) (Z0 : n0 ≤ h0.size) (S_cs : Sta Z h0 sn3 sn10 "Z" (.int kc)) (hkc : ¬ kc = (0 : Int32)) (S_sf : Sta Z h0 sn11 sn12 sn13 sf) (hsf : sf.isRef = true) (E_r0 : Exa Z h0 r0 sn3) (Fv_r0 : Fld Z h0 r0 sn3 "value" "[B" (.ref va)) (Fc_r0 : Fld Z h0 r0 sn3 "coder" "B" (.int (0 : Int32))) (I_va : Ia Z h0 va .byte 1 Value.int (fun _ => (99 : Int32))) :
    Mzz l yn13 cn13 2 (some .char) ws (rk 3 0 0 40) #[(.ref r0), (.int (0 : Int32))] Z h0 (Q14 Z r0 va kc sf h0 n0) := by
  refine Mzz.go (own := sn3) (nm := "charAt") (L0 := #[rv r0, iv (0 : Int32)]) (plainFor_of_name pn_13) rfl rfl (fun m => ef_14 m r0) ?_
  intro p e s m below meth c s₁ hx hby hml hown hnm X0 e0 hZ hrt hlk G hG
  have N0 := Fr.nil n0
  show Go p.tables e below G (s₁.setTop (mkF m 0 #[rv r0, iv (0 : Int32)] []))
  refine zaloadN X0 hx (hb hby d14_0) rfl rfl ?_
  obtain ⟨cq1, kq1, q1a, q1b, q1c⟩ := isOf hZ e0 E_r0
  obtain ⟨_, _, ⟨T1, L1, k1, n1⟩, -, X1, ⟨Lc1, hQ1, l1, y1, z1⟩, st1⟩ := X0.virtualBack hx (y := yn9) (z := yn9) hown (mvT hZ (wm hw 94 rfl)) (mvT hZ (wm hw 95 rfl)) (notFace_of_selects (args := #[]) (mvT hZ (wm hw 97 rfl))) (mvT hZ (wm hw 97 rfl)) (mvT hZ (wm hw 96 rfl)) (by decide) (backOf (W := 0) (rm15 l Z a0 hw [] r0 kc h0 n0 Z0 S_cs hkc Fc_r0) hZ (wm hw 98 rfl) (wm hw 5 rfl) (by decide) (by decide)) q1a q1c (g := (mkF m 1 #[rv r0, iv (0 : Int32)] [(.ref r0)])) rfl (by rw [hml]; rfl) (Steps.refl _) (argsL := []) (rest := []) (lenOf pd_6 rfl) rfl (by show 2 * 0 + _ ≤ _; exact Nat.le_of_eq rfl) (hb hby d14_1) (fun _ _ => ⟨rfl, e0, (by decide : 0 + 0 ≤ _), (by decide : 0 + 0 ≤ _)⟩)
  dsimp only [Pt.U, Pt.locs, Pt.cells, Pt.slots] at X1 l1 y1 z1 st1 hQ1
  subst l1 y1 z1
  obtain ⟨rfl, Nq1, e1⟩ := hQ1
  have N1 := Fr.app N0 Nq1
  refine Go.stp (fun t_ k_ => st1.trans k_) ?_
  show Go p.tables e below G (T1.setTop (mkF m 4 #[rv r0, iv (0 : Int32)] [(.int (1 : Int32))]))
  refine zifNo X1 hx (hb hby d14_4) ((if0 _ _).trans (feq (by decide : ¬ ((1 : Int32) = (0 : Int32)))).1) ?_
  refine zaloadN X1 hx (hb hby d14_7) rfl rfl ?_
  refine zgetF X1 hx hZ hown (wm hw 76 rfl) e1 Fv_r0 (hb hby d14_8) (fun T2 X2 e2 => ?_)
  refine ziloadN X2 hx (hb hby d14_11) rfl ?_
  obtain ⟨_, _, ⟨T3, L3, k3, n3⟩, -, X3, ⟨Lc3, hQ3, l3, y3, z3⟩, st3⟩ := Jvm.LawKit.callS X2 hx (y := yn12) hown (mvT hZ (wm hw 99 rfl)) (mvT hZ (wm hw 100 rfl)) (mvT hZ (wm hw 101 rfl)) (mvT hZ (wm hw 102 rfl)) (by decide) (backOf (W := 0) (rm16 l Z a0 hw [] va sf h0 n0 Z0 S_sf hsf I_va) hZ (wm hw 102 rfl) (wm hw 101 rfl) (by decide) (by decide)) (g := (mkF m 12 #[rv r0, iv (0 : Int32)] [(.int (0 : Int32)), (.ref va)])) rfl (by rw [hml]; rfl) (argsL := [(.ref va), (.int (0 : Int32))]) (rest := []) (lenOf pd_7 rfl) rfl (by show 2 * 0 + _ ≤ _; exact Nat.le_of_eq rfl) (hb hby d14_12) (fun _ _ => ⟨rfl, e2, (by decide : 0 + 0 ≤ _), (by decide : 0 + 0 ≤ _)⟩)
  dsimp only [Pt.U, Pt.locs, Pt.cells, Pt.slots] at X3 l3 y3 z3 st3 hQ3
  subst l3 y3 z3
  obtain ⟨rfl, Nq3, e3⟩ := hQ3
  have N3 := Fr.app N1 Nq3
  refine Go.stp (fun t_ k_ => st3 t_ k_) ?_
  show Go p.tables e below G (T3.setTop (mkF m 15 #[rv r0, iv (0 : Int32)] [(.int (99 : Int32))]))
  refine zretN X3 hx (t := .char) (by simp) hrt hlk (hb hby d14_15) e3 hG (by decide) (by decide) ?_
  exact ⟨congrArg (fun z => some (Value.int z)) (by decide +kernel), N3, rfl⟩
theorem d12_0 : decode cn14 0 = .ok (.aload_n 0, 1) := by decide +kernel
theorem d12_1 : decode cn14 1 = .ok (.getfield 9, 3) := by decide +kernel
theorem d12_4 : decode cn14 4 = .ok (.arraylength, 1) := by decide +kernel
theorem d12_5 : decode cn14 5 = .ok (.aload_n 0, 1) := by decide +kernel
theorem d12_6 : decode cn14 6 = .ok (.invokevirtual 335, 3) := by decide +kernel
theorem d12_9 : decode cn14 9 = .ok (.ishr, 1) := by decide +kernel
theorem d12_10 : decode cn14 10 = .ok (.ireturn, 1) := by decide +kernel
theorem ef_12 (m : MethodId) (r0 : Addr) : entryFrame m #[(.ref r0)] 1 = mkF m 0 #[rv r0] [] := by first | (simp [entryFrame, mkF, argsToLocals, Value.category, iv, rv, lv, un, sd]; done) | rfl
def Q12 (Z : State) (r0 : Addr) (va : Addr) (kc : Int32) (h0 : Heap) (n0 : Nat) (v : Option Value) (h : Heap) (L : List Loc) : Prop := v = some (.int (1 : Int32)) ∧ Fr n0 L ∧ h = h0
set_option maxRecDepth 65536 in
set_option maxHeartbeats 40000000 in
theorem rm12 (l : Launch) (Z : State) (a0 : Array Value) (hw : ∀ d ∈ tables_1, d.before a0 Z = true) (ws : List Jvm.Cond) (r0 : Addr) (va : Addr) (kc : Int32) (h0 : Heap) (n0 : Nat) (Z0 : n0 ≤ h0.size) (S_cs : Sta Z h0 sn3 sn10 "Z" (.int kc)) (hkc : ¬ kc = (0 : Int32)) (E_r0 : Exa Z h0 r0 sn3) (Fv_r0 : Fld Z h0 r0 sn3 "value" "[B" (.ref va)) (Fc_r0 : Fld Z h0 r0 sn3 "coder" "B" (.int (0 : Int32))) (I_va : Ia Z h0 va .byte 1 Value.int (fun _ => (99 : Int32))) :
    Mzz l yn14 cn14 1 (some .int) ws (rk 1 0 0 13) #[(.ref r0)] Z h0 (Q12 Z r0 va kc h0 n0) := by
  refine Mzz.go (own := sn3) (nm := "length") (L0 := #[rv r0]) (plainFor_of_name pn_13) rfl rfl (fun m => ef_12 m r0) ?_
  intro p e s m below meth c s₁ hx hby hml hown hnm X0 e0 hZ hrt hlk G hG
  have N0 := Fr.nil n0
  show Go p.tables e below G (s₁.setTop (mkF m 0 #[rv r0] []))
  refine zaloadN X0 hx (hb hby d12_0) rfl rfl ?_
  refine zgetF X0 hx hZ hown (wm hw 76 rfl) e0 Fv_r0 (hb hby d12_1) (fun T1 X1 e1 => ?_)
  obtain ⟨cl2, Ar2, Sz2, -, -⟩ := id I_va
  refine zlen X1 hx hZ e1 Ar2 Sz2 (z := (1 : Int32)) rfl (hb hby d12_4) ?_
  refine zaloadN X1 hx (hb hby d12_5) rfl rfl ?_
  obtain ⟨cq3, kq3, q3a, q3b, q3c⟩ := isOf hZ e1 E_r0
  obtain ⟨_, _, ⟨T3, L3, k3, n3⟩, -, X3, ⟨Lc3, hQ3, l3, y3, z3⟩, st3⟩ := X1.virtualBack hx (y := yn8) (z := yn8) hown (mvT hZ (wm hw 82 rfl)) (mvT hZ (wm hw 83 rfl)) (notFace_of_selects (args := #[]) (mvT hZ (wm hw 85 rfl))) (mvT hZ (wm hw 85 rfl)) (mvT hZ (wm hw 84 rfl)) (by decide) (backOf (W := 1) (rm13 l Z a0 hw [] r0 kc h0 n0 Z0 S_cs hkc Fc_r0) hZ (wm hw 86 rfl) (wm hw 5 rfl) (by decide) (by decide)) q3a q3c (g := (mkF m 6 #[rv r0] [(.ref r0), (.int (1 : Int32))])) rfl (by rw [hml]; rfl) (Steps.refl _) (argsL := []) (rest := [(.int (1 : Int32))]) (lenOf pd_8 rfl) rfl (by show 2 * 0 + _ ≤ _; exact Nat.le_of_eq rfl) (hb hby d12_6) (fun _ _ => ⟨rfl, e1, (by decide : 0 + 0 ≤ _), (by decide : 0 + 0 ≤ _)⟩)
  dsimp only [Pt.U, Pt.locs, Pt.cells, Pt.slots] at X3 l3 y3 z3 st3 hQ3
  subst l3 y3 z3
  obtain ⟨rfl, Nq3, e3⟩ := hQ3
  have N3 := Fr.app N0 Nq3
  refine Go.stp (fun t_ k_ => st3.trans k_) ?_
  show Go p.tables e below G (T3.setTop (mkF m 9 #[rv r0] [(.int (0 : Int32)), (.int (1 : Int32))]))
  refine zishr X3 hx (hb hby d12_9) ?_
  refine zretI X3 hx hrt hlk (hb hby d12_10) e3 hG (by decide) (by decide) ?_
  exact ⟨congrArg (fun z => some (Value.int z)) (by decide +kernel), N3, rfl⟩
theorem d11_0 : decode cn15 0 = .ok (.aload_n 0, 1) := by decide +kernel
theorem d11_1 : decode cn15 1 = .ok (.getfield 9, 3) := by decide +kernel
theorem d11_4 : decode cn15 4 = .ok (.arraylength, 1) := by decide +kernel
theorem d11_5 : decode cn15 5 = .ok (.ifCond .ne 7, 3) := by decide +kernel
theorem d11_12 : decode cn15 12 = .ok (.iconst 0, 1) := by decide +kernel
theorem d11_13 : decode cn15 13 = .ok (.ireturn, 1) := by decide +kernel
theorem ef_11 (m : MethodId) (r0 : Addr) : entryFrame m #[(.ref r0)] 1 = mkF m 0 #[rv r0] [] := by first | (simp [entryFrame, mkF, argsToLocals, Value.category, iv, rv, lv, un, sd]; done) | rfl
def Q11 (Z : State) (r0 : Addr) (va : Addr) (h0 : Heap) (n0 : Nat) (v : Option Value) (h : Heap) (L : List Loc) : Prop := v = some (.int (0 : Int32)) ∧ Fr n0 L ∧ h = h0
set_option maxRecDepth 65536 in
set_option maxHeartbeats 40000000 in
theorem rm11 (l : Launch) (Z : State) (a0 : Array Value) (hw : ∀ d ∈ tables_1, d.before a0 Z = true) (ws : List Jvm.Cond) (r0 : Addr) (va : Addr) (h0 : Heap) (n0 : Nat) (Z0 : n0 ≤ h0.size) (E_r0 : Exa Z h0 r0 sn3) (Fv_r0 : Fld Z h0 r0 sn3 "value" "[B" (.ref va)) (Fc_r0 : Fld Z h0 r0 sn3 "coder" "B" (.int (0 : Int32))) (I_va : Ia Z h0 va .byte 1 Value.int (fun _ => (99 : Int32))) :
    Mzz l yn15 cn15 1 (some .boolean) ws (rk 0 0 0 0) #[(.ref r0)] Z h0 (Q11 Z r0 va h0 n0) := by
  refine Mzz.go (own := sn3) (nm := "isEmpty") (L0 := #[rv r0]) (plainFor_of_name pn_13) rfl rfl (fun m => ef_11 m r0) ?_
  intro p e s m below meth c s₁ hx hby hml hown hnm X0 e0 hZ hrt hlk G hG
  have N0 := Fr.nil n0
  show Go p.tables e below G (s₁.setTop (mkF m 0 #[rv r0] []))
  refine zaloadN X0 hx (hb hby d11_0) rfl rfl ?_
  refine zgetF X0 hx hZ hown (wm hw 76 rfl) e0 Fv_r0 (hb hby d11_1) (fun T1 X1 e1 => ?_)
  obtain ⟨cl2, Ar2, Sz2, -, -⟩ := id I_va
  refine zlen X1 hx hZ e1 Ar2 Sz2 (z := (1 : Int32)) rfl (hb hby d11_4) ?_
  refine zifYes X1 hx (pc' := 12) (hb hby d11_5) ((if0 _ _).trans (feq (by decide : ¬ ((1 : Int32) = (0 : Int32)))).2) (by decide) (by decide) ?_
  refine ziconst X1 hx (hb hby d11_12) (z := (0 : Int32)) rfl ?_
  refine zretN X1 hx (t := .boolean) (by simp) hrt hlk (hb hby d11_13) e1 hG (by decide) (by decide) ?_
  exact ⟨rfl, N0, rfl⟩
theorem pn_10 : plainName "com/example/keys_in_order/keysinorder/Names" = true := by first | (simp [plainName, overriddenIn]; done) | decide +kernel
theorem d10_0 : decode cn16 0 = .ok (.aload_n 1, 1) := by decide +kernel
theorem d10_1 : decode cn16 1 = .ok (.ifnull 20, 3) := by decide +kernel
theorem d10_4 : decode cn16 4 = .ok (.aload_n 1, 1) := by decide +kernel
theorem d10_5 : decode cn16 5 = .ok (.invokevirtual 7, 3) := by decide +kernel
theorem d10_8 : decode cn16 8 = .ok (.ifCond .ne 13, 3) := by decide +kernel
theorem d10_11 : decode cn16 11 = .ok (.aload_n 1, 1) := by decide +kernel
theorem d10_12 : decode cn16 12 = .ok (.invokevirtual 13, 3) := by decide +kernel
theorem d10_15 : decode cn16 15 = .ok (.sipush 200, 3) := by decide +kernel
theorem d10_18 : decode cn16 18 = .ok (.if_icmp .le 17, 3) := by decide +kernel
theorem d10_35 : decode cn16 35 = .ok (.iconst 0, 1) := by decide +kernel
theorem d10_36 : decode cn16 36 = .ok (.istore_n 2, 1) := by decide +kernel
theorem d10_37 : decode cn16 37 = .ok (.iload_n 2, 1) := by decide +kernel
theorem d10_38 : decode cn16 38 = .ok (.aload_n 1, 1) := by decide +kernel
theorem d10_39 : decode cn16 39 = .ok (.invokevirtual 13, 3) := by decide +kernel
theorem d10_42 : decode cn16 42 = .ok (.if_icmp .ge 96, 3) := by decide +kernel
theorem d10_45 : decode cn16 45 = .ok (.aload_n 1, 1) := by decide +kernel
theorem d10_46 : decode cn16 46 = .ok (.iload_n 2, 1) := by decide +kernel
theorem d10_47 : decode cn16 47 = .ok (.invokevirtual 28, 3) := by decide +kernel
theorem d10_50 : decode cn16 50 = .ok (.istore_n 3, 1) := by decide +kernel
theorem d10_51 : decode cn16 51 = .ok (.iload_n 3, 1) := by decide +kernel
theorem d10_52 : decode cn16 52 = .ok (.bipush 65, 2) := by decide +kernel
theorem d10_54 : decode cn16 54 = .ok (.if_icmp .lt 9, 3) := by decide +kernel
theorem d10_57 : decode cn16 57 = .ok (.iload_n 3, 1) := by decide +kernel
theorem d10_58 : decode cn16 58 = .ok (.bipush 90, 2) := by decide +kernel
theorem d10_60 : decode cn16 60 = .ok (.if_icmp .le 45, 3) := by decide +kernel
theorem d10_63 : decode cn16 63 = .ok (.iload_n 3, 1) := by decide +kernel
theorem d10_64 : decode cn16 64 = .ok (.bipush 97, 2) := by decide +kernel
theorem d10_66 : decode cn16 66 = .ok (.if_icmp .lt 9, 3) := by decide +kernel
theorem d10_69 : decode cn16 69 = .ok (.iload_n 3, 1) := by decide +kernel
theorem d10_70 : decode cn16 70 = .ok (.bipush 122, 2) := by decide +kernel
theorem d10_72 : decode cn16 72 = .ok (.if_icmp .le 33, 3) := by decide +kernel
theorem d10_105 : decode cn16 105 = .ok (.iconst 1, 1) := by decide +kernel
theorem d10_106 : decode cn16 106 = .ok (.goto 4, 3) := by decide +kernel
theorem d10_110 : decode cn16 110 = .ok (.istore 4, 2) := by decide +kernel
theorem d10_112 : decode cn16 112 = .ok (.iload 4, 2) := by decide +kernel
theorem d10_114 : decode cn16 114 = .ok (.ifCond .ne 18, 3) := by decide +kernel
theorem d10_132 : decode cn16 132 = .ok (.iinc 2 1, 3) := by decide +kernel
theorem d10_135 : decode cn16 135 = .ok (.goto (-98), 3) := by decide +kernel
theorem d10_138 : decode cn16 138 = .ok (.aload_n 1, 1) := by decide +kernel
theorem d10_139 : decode cn16 139 = .ok (.areturn, 1) := by decide +kernel
theorem ef_10 (m : MethodId) (r0 : Addr) (r1 : Addr) : entryFrame m #[(.ref r0), (.ref r1)] 5 = mkF m 0 #[rv r0, rv r1, un, un, un] [] := by first | (simp [entryFrame, mkF, argsToLocals, Value.category, iv, rv, lv, un, sd]; done) | rfl
def Q10 (Z : State) (r0 : Addr) (r1 : Addr) (va : Addr) (kc : Int32) (sf : Value) (h0 : Heap) (n0 : Nat) (v : Option Value) (h : Heap) (L : List Loc) : Prop := v = some (.ref r1) ∧ Fr n0 L ∧ h = h0
set_option maxRecDepth 65536 in
set_option maxHeartbeats 40000000 in
theorem rm10 (l : Launch) (Z : State) (a0 : Array Value) (hw : ∀ d ∈ tables_1, d.before a0 Z = true) (ws : List Jvm.Cond) (r0 : Addr) (r1 : Addr) (va : Addr) (kc : Int32) (sf : Value) (h0 : Heap) (n0 : Nat) (Z0 : n0 ≤ h0.size) (S_cs : Sta Z h0 sn3 sn10 "Z" (.int kc)) (hkc : ¬ kc = (0 : Int32)) (S_sf : Sta Z h0 sn11 sn12 sn13 sf) (hsf : sf.isRef = true) (E_r1 : Exa Z h0 r1 sn3) (Fv_r1 : Fld Z h0 r1 sn3 "value" "[B" (.ref va)) (Fc_r1 : Fld Z h0 r1 sn3 "coder" "B" (.int (0 : Int32))) (I_va : Ia Z h0 va .byte 1 Value.int (fun _ => (99 : Int32))) :
    Mzz l yn16 cn16 5 (some (.object sn3)) ws (rk 4 0 0 56) #[(.ref r0), (.ref r1)] Z h0 (Q10 Z r0 r1 va kc sf h0 n0) := by
  refine Mzz.go (own := "com/example/keys_in_order/keysinorder/Names") (nm := "require") (L0 := #[rv r0, rv r1, un, un, un]) (plainFor_of_name pn_10) rfl rfl (fun m => ef_10 m r0 r1) ?_
  intro p e s m below meth c s₁ hx hby hml hown hnm X0 e0 hZ hrt hlk G hG
  have N0 := Fr.nil n0
  show Go p.tables e below G (s₁.setTop (mkF m 0 #[rv r0, rv r1, un, un, un] []))
  refine zaloadN X0 hx (hb hby d10_0) rfl rfl ?_
  refine zifnullNo X0 hx (hb hby d10_1) ?_
  refine zaloadN X0 hx (hb hby d10_4) rfl rfl ?_
  obtain ⟨cq1, kq1, q1a, q1b, q1c⟩ := isOf hZ e0 E_r1
  obtain ⟨_, _, ⟨T1, L1, k1, n1⟩, -, X1, ⟨Lc1, hQ1, l1, y1, z1⟩, st1⟩ := X0.virtualBack hx (y := yn15) (z := yn15) hown (mvT hZ (wm hw 71 rfl)) (mvT hZ (wm hw 72 rfl)) (notFace_of_selects (args := #[]) (mvT hZ (wm hw 74 rfl))) (mvT hZ (wm hw 74 rfl)) (mvT hZ (wm hw 73 rfl)) (by decide) (backOf (W := 0) (rm11 l Z a0 hw [] r1 va h0 n0 Z0 E_r1 Fv_r1 Fc_r1 I_va) hZ (wm hw 75 rfl) (wm hw 5 rfl) (by decide) (by decide)) q1a q1c (g := (mkF m 5 #[rv r0, rv r1, un, un, un] [(.ref r1)])) rfl (by rw [hml]; rfl) (Steps.refl _) (argsL := []) (rest := []) (lenOf pd_6 rfl) rfl (by show 2 * 0 + _ ≤ _; exact Nat.le_of_eq rfl) (hb hby d10_5) (fun _ _ => ⟨rfl, e0, (by decide : 0 + 0 ≤ _), (by decide : 0 + 0 ≤ _)⟩)
  dsimp only [Pt.U, Pt.locs, Pt.cells, Pt.slots] at X1 l1 y1 z1 st1 hQ1
  subst l1 y1 z1
  obtain ⟨rfl, Nq1, e1⟩ := hQ1
  have N1 := Fr.app N0 Nq1
  refine Go.stp (fun t_ k_ => st1.trans k_) ?_
  show Go p.tables e below G (T1.setTop (mkF m 8 #[rv r0, rv r1, un, un, un] [(.int (0 : Int32))]))
  refine zifNo X1 hx (hb hby d10_8) ((if0 _ _).trans (teq (by decide : (0 : Int32) = (0 : Int32))).2) ?_
  refine zaloadN X1 hx (hb hby d10_11) rfl rfl ?_
  obtain ⟨cq2, kq2, q2a, q2b, q2c⟩ := isOf hZ e1 E_r1
  obtain ⟨_, _, ⟨T2, L2, k2, n2⟩, -, X2, ⟨Lc2, hQ2, l2, y2, z2⟩, st2⟩ := X1.virtualBack hx (y := yn14) (z := yn14) hown (mvT hZ (wm hw 77 rfl)) (mvT hZ (wm hw 78 rfl)) (notFace_of_selects (args := #[]) (mvT hZ (wm hw 80 rfl))) (mvT hZ (wm hw 80 rfl)) (mvT hZ (wm hw 79 rfl)) (by decide) (backOf (W := 0) (rm12 l Z a0 hw [] r1 va kc h0 n0 Z0 S_cs hkc E_r1 Fv_r1 Fc_r1 I_va) hZ (wm hw 81 rfl) (wm hw 5 rfl) (by decide) (by decide)) q2a q2c (g := (mkF m 12 #[rv r0, rv r1, un, un, un] [(.ref r1)])) rfl (by rw [hml]; rfl) (Steps.refl _) (argsL := []) (rest := []) (lenOf pd_9 rfl) rfl (by show 2 * 0 + _ ≤ _; exact Nat.le_of_eq rfl) (hb hby d10_12) (fun _ _ => ⟨rfl, e1, (by decide : 0 + 0 ≤ _), (by decide : 0 + 0 ≤ _)⟩)
  dsimp only [Pt.U, Pt.locs, Pt.cells, Pt.slots] at X2 l2 y2 z2 st2 hQ2
  subst l2 y2 z2
  obtain ⟨rfl, Nq2, e2⟩ := hQ2
  have N2 := Fr.app N1 Nq2
  refine Go.stp (fun t_ k_ => st2.trans k_) ?_
  show Go p.tables e below G (T2.setTop (mkF m 15 #[rv r0, rv r1, un, un, un] [(.int (1 : Int32))]))
  refine zsipush X2 hx (hb hby d10_15) (z := (200 : Int32)) rfl ?_
  refine zicmpYes X2 hx (pc' := 35) (hb hby d10_18) (flt (by decide : ¬ ((200 : Int32) < (1 : Int32)))).2.2.2 (by decide) (by decide) ?_
  refine ziconst X2 hx (hb hby d10_35) (z := (0 : Int32)) rfl ?_
  refine zistoreN X2 hx (l' := #[rv r0, rv r1, iv (0 : Int32), un, un]) (hb hby d10_36) rfl ?_
  refine ziloadN X2 hx (hb hby d10_37) rfl ?_
  refine zaloadN X2 hx (hb hby d10_38) rfl rfl ?_
  obtain ⟨cq3, kq3, q3a, q3b, q3c⟩ := isOf hZ e2 E_r1
  obtain ⟨_, _, ⟨T3, L3, k3, n3⟩, -, X3, ⟨Lc3, hQ3, l3, y3, z3⟩, st3⟩ := X2.virtualBack hx (y := yn14) (z := yn14) hown (mvT hZ (wm hw 77 rfl)) (mvT hZ (wm hw 78 rfl)) (notFace_of_selects (args := #[]) (mvT hZ (wm hw 80 rfl))) (mvT hZ (wm hw 80 rfl)) (mvT hZ (wm hw 79 rfl)) (by decide) (backOf (W := 1) (rm12 l Z a0 hw [] r1 va kc h0 n0 Z0 S_cs hkc E_r1 Fv_r1 Fc_r1 I_va) hZ (wm hw 81 rfl) (wm hw 5 rfl) (by decide) (by decide)) q3a q3c (g := (mkF m 39 #[rv r0, rv r1, iv (0 : Int32), un, un] [(.ref r1), (.int (0 : Int32))])) rfl (by rw [hml]; rfl) (Steps.refl _) (argsL := []) (rest := [(.int (0 : Int32))]) (lenOf pd_9 rfl) rfl (by show 2 * 0 + _ ≤ _; exact Nat.le_of_eq rfl) (hb hby d10_39) (fun _ _ => ⟨rfl, e2, (by decide : 0 + 0 ≤ _), (by decide : 0 + 0 ≤ _)⟩)
  dsimp only [Pt.U, Pt.locs, Pt.cells, Pt.slots] at X3 l3 y3 z3 st3 hQ3
  subst l3 y3 z3
  obtain ⟨rfl, Nq3, e3⟩ := hQ3
  have N3 := Fr.app N2 Nq3
  refine Go.stp (fun t_ k_ => st3.trans k_) ?_
  show Go p.tables e below G (T3.setTop (mkF m 42 #[rv r0, rv r1, iv (0 : Int32), un, un] [(.int (1 : Int32)), (.int (0 : Int32))]))
  refine zicmpNo X3 hx (hb hby d10_42) (tlt (by decide : (0 : Int32) < (1 : Int32))).2.1 ?_
  refine zaloadN X3 hx (hb hby d10_45) rfl rfl ?_
  refine ziloadN X3 hx (hb hby d10_46) rfl ?_
  obtain ⟨cq4, kq4, q4a, q4b, q4c⟩ := isOf hZ e3 E_r1
  obtain ⟨_, _, ⟨T4, L4, k4, n4⟩, -, X4, ⟨Lc4, hQ4, l4, y4, z4⟩, st4⟩ := X3.virtualBack hx (y := yn13) (z := yn13) hown (mvT hZ (wm hw 89 rfl)) (mvT hZ (wm hw 90 rfl)) (notFace_of_selects (args := #[]) (mvT hZ (wm hw 92 rfl))) (mvT hZ (wm hw 92 rfl)) (mvT hZ (wm hw 91 rfl)) (by decide) (backOf (W := 0) (rm14 l Z a0 hw [] r1 va kc sf h0 n0 Z0 S_cs hkc S_sf hsf E_r1 Fv_r1 Fc_r1 I_va) hZ (wm hw 93 rfl) (wm hw 5 rfl) (by decide) (by decide)) q4a q4c (g := (mkF m 47 #[rv r0, rv r1, iv (0 : Int32), un, un] [(.int (0 : Int32)), (.ref r1)])) rfl (by rw [hml]; rfl) (Steps.refl _) (argsL := [(.int (0 : Int32))]) (rest := []) (lenOf pd_10 rfl) rfl (by show 2 * 0 + _ ≤ _; exact Nat.le_of_eq rfl) (hb hby d10_47) (fun _ _ => ⟨rfl, e3, (by decide : 0 + 0 ≤ _), (by decide : 0 + 0 ≤ _)⟩)
  dsimp only [Pt.U, Pt.locs, Pt.cells, Pt.slots] at X4 l4 y4 z4 st4 hQ4
  subst l4 y4 z4
  obtain ⟨rfl, Nq4, e4⟩ := hQ4
  have N4 := Fr.app N3 Nq4
  refine Go.stp (fun t_ k_ => st4.trans k_) ?_
  show Go p.tables e below G (T4.setTop (mkF m 50 #[rv r0, rv r1, iv (0 : Int32), un, un] [(.int (99 : Int32))]))
  refine zistoreN X4 hx (l' := #[rv r0, rv r1, iv (0 : Int32), iv (99 : Int32), un]) (hb hby d10_50) rfl ?_
  refine ziloadN X4 hx (hb hby d10_51) rfl ?_
  refine zbipush X4 hx (hb hby d10_52) (z := (65 : Int32)) rfl ?_
  refine zicmpNo X4 hx (hb hby d10_54) (flt (by decide : ¬ ((99 : Int32) < (65 : Int32)))).1 ?_
  refine ziloadN X4 hx (hb hby d10_57) rfl ?_
  refine zbipush X4 hx (hb hby d10_58) (z := (90 : Int32)) rfl ?_
  refine zicmpNo X4 hx (hb hby d10_60) (tlt (by decide : (90 : Int32) < (99 : Int32))).2.2.2 ?_
  refine ziloadN X4 hx (hb hby d10_63) rfl ?_
  refine zbipush X4 hx (hb hby d10_64) (z := (97 : Int32)) rfl ?_
  refine zicmpNo X4 hx (hb hby d10_66) (flt (by decide : ¬ ((99 : Int32) < (97 : Int32)))).1 ?_
  refine ziloadN X4 hx (hb hby d10_69) rfl ?_
  refine zbipush X4 hx (hb hby d10_70) (z := (122 : Int32)) rfl ?_
  refine zicmpYes X4 hx (pc' := 105) (hb hby d10_72) (flt (by decide : ¬ ((122 : Int32) < (99 : Int32)))).2.2.2 (by decide) (by decide) ?_
  refine ziconst X4 hx (hb hby d10_105) (z := (1 : Int32)) rfl ?_
  refine zgoto X4 hx (pc' := 110) (hb hby d10_106) (by decide) (by decide) ?_
  refine zistore X4 hx (l' := #[rv r0, rv r1, iv (0 : Int32), iv (99 : Int32), iv (1 : Int32)]) (hb hby d10_110) rfl ?_
  refine ziload X4 hx (hb hby d10_112) rfl ?_
  refine zifYes X4 hx (pc' := 132) (hb hby d10_114) ((if0 _ _).trans (feq (by decide : ¬ ((1 : Int32) = (0 : Int32)))).2) (by decide) (by decide) ?_
  refine ziinc X4 hx (l' := #[rv r0, rv r1, iv ((0 : Int32) + (1 : Int32)), iv (99 : Int32), iv (1 : Int32)]) (hb hby d10_132) rfl rfl ?_
  refine zgoto X4 hx (pc' := 37) (hb hby d10_135) (by decide) (by decide) ?_
  refine ziloadN X4 hx (hb hby d10_37) rfl ?_
  refine zaloadN X4 hx (hb hby d10_38) rfl rfl ?_
  obtain ⟨cq5, kq5, q5a, q5b, q5c⟩ := isOf hZ e4 E_r1
  obtain ⟨_, _, ⟨T5, L5, k5, n5⟩, -, X5, ⟨Lc5, hQ5, l5, y5, z5⟩, st5⟩ := X4.virtualBack hx (y := yn14) (z := yn14) hown (mvT hZ (wm hw 77 rfl)) (mvT hZ (wm hw 78 rfl)) (notFace_of_selects (args := #[]) (mvT hZ (wm hw 80 rfl))) (mvT hZ (wm hw 80 rfl)) (mvT hZ (wm hw 79 rfl)) (by decide) (backOf (W := 1) (rm12 l Z a0 hw [] r1 va kc h0 n0 Z0 S_cs hkc E_r1 Fv_r1 Fc_r1 I_va) hZ (wm hw 81 rfl) (wm hw 5 rfl) (by decide) (by decide)) q5a q5c (g := (mkF m 39 #[rv r0, rv r1, iv ((0 : Int32) + (1 : Int32)), iv (99 : Int32), iv (1 : Int32)] [(.ref r1), (.int ((0 : Int32) + (1 : Int32)))])) rfl (by rw [hml]; rfl) (Steps.refl _) (argsL := []) (rest := [(.int ((0 : Int32) + (1 : Int32)))]) (lenOf pd_9 rfl) rfl (by show 2 * 0 + _ ≤ _; exact Nat.le_of_eq rfl) (hb hby d10_39) (fun _ _ => ⟨rfl, e4, (by decide : 0 + 0 ≤ _), (by decide : 0 + 0 ≤ _)⟩)
  dsimp only [Pt.U, Pt.locs, Pt.cells, Pt.slots] at X5 l5 y5 z5 st5 hQ5
  subst l5 y5 z5
  obtain ⟨rfl, Nq5, e5⟩ := hQ5
  have N5 := Fr.app N4 Nq5
  refine Go.stp (fun t_ k_ => st5.trans k_) ?_
  show Go p.tables e below G (T5.setTop (mkF m 42 #[rv r0, rv r1, iv ((0 : Int32) + (1 : Int32)), iv (99 : Int32), iv (1 : Int32)] [(.int (1 : Int32)), (.int ((0 : Int32) + (1 : Int32)))]))
  refine zicmpYes X5 hx (pc' := 138) (hb hby d10_42) (flt (by decide : ¬ (((0 : Int32) + (1 : Int32)) < (1 : Int32)))).2.1 (by decide) (by decide) ?_
  refine zaloadN X5 hx (hb hby d10_138) rfl rfl ?_
  refine zretR X5 hx rfl rfl hrt hlk (hb hby d10_139) e5 hG (by decide) (by decide) ?_
  exact ⟨rfl, N5, rfl⟩
theorem pn_19 : plainName "java/util/Objects" = true := by first | (simp [plainName, overriddenIn]; done) | decide +kernel
theorem d19_0 : decode cn17 0 = .ok (.aload_n 0, 1) := by decide +kernel
theorem d19_1 : decode cn17 1 = .ok (.ifnonnull 12, 3) := by decide +kernel
theorem d19_13 : decode cn17 13 = .ok (.aload_n 0, 1) := by decide +kernel
theorem d19_14 : decode cn17 14 = .ok (.areturn, 1) := by decide +kernel
theorem ef_19 (m : MethodId) (r0 : Addr) (r1 : Addr) : entryFrame m #[(.ref r0), (.ref r1)] 2 = mkF m 0 #[rv r0, rv r1] [] := by first | (simp [entryFrame, mkF, argsToLocals, Value.category, iv, rv, lv, un, sd]; done) | rfl
def Q19 (Z : State) (r0 : Addr) (r1 : Addr) (h0 : Heap) (n0 : Nat) (v : Option Value) (h : Heap) (L : List Loc) : Prop := v = some (.ref r0) ∧ Fr n0 L ∧ h = h0
set_option maxRecDepth 65536 in
set_option maxHeartbeats 40000000 in
theorem rm19 (l : Launch) (Z : State) (a0 : Array Value) (hw : ∀ d ∈ tables_1, d.before a0 Z = true) (ws : List Jvm.Cond) (r0 : Addr) (r1 : Addr) (h0 : Heap) (n0 : Nat) (Z0 : n0 ≤ h0.size) :
    Mzz l yn17 cn17 2 (some (.object "java/lang/Object")) ws (rk 0 0 0 0) #[(.ref r0), (.ref r1)] Z h0 (Q19 Z r0 r1 h0 n0) := by
  refine Mzz.go (own := "java/util/Objects") (nm := "requireNonNull") (L0 := #[rv r0, rv r1]) (plainFor_of_name pn_19) rfl rfl (fun m => ef_19 m r0 r1) ?_
  intro p e s m below meth c s₁ hx hby hml hown hnm X0 e0 hZ hrt hlk G hG
  have N0 := Fr.nil n0
  show Go p.tables e below G (s₁.setTop (mkF m 0 #[rv r0, rv r1] []))
  refine zaloadN X0 hx (hb hby d19_0) rfl rfl ?_
  refine zifnonnullYes X0 hx (pc' := 13) (hb hby d19_1) (by decide) (by decide) ?_
  refine zaloadN X0 hx (hb hby d19_13) rfl rfl ?_
  refine zretR X0 hx rfl rfl hrt hlk (hb hby d19_14) e0 hG (by decide) (by decide) ?_
  exact ⟨rfl, N0, rfl⟩
theorem pn_9 : plainName sn7 = true := by first | (simp [plainName, overriddenIn]; done) | decide +kernel
theorem d9_0 : decode cn18 0 = .ok (.aload_n 0, 1) := by decide +kernel
theorem d9_1 : decode cn18 1 = .ok (.invokespecial 1, 3) := by decide +kernel
theorem d9_4 : decode cn18 4 = .ok (.ldc 7, 2) := by decide +kernel
theorem d9_6 : decode cn18 6 = .ok (.aload_n 1, 1) := by decide +kernel
theorem d9_7 : decode cn18 7 = .ok (.invokestatic 9, 3) := by decide +kernel
theorem d9_10 : decode cn18 10 = .ok (.pop, 1) := by decide +kernel
theorem d9_11 : decode cn18 11 = .ok (.aload_n 2, 1) := by decide +kernel
theorem d9_12 : decode cn18 12 = .ok (.ldc 15, 2) := by decide +kernel
theorem d9_14 : decode cn18 14 = .ok (.invokestatic 17, 3) := by decide +kernel
theorem d9_17 : decode cn18 17 = .ok (.pop, 1) := by decide +kernel
theorem d9_18 : decode cn18 18 = .ok (.aload_n 3, 1) := by decide +kernel
theorem d9_19 : decode cn18 19 = .ok (.ldc 23, 2) := by decide +kernel
theorem d9_21 : decode cn18 21 = .ok (.invokestatic 17, 3) := by decide +kernel
theorem d9_24 : decode cn18 24 = .ok (.pop, 1) := by decide +kernel
theorem d9_25 : decode cn18 25 = .ok (.aload 7, 2) := by decide +kernel
theorem d9_27 : decode cn18 27 = .ok (.ldc 25, 2) := by decide +kernel
theorem d9_29 : decode cn18 29 = .ok (.invokestatic 17, 3) := by decide +kernel
theorem d9_32 : decode cn18 32 = .ok (.pop, 1) := by decide +kernel
theorem d9_33 : decode cn18 33 = .ok (.iload 4, 2) := by decide +kernel
theorem d9_35 : decode cn18 35 = .ok (.iconst 1, 1) := by decide +kernel
theorem d9_36 : decode cn18 36 = .ok (.if_icmp .ge 13, 3) := by decide +kernel
theorem d9_49 : decode cn18 49 = .ok (.lload 5, 2) := by decide +kernel
theorem d9_51 : decode cn18 51 = .ok (.ldc2_w 36, 3) := by decide +kernel
theorem d9_54 : decode cn18 54 = .ok (.lcmp, 1) := by decide +kernel
theorem d9_55 : decode cn18 55 = .ok (.ifCond .lt 12, 3) := by decide +kernel
theorem d9_58 : decode cn18 58 = .ok (.lload 5, 2) := by decide +kernel
theorem d9_60 : decode cn18 60 = .ok (.ldc2_w 38, 3) := by decide +kernel
theorem d9_63 : decode cn18 63 = .ok (.lcmp, 1) := by decide +kernel
theorem d9_64 : decode cn18 64 = .ok (.ifCond .le 13, 3) := by decide +kernel
theorem d9_77 : decode cn18 77 = .ok (.aload_n 0, 1) := by decide +kernel
theorem d9_78 : decode cn18 78 = .ok (.aload_n 1, 1) := by decide +kernel
theorem d9_79 : decode cn18 79 = .ok (.putfield 42, 3) := by decide +kernel
theorem d9_82 : decode cn18 82 = .ok (.aload_n 0, 1) := by decide +kernel
theorem d9_83 : decode cn18 83 = .ok (.aload_n 2, 1) := by decide +kernel
theorem d9_84 : decode cn18 84 = .ok (.putfield 46, 3) := by decide +kernel
theorem d9_87 : decode cn18 87 = .ok (.aload_n 0, 1) := by decide +kernel
theorem d9_88 : decode cn18 88 = .ok (.aload_n 3, 1) := by decide +kernel
theorem d9_89 : decode cn18 89 = .ok (.putfield 49, 3) := by decide +kernel
theorem d9_92 : decode cn18 92 = .ok (.aload_n 0, 1) := by decide +kernel
theorem d9_93 : decode cn18 93 = .ok (.iload 4, 2) := by decide +kernel
theorem d9_95 : decode cn18 95 = .ok (.putfield 52, 3) := by decide +kernel
theorem d9_98 : decode cn18 98 = .ok (.aload_n 0, 1) := by decide +kernel
theorem d9_99 : decode cn18 99 = .ok (.lload 5, 2) := by decide +kernel
theorem d9_101 : decode cn18 101 = .ok (.putfield 56, 3) := by decide +kernel
theorem d9_104 : decode cn18 104 = .ok (.aload_n 0, 1) := by decide +kernel
theorem d9_105 : decode cn18 105 = .ok (.aload 7, 2) := by decide +kernel
theorem d9_107 : decode cn18 107 = .ok (.putfield 60, 3) := by decide +kernel
theorem d9_110 : decode cn18 110 = .ok (.return_, 1) := by decide +kernel
theorem ef_9 (m : MethodId) (r0 : Addr) (r1 : Addr) (r2 : Addr) (r3 : Addr) (r7 : Addr) : entryFrame m #[(.ref r0), (.ref r1), (.ref r2), (.ref r3), (.int (1 : Int32)), (.long (30000 : Int64)), (.ref r7)] 8 = mkF m 0 #[rv r0, rv r1, rv r2, rv r3, iv (1 : Int32), lv (30000 : Int64), sd, rv r7] [] := by first | (simp [entryFrame, mkF, argsToLocals, Value.category, iv, rv, lv, un, sd]; done) | rfl
def Q9 (Z : State) (r0 : Addr) (r1 : Addr) (r2 : Addr) (r3 : Addr) (r7 : Addr) (va : Addr) (kc : Int32) (sf : Value) (h0 : Heap) (n0 : Nat) (v : Option Value) (h : Heap) (L : List Loc) : Prop := v = none ∧ Fr n0 L ∧ Keep h0 h [r0] ∧ Fld Z h r0 sn7 "leaseMs" "J" (.long (30000 : Int64))
set_option maxRecDepth 65536 in
set_option maxHeartbeats 40000000 in
theorem rm9 (l : Launch) (Z : State) (a0 : Array Value) (hw : ∀ d ∈ tables_1, d.before a0 Z = true) (ws : List Jvm.Cond) (r0 : Addr) (r1 : Addr) (r2 : Addr) (r3 : Addr) (r7 : Addr) (va : Addr) (kc : Int32) (sf : Value) (h0 : Heap) (n0 : Nat) (Z0 : n0 ≤ h0.size) (E_r0 : Exa Z h0 r0 sn7) (F_name : Fld Z h0 r0 sn7 "name" sn14 .null) (F_type : Fld Z h0 r0 sn7 "type" sn15 .null) (F_initialPosition : Fld Z h0 r0 sn7 "initialPosition" sn16 .null) (F_maxUnacked : Fld Z h0 r0 sn7 "maxUnacked" "I" (.int (0 : Int32))) (F_leaseMs : Fld Z h0 r0 sn7 "leaseMs" "J" (.long (0 : Int64))) (F_nackBackoff : Fld Z h0 r0 sn7 "nackBackoff" sn17 .null) (g_r0 : n0 ≤ r0) (S_cs : Sta Z h0 sn3 sn10 "Z" (.int kc)) (hkc : ¬ kc = (0 : Int32)) (S_sf : Sta Z h0 sn11 sn12 sn13 sf) (hsf : sf.isRef = true) (E_r1 : Exa Z h0 r1 sn3) (Fv_r1 : Fld Z h0 r1 sn3 "value" "[B" (.ref va)) (Fc_r1 : Fld Z h0 r1 sn3 "coder" "B" (.int (0 : Int32))) (I_va : Ia Z h0 va .byte 1 Value.int (fun _ => (99 : Int32))) (u10 : r1 ≠ r0) (u20 : va ≠ r0) :
    MetFree l yn18 (head1 (Jvm.Cond.code yn18 cn18 8 none :: ws) (rk 5 8 168 100)) (fun a U => a = #[(.ref r0), (.ref r1), (.ref r2), (.ref r3), (.int (1 : Int32)), (.long (30000 : Int64)), (.ref r7)] ∧ Z.Warmed39 U.vm ∧ U.heap = h0) (fun _ _ _ _ _ => True) (fun _ U o U' => ∃ v L, o = .returned v ∧ Q9 Z r0 r1 r2 r3 r7 va kc sf h0 n0 v U'.heap L ∧ ReturnedEndW U o U' L (rk 5 8 168 100).cells (rk 5 8 168 100).slots) := by
  refine MetFree.of_bodySF (plainFor_of_name pn_9) hisR ?_
  intro p e s m args below meth c s₁ Bd hml0 hP hK
  obtain ⟨rfl, hZ, hh⟩ := hP
  have hx := Bd.exec
  have hby := Bd.bytes
  have hml : c.maxLocals = 8 := hml0
  have hown : s.vm.findClass sn7 = some m.cls := findClass_of_methodNamed Bd.named
  have hnm := (name_of_methodNamed Bd.named Bd.method).1
  have X0 : Stand p l e (rk 5 8 168 100) s m #[(.ref r0), (.ref r1), (.ref r2), (.ref r3), (.int (1 : Int32)), (.long (30000 : Int64)), (.ref r7)] below meth c s₁ [] 0 0 := Stand.of_body Bd
  have e0 : s₁.heap = h0 := by rw [← hh, Bd.state]; rfl
  have N0 := Fr.nil n0
  suffices HH : ∀ G : Outcome → State → Prop, (∀ v L U', Q9 Z r0 r1 r2 r3 r7 va kc sf h0 n0 v U'.heap L → ReturnedEndW s (.returned v) U' L (rk 5 8 168 100).cells (rk 5 8 168 100).slots → G (.returned v) U') → Go p.tables e below G (s₁.setTop (mkF m 0 #[rv r0, rv r1, rv r2, rv r3, iv (1 : Int32), lv (30000 : Int64), sd, rv r7] [])) by
    obtain ⟨s2, o, h1, h2, h3, h4⟩ := HH (fun o U' => ∃ v L, o = .returned v ∧ Q9 Z r0 r1 r2 r3 r7 va kc sf h0 n0 v U'.heap L ∧ ReturnedEndW s o U' L (rk 5 8 168 100).cells (rk 5 8 168 100).slots) (fun v L U' q f => ⟨v, L, rfl, q, f⟩)
    exact ⟨s2, o, castTop (ef_9 m r0 r1 r2 r3 r7) h1, h2, h3, h4⟩
  intro G hG
  have K0 := Keep.refl h0 [r0]
  have hS0 : s.Since s.vm 0 := (State.WarmedH.refl s).since 0
  have hZ : Z.Warmed39 (s.setVm s.vm).vm := hZ
  have hown : (s.setVm s.vm).vm.findClass sn7 = some m.cls := hown
  have X0 : Stand p l e (rk 5 8 168 100) (s.setVm s.vm) m #[(.ref r0), (.ref r1), (.ref r2), (.ref r3), (.int (1 : Int32)), (.long (30000 : Int64)), (.ref r7)] below meth c s₁ [] 0 0 := X0
  have hk0 : Szk 0 h0 := Nat.zero_le _
  show Go p.tables e below G (s₁.setTop (mkF m 0 #[rv r0, rv r1, rv r2, rv r3, iv (1 : Int32), lv (30000 : Int64), sd, rv r7] []))
  refine zaloadN X0 hx (hb hby d9_0) rfl rfl ?_
  obtain ⟨_, _, ⟨T1, L1, k1, n1⟩, -, X1, ⟨Lc1, hQ1, l1, y1, z1⟩, st1⟩ := X0.specialBack hx (y := yn0) rfl hown (mvT hZ (wm hw 65 rfl)) (mvT hZ (wm hw 39 rfl)) (mvT hZ (wm hw 42 rfl)) (by decide) (backOf (W := 0) (rm5 l Z a0 hw [] r0  h0 n0 Z0 ) hZ (wm hw 42 rfl) (wm hw 41 rfl) (by decide) (by decide)) (g := (mkF m 1 #[rv r0, rv r1, rv r2, rv r3, iv (1 : Int32), lv (30000 : Int64), sd, rv r7] [(.ref r0)])) rfl (by rw [hml]; rfl) (Steps.refl _) (a := r0) (argsL := []) (rest := []) (lenOf pd_0 rfl) rfl (by show 2 * 0 + _ ≤ _; exact Nat.le_of_eq rfl) (hb hby d9_1) (fun _ _ => ⟨rfl, e0, (by decide : 0 + 0 ≤ _), (by decide : 0 + 0 ≤ _)⟩)
  dsimp only [Pt.U, Pt.locs, Pt.cells, Pt.slots] at X1 l1 y1 z1 st1 hQ1
  subst l1 y1 z1
  obtain ⟨rfl, Nq1, e1⟩ := hQ1
  have N1 := Fr.app N0 Nq1
  refine Go.stp (fun t_ k_ => st1.trans k_) ?_
  show Go p.tables e below G (T1.setTop (mkF m 4 #[rv r0, rv r1, rv r2, rv r3, iv (1 : Int32), lv (30000 : Int64), sd, rv r7] []))
  obtain ⟨b2, T2, h2, k2, X2, e2, E2, hS2, hk2, hZ, hown, st2⟩ := ldcS X1 hx hZ hown (wm hw 66 rfl) (own_sA hw) e1 hS0 hk0 (g := (mkF m 4 #[rv r0, rv r1, rv r2, rv r3, iv (1 : Int32), lv (30000 : Int64), sd, rv r7] [])) rfl (hb hby d9_4) (n := 32) (by decide) (by decide) (by decide) (by decide)
  have f3 := E_r0.ext E2
  have f4 := F_name.ext E2
  have f5 := F_type.ext E2
  have f6 := F_initialPosition.ext E2
  have f7 := F_maxUnacked.ext E2
  have f8 := F_leaseMs.ext E2
  have f9 := F_nackBackoff.ext E2
  have f10 := S_cs.ext E2
  have f11 := S_sf.ext E2
  have f12 := E_r1.ext E2
  have f13 := Fv_r1.ext E2
  have f14 := Fc_r1.ext E2
  have f15 := I_va.ext E2
  have Z2 : n0 ≤ h2.size := Nat.le_trans Z0 E2.1
  have K2 := K0.ext E2
  have hk2 : Szk k2 h2 := hk2
  refine Go.stp (fun t_ k_ => st2 t_ k_) ?_
  show Go p.tables e below G (T2.setTop (mkF m 6 #[rv r0, rv r1, rv r2, rv r3, iv (1 : Int32), lv (30000 : Int64), sd, rv r7] [(.ref b2)]))
  refine zaloadN X2 hx (hb hby d9_6) rfl rfl ?_
  obtain ⟨_, _, ⟨T16, L16, k16, n16⟩, -, X16, ⟨Lc16, hQ16, l16, y16, z16⟩, st16⟩ := Jvm.LawKit.callS X2 hx (y := yn16) hown (mvT hZ (wm hw 67 rfl)) (mvT hZ (wm hw 68 rfl)) (mvT hZ (wm hw 69 rfl)) (mvT hZ (wm hw 70 rfl)) (by decide) (backOf (W := 0) (rm10 l Z a0 hw [] b2 r1 va kc sf h2 n0 Z2 f10 hkc f11 hsf f12 f13 f14 f15) hZ (wm hw 70 rfl) (wm hw 69 rfl) (by decide) (by decide)) (g := (mkF m 7 #[rv r0, rv r1, rv r2, rv r3, iv (1 : Int32), lv (30000 : Int64), sd, rv r7] [(.ref r1), (.ref b2)])) rfl (by rw [hml]; rfl) (argsL := [(.ref b2), (.ref r1)]) (rest := []) (lenOf pd_11 rfl) rfl (by show 2 * 0 + _ ≤ _; exact Nat.le_of_eq rfl) (hb hby d9_7) (fun _ _ => ⟨rfl, e2, (by decide : 2 + 0 ≤ _), (by decide : 36 + 0 ≤ _)⟩)
  dsimp only [Pt.U, Pt.locs, Pt.cells, Pt.slots] at X16 l16 y16 z16 st16 hQ16
  subst l16 y16 z16
  obtain ⟨rfl, Nq16, e16⟩ := hQ16
  have N16 := Fr.app N1 Nq16
  refine Go.stp (fun t_ k_ => st16 t_ k_) ?_
  show Go p.tables e below G (T16.setTop (mkF m 10 #[rv r0, rv r1, rv r2, rv r3, iv (1 : Int32), lv (30000 : Int64), sd, rv r7] [(.ref r1)]))
  refine zpop X16 hx (hb hby d9_10) rfl ?_
  refine zaloadN X16 hx (hb hby d9_11) rfl rfl ?_
  obtain ⟨b17, T17, h17, k17, X17, e17, E17, hS17, hk17, hZ, hown, st17⟩ := ldcS X16 hx hZ hown (wm hw 111 rfl) (own_sA hw) e16 hS2 hk2 (g := (mkF m 12 #[rv r0, rv r1, rv r2, rv r3, iv (1 : Int32), lv (30000 : Int64), sd, rv r7] [(.ref r2)])) rfl (hb hby d9_12) (n := 16) (by decide) (by decide) (by decide) (by decide)
  have f18 := f3.ext E17
  have f19 := f4.ext E17
  have f20 := f5.ext E17
  have f21 := f6.ext E17
  have f22 := f7.ext E17
  have f23 := f8.ext E17
  have f24 := f9.ext E17
  have f25 := f10.ext E17
  have f26 := f11.ext E17
  have f27 := f12.ext E17
  have f28 := f13.ext E17
  have f29 := f14.ext E17
  have f30 := f15.ext E17
  have Z17 : n0 ≤ h17.size := Nat.le_trans Z2 E17.1
  have K17 := K2.ext E17
  have hk17 : Szk k17 h17 := hk17
  refine Go.stp (fun t_ k_ => st17 t_ k_) ?_
  show Go p.tables e below G (T17.setTop (mkF m 14 #[rv r0, rv r1, rv r2, rv r3, iv (1 : Int32), lv (30000 : Int64), sd, rv r7] [(.ref b17), (.ref r2)]))
  obtain ⟨_, _, ⟨T31, L31, k31, n31⟩, -, X31, ⟨Lc31, hQ31, l31, y31, z31⟩, st31⟩ := Jvm.LawKit.callS X17 hx (y := yn17) hown (mvT hZ (wm hw 112 rfl)) (mvT hZ (wm hw 113 rfl)) (mvT hZ (wm hw 114 rfl)) (mvT hZ (wm hw 115 rfl)) (by decide) (backOf (W := 0) (rm19 l Z a0 hw [] r2 b17  h17 n0 Z17 ) hZ (wm hw 115 rfl) (wm hw 114 rfl) (by decide) (by decide)) (g := (mkF m 14 #[rv r0, rv r1, rv r2, rv r3, iv (1 : Int32), lv (30000 : Int64), sd, rv r7] [(.ref b17), (.ref r2)])) rfl (by rw [hml]; rfl) (argsL := [(.ref r2), (.ref b17)]) (rest := []) (lenOf pd_12 rfl) rfl (by show 2 * 0 + _ ≤ _; exact Nat.le_of_eq rfl) (hb hby d9_14) (fun _ _ => ⟨rfl, e17, (by decide : 4 + 0 ≤ _), (by decide : 56 + 0 ≤ _)⟩)
  dsimp only [Pt.U, Pt.locs, Pt.cells, Pt.slots] at X31 l31 y31 z31 st31 hQ31
  subst l31 y31 z31
  obtain ⟨rfl, Nq31, e31⟩ := hQ31
  have N31 := Fr.app N16 Nq31
  refine Go.stp (fun t_ k_ => st31 t_ k_) ?_
  show Go p.tables e below G (T31.setTop (mkF m 17 #[rv r0, rv r1, rv r2, rv r3, iv (1 : Int32), lv (30000 : Int64), sd, rv r7] [(.ref r2)]))
  refine zpop X31 hx (hb hby d9_17) rfl ?_
  refine zaloadN X31 hx (hb hby d9_18) rfl rfl ?_
  obtain ⟨b32, T32, h32, k32, X32, e32, E32, hS32, hk32, hZ, hown, st32⟩ := ldcS X31 hx hZ hown (wm hw 116 rfl) (own_sA hw) e31 hS17 hk17 (g := (mkF m 19 #[rv r0, rv r1, rv r2, rv r3, iv (1 : Int32), lv (30000 : Int64), sd, rv r7] [(.ref r3)])) rfl (hb hby d9_19) (n := 60) (by decide) (by decide) (by decide) (by decide)
  have f33 := f18.ext E32
  have f34 := f19.ext E32
  have f35 := f20.ext E32
  have f36 := f21.ext E32
  have f37 := f22.ext E32
  have f38 := f23.ext E32
  have f39 := f24.ext E32
  have f40 := f25.ext E32
  have f41 := f26.ext E32
  have f42 := f27.ext E32
  have f43 := f28.ext E32
  have f44 := f29.ext E32
  have f45 := f30.ext E32
  have Z32 : n0 ≤ h32.size := Nat.le_trans Z17 E32.1
  have K32 := K17.ext E32
  have hk32 : Szk k32 h32 := hk32
  refine Go.stp (fun t_ k_ => st32 t_ k_) ?_
  show Go p.tables e below G (T32.setTop (mkF m 21 #[rv r0, rv r1, rv r2, rv r3, iv (1 : Int32), lv (30000 : Int64), sd, rv r7] [(.ref b32), (.ref r3)]))
  obtain ⟨_, _, ⟨T46, L46, k46, n46⟩, -, X46, ⟨Lc46, hQ46, l46, y46, z46⟩, st46⟩ := Jvm.LawKit.callS X32 hx (y := yn17) hown (mvT hZ (wm hw 112 rfl)) (mvT hZ (wm hw 113 rfl)) (mvT hZ (wm hw 114 rfl)) (mvT hZ (wm hw 115 rfl)) (by decide) (backOf (W := 0) (rm19 l Z a0 hw [] r3 b32  h32 n0 Z32 ) hZ (wm hw 115 rfl) (wm hw 114 rfl) (by decide) (by decide)) (g := (mkF m 21 #[rv r0, rv r1, rv r2, rv r3, iv (1 : Int32), lv (30000 : Int64), sd, rv r7] [(.ref b32), (.ref r3)])) rfl (by rw [hml]; rfl) (argsL := [(.ref r3), (.ref b32)]) (rest := []) (lenOf pd_12 rfl) rfl (by show 2 * 0 + _ ≤ _; exact Nat.le_of_eq rfl) (hb hby d9_21) (fun _ _ => ⟨rfl, e32, (by decide : 6 + 0 ≤ _), (by decide : 120 + 0 ≤ _)⟩)
  dsimp only [Pt.U, Pt.locs, Pt.cells, Pt.slots] at X46 l46 y46 z46 st46 hQ46
  subst l46 y46 z46
  obtain ⟨rfl, Nq46, e46⟩ := hQ46
  have N46 := Fr.app N31 Nq46
  refine Go.stp (fun t_ k_ => st46 t_ k_) ?_
  show Go p.tables e below G (T46.setTop (mkF m 24 #[rv r0, rv r1, rv r2, rv r3, iv (1 : Int32), lv (30000 : Int64), sd, rv r7] [(.ref r3)]))
  refine zpop X46 hx (hb hby d9_24) rfl ?_
  refine zaload X46 hx (hb hby d9_25) rfl rfl ?_
  obtain ⟨b47, T47, h47, k47, X47, e47, E47, hS47, hk47, hZ, hown, st47⟩ := ldcS X46 hx hZ hown (wm hw 117 rfl) (own_sA hw) e46 hS32 hk32 (g := (mkF m 27 #[rv r0, rv r1, rv r2, rv r3, iv (1 : Int32), lv (30000 : Int64), sd, rv r7] [(.ref r7)])) rfl (hb hby d9_27) (n := 44) (by decide) (by decide) (by decide) (by decide)
  have f48 := f33.ext E47
  have f49 := f34.ext E47
  have f50 := f35.ext E47
  have f51 := f36.ext E47
  have f52 := f37.ext E47
  have f53 := f38.ext E47
  have f54 := f39.ext E47
  have f55 := f40.ext E47
  have f56 := f41.ext E47
  have f57 := f42.ext E47
  have f58 := f43.ext E47
  have f59 := f44.ext E47
  have f60 := f45.ext E47
  have Z47 : n0 ≤ h47.size := Nat.le_trans Z32 E47.1
  have K47 := K32.ext E47
  have hk47 : Szk k47 h47 := hk47
  refine Go.stp (fun t_ k_ => st47 t_ k_) ?_
  show Go p.tables e below G (T47.setTop (mkF m 29 #[rv r0, rv r1, rv r2, rv r3, iv (1 : Int32), lv (30000 : Int64), sd, rv r7] [(.ref b47), (.ref r7)]))
  obtain ⟨_, _, ⟨T61, L61, k61, n61⟩, -, X61, ⟨Lc61, hQ61, l61, y61, z61⟩, st61⟩ := Jvm.LawKit.callS X47 hx (y := yn17) hown (mvT hZ (wm hw 112 rfl)) (mvT hZ (wm hw 113 rfl)) (mvT hZ (wm hw 114 rfl)) (mvT hZ (wm hw 115 rfl)) (by decide) (backOf (W := 0) (rm19 l Z a0 hw [] r7 b47  h47 n0 Z47 ) hZ (wm hw 115 rfl) (wm hw 114 rfl) (by decide) (by decide)) (g := (mkF m 29 #[rv r0, rv r1, rv r2, rv r3, iv (1 : Int32), lv (30000 : Int64), sd, rv r7] [(.ref b47), (.ref r7)])) rfl (by rw [hml]; rfl) (argsL := [(.ref r7), (.ref b47)]) (rest := []) (lenOf pd_12 rfl) rfl (by show 2 * 0 + _ ≤ _; exact Nat.le_of_eq rfl) (hb hby d9_29) (fun _ _ => ⟨rfl, e47, (by decide : 8 + 0 ≤ _), (by decide : 168 + 0 ≤ _)⟩)
  dsimp only [Pt.U, Pt.locs, Pt.cells, Pt.slots] at X61 l61 y61 z61 st61 hQ61
  subst l61 y61 z61
  obtain ⟨rfl, Nq61, e61⟩ := hQ61
  have N61 := Fr.app N46 Nq61
  refine Go.stp (fun t_ k_ => st61 t_ k_) ?_
  show Go p.tables e below G (T61.setTop (mkF m 32 #[rv r0, rv r1, rv r2, rv r3, iv (1 : Int32), lv (30000 : Int64), sd, rv r7] [(.ref r7)]))
  refine zpop X61 hx (hb hby d9_32) rfl ?_
  refine ziload X61 hx (hb hby d9_33) rfl ?_
  refine ziconst X61 hx (hb hby d9_35) (z := (1 : Int32)) rfl ?_
  refine zicmpYes X61 hx (pc' := 49) (hb hby d9_36) (flt (by decide : ¬ ((1 : Int32) < (1 : Int32)))).2.1 (by decide) (by decide) ?_
  refine zlload X61 hx (hb hby d9_49) rfl ?_
  refine Go.stp (fun t_ k_ => X61.ldc2Long hx hown (mvT hZ (wm hw 118 rfl)) (g := (mkF m 51 #[rv r0, rv r1, rv r2, rv r3, iv (1 : Int32), lv (30000 : Int64), sd, rv r7] [(.long (30000 : Int64))])) rfl (hb hby d9_51) t_ k_) ?_
  show Go p.tables e below G (T61.setTop (mkF m 54 #[rv r0, rv r1, rv r2, rv r3, iv (1 : Int32), lv (30000 : Int64), sd, rv r7] [(.long (1000 : Int64)), (.long (30000 : Int64))]))
  refine zlcmp X61 hx (hb hby d9_54) (z := (lcmpW (30000 : Int64) (1000 : Int64))) rfl ?_
  refine zifNo X61 hx (hb hby d9_55) ((if0 _ _).trans (flt (fun q => (by decide : ¬ ((30000 : Int64) < (1000 : Int64))) ((lw_lt (30000 : Int64) (1000 : Int64)).mp q))).1) ?_
  refine zlload X61 hx (hb hby d9_58) rfl ?_
  refine Go.stp (fun t_ k_ => X61.ldc2Long hx hown (mvT hZ (wm hw 119 rfl)) (g := (mkF m 60 #[rv r0, rv r1, rv r2, rv r3, iv (1 : Int32), lv (30000 : Int64), sd, rv r7] [(.long (30000 : Int64))])) rfl (hb hby d9_60) t_ k_) ?_
  show Go p.tables e below G (T61.setTop (mkF m 63 #[rv r0, rv r1, rv r2, rv r3, iv (1 : Int32), lv (30000 : Int64), sd, rv r7] [(.long (3600000 : Int64)), (.long (30000 : Int64))]))
  refine zlcmp X61 hx (hb hby d9_63) (z := (lcmpW (30000 : Int64) (3600000 : Int64))) rfl ?_
  refine zifYes X61 hx (pc' := 77) (hb hby d9_64) ((if0 _ _).trans (flt (fun q => (by decide : ¬ ((3600000 : Int64) < (30000 : Int64))) ((lw_gt (30000 : Int64) (3600000 : Int64)).mp q))).2.2.2) (by decide) (by decide) ?_
  refine zaloadN X61 hx (hb hby d9_77) rfl rfl ?_
  refine zaloadN X61 hx (hb hby d9_78) rfl rfl ?_
  refine zputF X61 hx hZ hown (wm hw 120 rfl) e61 f49 f48 (Or.inr ⟨(wm hw 121 rfl), rfl, hnm⟩) (wm hw 13 rfl) (ty := (.object sn3)) (by decide) rfl rfl (hb hby d9_79) (fun T62 h62 X62 e62 W62 => ?_)
  have f63 := f49.same W62
  have f64 := f48.wr W62
  have f65 := f50.other W62 (Or.inr (slot_ne (Or.inr (wm hw 123 rfl)) (Or.inr (wm hw 121 rfl)) (by decide) (t := (.object sn5)) (t' := (.object sn3)) (by decide) (by decide)))
  have f66 := f51.other W62 (Or.inr (slot_ne (Or.inr (wm hw 125 rfl)) (Or.inr (wm hw 121 rfl)) (by decide) (t := (.object sn6)) (t' := (.object sn3)) (by decide) (by decide)))
  have f67 := f52.other W62 (Or.inr (slot_ne (Or.inr (wm hw 127 rfl)) (Or.inr (wm hw 121 rfl)) (by decide) (t := .int) (t' := (.object sn3)) (by decide) (by decide)))
  have f68 := f53.other W62 (Or.inr (slot_ne (Or.inr (wm hw 129 rfl)) (Or.inr (wm hw 121 rfl)) (by decide) (t := .long) (t' := (.object sn3)) (by decide) (by decide)))
  have f69 := f54.other W62 (Or.inr (slot_ne (Or.inr (wm hw 131 rfl)) (Or.inr (wm hw 121 rfl)) (by decide) (t := (.object sn4)) (t' := (.object sn3)) (by decide) (by decide)))
  have f70 := f55.wr W62
  have f71 := f56.wr W62
  have f72 := f57.wr W62
  have f73 := f58.other W62 (Or.inl u10)
  have f74 := f59.other W62 (Or.inl u10)
  have f75 := f60.other W62 u20
  have f76 := hk47.wr W62
  have N62 := Fr.snoc X62 N61 g_r0
  have K62 := K47.wr W62 (Or.inl (List.mem_of_getElem? (i := 0) rfl))
  have Z62 := Nat.le_trans Z47 (Keep.of_wr W62).1
  refine zaloadN X62 hx (hb hby d9_82) rfl rfl ?_
  refine zaloadN X62 hx (hb hby d9_83) rfl rfl ?_
  refine zputF X62 hx hZ hown (wm hw 122 rfl) e62 f65 f64 (Or.inr ⟨(wm hw 123 rfl), rfl, hnm⟩) (wm hw 13 rfl) (ty := (.object sn5)) (by decide) rfl rfl (hb hby d9_84) (fun T77 h77 X77 e77 W77 => ?_)
  have f78 := f65.same W77
  have f79 := f64.wr W77
  have f80 := f66.other W77 (Or.inr (slot_ne (Or.inr (wm hw 125 rfl)) (Or.inr (wm hw 123 rfl)) (by decide) (t := (.object sn6)) (t' := (.object sn5)) (by decide) (by decide)))
  have f81 := f67.other W77 (Or.inr (slot_ne (Or.inr (wm hw 127 rfl)) (Or.inr (wm hw 123 rfl)) (by decide) (t := .int) (t' := (.object sn5)) (by decide) (by decide)))
  have f82 := f68.other W77 (Or.inr (slot_ne (Or.inr (wm hw 129 rfl)) (Or.inr (wm hw 123 rfl)) (by decide) (t := .long) (t' := (.object sn5)) (by decide) (by decide)))
  have f83 := f69.other W77 (Or.inr (slot_ne (Or.inr (wm hw 131 rfl)) (Or.inr (wm hw 123 rfl)) (by decide) (t := (.object sn4)) (t' := (.object sn5)) (by decide) (by decide)))
  have f84 := f70.wr W77
  have f85 := f71.wr W77
  have f86 := f72.wr W77
  have f87 := f73.other W77 (Or.inl u10)
  have f88 := f74.other W77 (Or.inl u10)
  have f89 := f75.other W77 u20
  have f90 := f76.wr W77
  have f91 := f63.other W77 (Or.inr (slot_ne (Or.inr (wm hw 121 rfl)) (Or.inr (wm hw 123 rfl)) (by decide) (t := (.object sn3)) (t' := (.object sn5)) (by decide) (by decide)))
  have N77 := Fr.snoc X77 N62 g_r0
  have K77 := K62.wr W77 (Or.inl (List.mem_of_getElem? (i := 0) rfl))
  have Z77 := Nat.le_trans Z62 (Keep.of_wr W77).1
  refine zaloadN X77 hx (hb hby d9_87) rfl rfl ?_
  refine zaloadN X77 hx (hb hby d9_88) rfl rfl ?_
  refine zputF X77 hx hZ hown (wm hw 124 rfl) e77 f80 f79 (Or.inr ⟨(wm hw 125 rfl), rfl, hnm⟩) (wm hw 13 rfl) (ty := (.object sn6)) (by decide) rfl rfl (hb hby d9_89) (fun T92 h92 X92 e92 W92 => ?_)
  have f93 := f80.same W92
  have f94 := f79.wr W92
  have f95 := f81.other W92 (Or.inr (slot_ne (Or.inr (wm hw 127 rfl)) (Or.inr (wm hw 125 rfl)) (by decide) (t := .int) (t' := (.object sn6)) (by decide) (by decide)))
  have f96 := f82.other W92 (Or.inr (slot_ne (Or.inr (wm hw 129 rfl)) (Or.inr (wm hw 125 rfl)) (by decide) (t := .long) (t' := (.object sn6)) (by decide) (by decide)))
  have f97 := f83.other W92 (Or.inr (slot_ne (Or.inr (wm hw 131 rfl)) (Or.inr (wm hw 125 rfl)) (by decide) (t := (.object sn4)) (t' := (.object sn6)) (by decide) (by decide)))
  have f98 := f84.wr W92
  have f99 := f85.wr W92
  have f100 := f86.wr W92
  have f101 := f87.other W92 (Or.inl u10)
  have f102 := f88.other W92 (Or.inl u10)
  have f103 := f89.other W92 u20
  have f104 := f90.wr W92
  have f105 := f91.other W92 (Or.inr (slot_ne (Or.inr (wm hw 121 rfl)) (Or.inr (wm hw 125 rfl)) (by decide) (t := (.object sn3)) (t' := (.object sn6)) (by decide) (by decide)))
  have f106 := f78.other W92 (Or.inr (slot_ne (Or.inr (wm hw 123 rfl)) (Or.inr (wm hw 125 rfl)) (by decide) (t := (.object sn5)) (t' := (.object sn6)) (by decide) (by decide)))
  have N92 := Fr.snoc X92 N77 g_r0
  have K92 := K77.wr W92 (Or.inl (List.mem_of_getElem? (i := 0) rfl))
  have Z92 := Nat.le_trans Z77 (Keep.of_wr W92).1
  refine zaloadN X92 hx (hb hby d9_92) rfl rfl ?_
  refine ziload X92 hx (hb hby d9_93) rfl ?_
  refine zputF X92 hx hZ hown (wm hw 126 rfl) e92 f95 f94 (Or.inr ⟨(wm hw 127 rfl), rfl, hnm⟩) (wm hw 13 rfl) (ty := .int) (by decide) rfl rfl (hb hby d9_95) (fun T107 h107 X107 e107 W107 => ?_)
  have f108 := f95.same W107
  have f109 := f94.wr W107
  have f110 := f96.other W107 (Or.inr (slot_ne (Or.inr (wm hw 129 rfl)) (Or.inr (wm hw 127 rfl)) (by decide) (t := .long) (t' := .int) (by decide) (by decide)))
  have f111 := f97.other W107 (Or.inr (slot_ne (Or.inr (wm hw 131 rfl)) (Or.inr (wm hw 127 rfl)) (by decide) (t := (.object sn4)) (t' := .int) (by decide) (by decide)))
  have f112 := f98.wr W107
  have f113 := f99.wr W107
  have f114 := f100.wr W107
  have f115 := f101.other W107 (Or.inl u10)
  have f116 := f102.other W107 (Or.inl u10)
  have f117 := f103.other W107 u20
  have f118 := f104.wr W107
  have f119 := f105.other W107 (Or.inr (slot_ne (Or.inr (wm hw 121 rfl)) (Or.inr (wm hw 127 rfl)) (by decide) (t := (.object sn3)) (t' := .int) (by decide) (by decide)))
  have f120 := f106.other W107 (Or.inr (slot_ne (Or.inr (wm hw 123 rfl)) (Or.inr (wm hw 127 rfl)) (by decide) (t := (.object sn5)) (t' := .int) (by decide) (by decide)))
  have f121 := f93.other W107 (Or.inr (slot_ne (Or.inr (wm hw 125 rfl)) (Or.inr (wm hw 127 rfl)) (by decide) (t := (.object sn6)) (t' := .int) (by decide) (by decide)))
  have N107 := Fr.snoc X107 N92 g_r0
  have K107 := K92.wr W107 (Or.inl (List.mem_of_getElem? (i := 0) rfl))
  have Z107 := Nat.le_trans Z92 (Keep.of_wr W107).1
  refine zaloadN X107 hx (hb hby d9_98) rfl rfl ?_
  refine zlload X107 hx (hb hby d9_99) rfl ?_
  refine zputF X107 hx hZ hown (wm hw 128 rfl) e107 f110 f109 (Or.inr ⟨(wm hw 129 rfl), rfl, hnm⟩) (wm hw 13 rfl) (ty := .long) (by decide) rfl rfl (hb hby d9_101) (fun T122 h122 X122 e122 W122 => ?_)
  have f123 := f110.same W122
  have f124 := f109.wr W122
  have f125 := f111.other W122 (Or.inr (slot_ne (Or.inr (wm hw 131 rfl)) (Or.inr (wm hw 129 rfl)) (by decide) (t := (.object sn4)) (t' := .long) (by decide) (by decide)))
  have f126 := f112.wr W122
  have f127 := f113.wr W122
  have f128 := f114.wr W122
  have f129 := f115.other W122 (Or.inl u10)
  have f130 := f116.other W122 (Or.inl u10)
  have f131 := f117.other W122 u20
  have f132 := f118.wr W122
  have f133 := f119.other W122 (Or.inr (slot_ne (Or.inr (wm hw 121 rfl)) (Or.inr (wm hw 129 rfl)) (by decide) (t := (.object sn3)) (t' := .long) (by decide) (by decide)))
  have f134 := f120.other W122 (Or.inr (slot_ne (Or.inr (wm hw 123 rfl)) (Or.inr (wm hw 129 rfl)) (by decide) (t := (.object sn5)) (t' := .long) (by decide) (by decide)))
  have f135 := f121.other W122 (Or.inr (slot_ne (Or.inr (wm hw 125 rfl)) (Or.inr (wm hw 129 rfl)) (by decide) (t := (.object sn6)) (t' := .long) (by decide) (by decide)))
  have f136 := f108.other W122 (Or.inr (slot_ne (Or.inr (wm hw 127 rfl)) (Or.inr (wm hw 129 rfl)) (by decide) (t := .int) (t' := .long) (by decide) (by decide)))
  have N122 := Fr.snoc X122 N107 g_r0
  have K122 := K107.wr W122 (Or.inl (List.mem_of_getElem? (i := 0) rfl))
  have Z122 := Nat.le_trans Z107 (Keep.of_wr W122).1
  refine zaloadN X122 hx (hb hby d9_104) rfl rfl ?_
  refine zaload X122 hx (hb hby d9_105) rfl rfl ?_
  refine zputF X122 hx hZ hown (wm hw 130 rfl) e122 f125 f124 (Or.inr ⟨(wm hw 131 rfl), rfl, hnm⟩) (wm hw 13 rfl) (ty := (.object sn4)) (by decide) rfl rfl (hb hby d9_107) (fun T137 h137 X137 e137 W137 => ?_)
  have f138 := f125.same W137
  have f139 := f124.wr W137
  have f140 := f126.wr W137
  have f141 := f127.wr W137
  have f142 := f128.wr W137
  have f143 := f129.other W137 (Or.inl u10)
  have f144 := f130.other W137 (Or.inl u10)
  have f145 := f131.other W137 u20
  have f146 := f132.wr W137
  have f147 := f133.other W137 (Or.inr (slot_ne (Or.inr (wm hw 121 rfl)) (Or.inr (wm hw 131 rfl)) (by decide) (t := (.object sn3)) (t' := (.object sn4)) (by decide) (by decide)))
  have f148 := f134.other W137 (Or.inr (slot_ne (Or.inr (wm hw 123 rfl)) (Or.inr (wm hw 131 rfl)) (by decide) (t := (.object sn5)) (t' := (.object sn4)) (by decide) (by decide)))
  have f149 := f135.other W137 (Or.inr (slot_ne (Or.inr (wm hw 125 rfl)) (Or.inr (wm hw 131 rfl)) (by decide) (t := (.object sn6)) (t' := (.object sn4)) (by decide) (by decide)))
  have f150 := f136.other W137 (Or.inr (slot_ne (Or.inr (wm hw 127 rfl)) (Or.inr (wm hw 131 rfl)) (by decide) (t := .int) (t' := (.object sn4)) (by decide) (by decide)))
  have f151 := f123.other W137 (Or.inr (slot_ne (Or.inr (wm hw 129 rfl)) (Or.inr (wm hw 131 rfl)) (by decide) (t := .long) (t' := (.object sn4)) (by decide) (by decide)))
  have N137 := Fr.snoc X137 N122 g_r0
  have K137 := K122.wr W137 (Or.inl (List.mem_of_getElem? (i := 0) rfl))
  have Z137 := Nat.le_trans Z122 (Keep.of_wr W137).1
  obtain ⟨fs, hr, hrun, hended, hEnd⟩ := X137.leaveW hS47 (by rw [e137]; exact f146) (v := none) (fun _ => rfl)
  refine ⟨_, _, X137.returnOut hx Bd.returns (hb hby d9_110) hr, hrun, hended, hG _ _ _ ?_ ⟨hEnd.1, hEnd.2.1, hEnd.2.2.1, hEnd.2.2.2.mono (by decide) (by decide)⟩⟩
  show Q9 Z r0 r1 r2 r3 r7 va kc sf h0 n0 _ T137.heap _
  rw [e137]
  exact ⟨rfl, N137, K137, f151⟩
theorem d2_0 : decode cn19 0 = .ok (.aload_n 0, 1) := by decide +kernel
theorem d2_1 : decode cn19 1 = .ok (.aload_n 1, 1) := by decide +kernel
theorem d2_2 : decode cn19 2 = .ok (.aload_n 2, 1) := by decide +kernel
theorem d2_3 : decode cn19 3 = .ok (.aload_n 3, 1) := by decide +kernel
theorem d2_4 : decode cn19 4 = .ok (.iload 4, 2) := by decide +kernel
theorem d2_6 : decode cn19 6 = .ok (.lload 5, 2) := by decide +kernel
theorem d2_8 : decode cn19 8 = .ok (.ldc2_w 65, 3) := by decide +kernel
theorem d2_11 : decode cn19 11 = .ok (.invokestatic 67, 3) := by decide +kernel
theorem d2_14 : decode cn19 14 = .ok (.invokespecial 71, 3) := by decide +kernel
theorem d2_17 : decode cn19 17 = .ok (.return_, 1) := by decide +kernel
theorem ef_2 (m : MethodId) (r0 : Addr) (r1 : Addr) (r2 : Addr) (r3 : Addr) : entryFrame m #[(.ref r0), (.ref r1), (.ref r2), (.ref r3), (.int (1 : Int32)), (.long (30000 : Int64))] 7 = mkF m 0 #[rv r0, rv r1, rv r2, rv r3, iv (1 : Int32), lv (30000 : Int64), sd] [] := by first | (simp [entryFrame, mkF, argsToLocals, Value.category, iv, rv, lv, un, sd]; done) | rfl
def Q2 (Z : State) (r0 : Addr) (r1 : Addr) (r2 : Addr) (r3 : Addr) (va : Addr) (kc : Int32) (sf : Value) (h0 : Heap) (n0 : Nat) (v : Option Value) (h : Heap) (L : List Loc) : Prop := v = none ∧ Fr n0 L ∧ Keep h0 h [r0] ∧ Fld Z h r0 sn7 "leaseMs" "J" (.long (30000 : Int64))
set_option maxRecDepth 65536 in
set_option maxHeartbeats 40000000 in
theorem rm2 (l : Launch) (Z : State) (a0 : Array Value) (hw : ∀ d ∈ tables_1, d.before a0 Z = true) (ws : List Jvm.Cond) (r0 : Addr) (r1 : Addr) (r2 : Addr) (r3 : Addr) (va : Addr) (kc : Int32) (sf : Value) (h0 : Heap) (n0 : Nat) (Z0 : n0 ≤ h0.size) (E_r0 : Exa Z h0 r0 sn7) (F_name : Fld Z h0 r0 sn7 "name" sn14 .null) (F_type : Fld Z h0 r0 sn7 "type" sn15 .null) (F_initialPosition : Fld Z h0 r0 sn7 "initialPosition" sn16 .null) (F_maxUnacked : Fld Z h0 r0 sn7 "maxUnacked" "I" (.int (0 : Int32))) (F_leaseMs : Fld Z h0 r0 sn7 "leaseMs" "J" (.long (0 : Int64))) (F_nackBackoff : Fld Z h0 r0 sn7 "nackBackoff" sn17 .null) (g_r0 : n0 ≤ r0) (S_cs : Sta Z h0 sn3 sn10 "Z" (.int kc)) (hkc : ¬ kc = (0 : Int32)) (S_sf : Sta Z h0 sn11 sn12 sn13 sf) (hsf : sf.isRef = true) (E_r1 : Exa Z h0 r1 sn3) (Fv_r1 : Fld Z h0 r1 sn3 "value" "[B" (.ref va)) (Fc_r1 : Fld Z h0 r1 sn3 "coder" "B" (.int (0 : Int32))) (I_va : Ia Z h0 va .byte 1 Value.int (fun _ => (99 : Int32))) (u10 : r1 ≠ r0) (u20 : va ≠ r0) :
    MetFree l yn19 (head1 (Jvm.Cond.code yn19 cn19 7 none :: ws) (rk 6 9 171 125)) (fun a U => a = #[(.ref r0), (.ref r1), (.ref r2), (.ref r3), (.int (1 : Int32)), (.long (30000 : Int64))] ∧ Z.Warmed39 U.vm ∧ U.heap = h0) (fun _ _ _ _ _ => True) (fun _ U o U' => ∃ v L, o = .returned v ∧ Q2 Z r0 r1 r2 r3 va kc sf h0 n0 v U'.heap L ∧ ReturnedEndW U o U' L (rk 6 9 171 125).cells (rk 6 9 171 125).slots) := by
  refine MetFree.of_bodySF (plainFor_of_name pn_9) hisR ?_
  intro p e s m args below meth c s₁ Bd hml0 hP hK
  obtain ⟨rfl, hZ, hh⟩ := hP
  have hx := Bd.exec
  have hby := Bd.bytes
  have hml : c.maxLocals = 7 := hml0
  have hown : s.vm.findClass sn7 = some m.cls := findClass_of_methodNamed Bd.named
  have hnm := (name_of_methodNamed Bd.named Bd.method).1
  have X0 : Stand p l e (rk 6 9 171 125) s m #[(.ref r0), (.ref r1), (.ref r2), (.ref r3), (.int (1 : Int32)), (.long (30000 : Int64))] below meth c s₁ [] 0 0 := Stand.of_body Bd
  have e0 : s₁.heap = h0 := by rw [← hh, Bd.state]; rfl
  have N0 := Fr.nil n0
  suffices HH : ∀ G : Outcome → State → Prop, (∀ v L U', Q2 Z r0 r1 r2 r3 va kc sf h0 n0 v U'.heap L → ReturnedEndW s (.returned v) U' L (rk 6 9 171 125).cells (rk 6 9 171 125).slots → G (.returned v) U') → Go p.tables e below G (s₁.setTop (mkF m 0 #[rv r0, rv r1, rv r2, rv r3, iv (1 : Int32), lv (30000 : Int64), sd] [])) by
    obtain ⟨s2, o, h1, h2, h3, h4⟩ := HH (fun o U' => ∃ v L, o = .returned v ∧ Q2 Z r0 r1 r2 r3 va kc sf h0 n0 v U'.heap L ∧ ReturnedEndW s o U' L (rk 6 9 171 125).cells (rk 6 9 171 125).slots) (fun v L U' q f => ⟨v, L, rfl, q, f⟩)
    exact ⟨s2, o, castTop (ef_2 m r0 r1 r2 r3) h1, h2, h3, h4⟩
  intro G hG
  have K0 := Keep.refl h0 [r0]
  have hS0 : s.Since s.vm 0 := (State.WarmedH.refl s).since 0
  have hZ : Z.Warmed39 (s.setVm s.vm).vm := hZ
  have hown : (s.setVm s.vm).vm.findClass sn7 = some m.cls := hown
  have X0 : Stand p l e (rk 6 9 171 125) (s.setVm s.vm) m #[(.ref r0), (.ref r1), (.ref r2), (.ref r3), (.int (1 : Int32)), (.long (30000 : Int64))] below meth c s₁ [] 0 0 := X0
  have hk0 : Szk 0 h0 := Nat.zero_le _
  show Go p.tables e below G (s₁.setTop (mkF m 0 #[rv r0, rv r1, rv r2, rv r3, iv (1 : Int32), lv (30000 : Int64), sd] []))
  refine zaloadN X0 hx (hb hby d2_0) rfl rfl ?_
  refine zaloadN X0 hx (hb hby d2_1) rfl rfl ?_
  refine zaloadN X0 hx (hb hby d2_2) rfl rfl ?_
  refine zaloadN X0 hx (hb hby d2_3) rfl rfl ?_
  refine ziload X0 hx (hb hby d2_4) rfl ?_
  refine zlload X0 hx (hb hby d2_6) rfl ?_
  refine Go.stp (fun t_ k_ => X0.ldc2Long hx hown (mvT hZ (wm hw 28 rfl)) (g := (mkF m 8 #[rv r0, rv r1, rv r2, rv r3, iv (1 : Int32), lv (30000 : Int64), sd] [(.long (30000 : Int64)), (.int (1 : Int32)), (.ref r3), (.ref r2), (.ref r1), (.ref r0)])) rfl (hb hby d2_8) t_ k_) ?_
  show Go p.tables e below G (s₁.setTop (mkF m 11 #[rv r0, rv r1, rv r2, rv r3, iv (1 : Int32), lv (30000 : Int64), sd] [(.long (60000 : Int64)), (.long (30000 : Int64)), (.int (1 : Int32)), (.ref r3), (.ref r2), (.ref r1), (.ref r0)]))
  obtain ⟨_, _, ⟨T1, L1, k1, n1⟩, -, X1, ⟨Lc1, hQ1, l1, y1, z1⟩, st1⟩ := Jvm.LawKit.callS X0 hx (y := yn7) hown (mvT hZ (wm hw 29 rfl)) (mvT hZ (wm hw 30 rfl)) (mvT hZ (wm hw 31 rfl)) (mvT hZ (wm hw 32 rfl)) (by decide) (backOf (W := 7) (rm3 l Z a0 hw [] h0 n0 Z0) hZ (wm hw 32 rfl) (wm hw 31 rfl) (by decide) (by decide)) (g := (mkF m 11 #[rv r0, rv r1, rv r2, rv r3, iv (1 : Int32), lv (30000 : Int64), sd] [(.long (60000 : Int64)), (.long (30000 : Int64)), (.int (1 : Int32)), (.ref r3), (.ref r2), (.ref r1), (.ref r0)])) rfl (by rw [hml]; rfl) (argsL := [(.long (60000 : Int64))]) (rest := [(.long (30000 : Int64)), (.int (1 : Int32)), (.ref r3), (.ref r2), (.ref r1), (.ref r0)]) (lenOf pd_13 rfl) rfl (by show 2 * 0 + _ ≤ _; exact Nat.le_of_eq rfl) (hb hby d2_11) (fun _ _ => ⟨rfl, e0, (by decide : 0 + 1 ≤ _), (by decide : 0 + 3 ≤ _)⟩)
  dsimp only [Pt.U, Pt.locs, Pt.cells, Pt.slots] at X1 l1 y1 z1 st1 hQ1
  subst l1 y1 z1
  obtain ⟨z1, rfl, Nq1, Kc1⟩ := hQ1
  have N1 := Fr.app N0 Nq1
  have f2 := hk0.keep Kc1
  have f3 := E_r0.keep Kc1
  have f4 := F_name.keep Kc1 (by simp)
  have f5 := F_type.keep Kc1 (by simp)
  have f6 := F_initialPosition.keep Kc1 (by simp)
  have f7 := F_maxUnacked.keep Kc1 (by simp)
  have f8 := F_leaseMs.keep Kc1 (by simp)
  have f9 := F_nackBackoff.keep Kc1 (by simp)
  have f10 := sta_keep0 S_cs Kc1
  have f11 := sta_keep0 S_sf Kc1
  have f12 := E_r1.keep Kc1
  have f13 := Fv_r1.keep Kc1 (by simp)
  have f14 := Fc_r1.keep Kc1 (by simp)
  have f15 := I_va.keep Kc1 (by simp)
  have Z1 : n0 ≤ T1.heap.size := Nat.le_trans Z0 Kc1.1
  have K1 := K0.trans Kc1 (fun x q => by
      exact absurd q (by simp))
  refine Go.stp (fun t_ k_ => st1 t_ k_) ?_
  show Go p.tables e below G (T1.setTop (mkF m 14 #[rv r0, rv r1, rv r2, rv r3, iv (1 : Int32), lv (30000 : Int64), sd] [(.ref z1), (.long (30000 : Int64)), (.int (1 : Int32)), (.ref r3), (.ref r2), (.ref r1), (.ref r0)]))
  obtain ⟨_, _, ⟨T16, L16, k16, n16⟩, -, X16, hS16, gr16, ⟨Lc16, hQ16, l16, y16, z16⟩, st16⟩ := X1.specialBackS hx (y := yn18) rfl hown (mvT hZ (wm hw 62 rfl)) (mvT hZ (wm hw 63 rfl)) (mvT hZ (wm hw 64 rfl)) (by decide) (backOfS (W := 0) (rm9 l Z a0 hw [] r0 r1 r2 r3 z1 va kc sf T1.heap n0 Z1 f3 f4 f5 f6 f7 f8 f9 g_r0 f10 hkc f11 hsf f12 f13 f14 f15 u10 u20) hZ (wm hw 64 rfl) (wm hw 14 rfl) (by decide) (by decide)) (g := (mkF m 14 #[rv r0, rv r1, rv r2, rv r3, iv (1 : Int32), lv (30000 : Int64), sd] [(.ref z1), (.long (30000 : Int64)), (.int (1 : Int32)), (.ref r3), (.ref r2), (.ref r1), (.ref r0)])) rfl (by rw [hml]; rfl) (Steps.refl _) (a := r0) (argsL := [(.ref r1), (.ref r2), (.ref r3), (.int (1 : Int32)), (.long (30000 : Int64)), (.ref z1)]) (rest := []) (lenOf pd_14 rfl) rfl (by show 2 * 0 + _ ≤ _; exact Nat.le_of_eq rfl) (hb hby d2_14) (fun _ _ => ⟨rfl, rfl, (by decide : 1 + 8 ≤ _), (by decide : 3 + 168 ≤ _)⟩)
  dsimp only [Pt.U, Pt.locs, Pt.cells, Pt.slots] at X16 l16 y16 z16 st16 hQ16
  subst l16 y16 z16
  dsimp only [Pt.U, Pt.locs, Pt.cells, Pt.slots] at hS16 gr16
  obtain ⟨X16, hS16, hZ, hown⟩ := rebS hS0 f2 X16 hS16 gr16 hZ hown
  obtain ⟨rfl, Nq16, Kc16, Fq16⟩ := hQ16
  have N16 := Fr.app N1 Nq16
  have f17 := f3.keep Kc16
  have f18 := sta_keep f10 Kc16 f3
  have f19 := sta_keep f11 Kc16 f3
  have f20 := f12.keep Kc16
  have f21 := f13.keep Kc16 (fun q => by simp only [List.mem_cons, List.not_mem_nil, or_false] at q; exact u10 q)
  have f22 := f14.keep Kc16 (fun q => by simp only [List.mem_cons, List.not_mem_nil, or_false] at q; exact u10 q)
  have f23 := f15.keep Kc16 (fun q => by simp only [List.mem_cons, List.not_mem_nil, or_false] at q; exact u20 q)
  have Z16 : n0 ≤ T16.heap.size := Nat.le_trans Z1 Kc16.1
  have K16 := K1.trans Kc16 (fun x q => by
      simp only [List.mem_cons, List.not_mem_nil, or_false] at q
      rw [q]; exact (Or.inl (List.mem_of_getElem? (i := 0) rfl)))
  have hk16 : Szk T16.heap.size T16.heap := Nat.le_refl _
  refine Go.stp (fun t_ k_ => st16.trans k_) ?_
  show Go p.tables e below G (T16.setTop (mkF m 17 #[rv r0, rv r1, rv r2, rv r3, iv (1 : Int32), lv (30000 : Int64), sd] []))
  obtain ⟨fs, hr, hrun, hended, hEnd⟩ := X16.leaveW hS16 hk16 (v := none) (fun _ => rfl)
  refine ⟨_, _, X16.returnOut hx Bd.returns (hb hby d2_17) hr, hrun, hended, hG _ _ _ ?_ ⟨hEnd.1, hEnd.2.1, hEnd.2.2.1, hEnd.2.2.2.mono (by decide) (by decide)⟩⟩
  show Q2 Z r0 r1 r2 r3 va kc sf h0 n0 _ T16.heap _
  exact ⟨rfl, N16, K16, Fq16⟩
theorem d1_0 : decode cn20 0 = .ok (.aload_n 0, 1) := by decide +kernel
theorem d1_1 : decode cn20 1 = .ok (.aload_n 1, 1) := by decide +kernel
theorem d1_2 : decode cn20 2 = .ok (.aload_n 2, 1) := by decide +kernel
theorem d1_3 : decode cn20 3 = .ok (.aload_n 3, 1) := by decide +kernel
theorem d1_4 : decode cn20 4 = .ok (.iload 4, 2) := by decide +kernel
theorem d1_6 : decode cn20 6 = .ok (.ldc2_w 74, 3) := by decide +kernel
theorem d1_9 : decode cn20 9 = .ok (.invokespecial 76, 3) := by decide +kernel
theorem d1_12 : decode cn20 12 = .ok (.return_, 1) := by decide +kernel
theorem ef_1 (m : MethodId) (r0 : Addr) (r1 : Addr) (r2 : Addr) (r3 : Addr) : entryFrame m #[(.ref r0), (.ref r1), (.ref r2), (.ref r3), (.int (1 : Int32))] 5 = mkF m 0 #[rv r0, rv r1, rv r2, rv r3, iv (1 : Int32)] [] := by first | (simp [entryFrame, mkF, argsToLocals, Value.category, iv, rv, lv, un, sd]; done) | rfl
def Q1 (Z : State) (r0 : Addr) (r1 : Addr) (r2 : Addr) (r3 : Addr) (va : Addr) (kc : Int32) (sf : Value) (h0 : Heap) (n0 : Nat) (v : Option Value) (h : Heap) (L : List Loc) : Prop := v = none ∧ Fr n0 L ∧ Keep h0 h [r0] ∧ Fld Z h r0 sn7 "leaseMs" "J" (.long (30000 : Int64))
set_option maxRecDepth 65536 in
set_option maxHeartbeats 40000000 in
theorem rm1 (l : Launch) (Z : State) (a0 : Array Value) (hw : ∀ d ∈ tables_1, d.before a0 Z = true) (ws : List Jvm.Cond) (r0 : Addr) (r1 : Addr) (r2 : Addr) (r3 : Addr) (va : Addr) (kc : Int32) (sf : Value) (h0 : Heap) (n0 : Nat) (Z0 : n0 ≤ h0.size) (E_r0 : Exa Z h0 r0 sn7) (F_name : Fld Z h0 r0 sn7 "name" sn14 .null) (F_type : Fld Z h0 r0 sn7 "type" sn15 .null) (F_initialPosition : Fld Z h0 r0 sn7 "initialPosition" sn16 .null) (F_maxUnacked : Fld Z h0 r0 sn7 "maxUnacked" "I" (.int (0 : Int32))) (F_leaseMs : Fld Z h0 r0 sn7 "leaseMs" "J" (.long (0 : Int64))) (F_nackBackoff : Fld Z h0 r0 sn7 "nackBackoff" sn17 .null) (g_r0 : n0 ≤ r0) (S_cs : Sta Z h0 sn3 sn10 "Z" (.int kc)) (hkc : ¬ kc = (0 : Int32)) (S_sf : Sta Z h0 sn11 sn12 sn13 sf) (hsf : sf.isRef = true) (E_r1 : Exa Z h0 r1 sn3) (Fv_r1 : Fld Z h0 r1 sn3 "value" "[B" (.ref va)) (Fc_r1 : Fld Z h0 r1 sn3 "coder" "B" (.int (0 : Int32))) (I_va : Ia Z h0 va .byte 1 Value.int (fun _ => (99 : Int32))) (u10 : r1 ≠ r0) (u20 : va ≠ r0) :
    MetFree l yn20 (head1 (Jvm.Cond.code yn20 cn20 5 none :: ws) (rk 7 9 171 145)) (fun a U => a = #[(.ref r0), (.ref r1), (.ref r2), (.ref r3), (.int (1 : Int32))] ∧ Z.Warmed39 U.vm ∧ U.heap = h0) (fun _ _ _ _ _ => True) (fun _ U o U' => ∃ v L, o = .returned v ∧ Q1 Z r0 r1 r2 r3 va kc sf h0 n0 v U'.heap L ∧ ReturnedEndW U o U' L (rk 7 9 171 145).cells (rk 7 9 171 145).slots) := by
  refine MetFree.of_bodySF (plainFor_of_name pn_9) hisR ?_
  intro p e s m args below meth c s₁ Bd hml0 hP hK
  obtain ⟨rfl, hZ, hh⟩ := hP
  have hx := Bd.exec
  have hby := Bd.bytes
  have hml : c.maxLocals = 5 := hml0
  have hown : s.vm.findClass sn7 = some m.cls := findClass_of_methodNamed Bd.named
  have hnm := (name_of_methodNamed Bd.named Bd.method).1
  have X0 : Stand p l e (rk 7 9 171 145) s m #[(.ref r0), (.ref r1), (.ref r2), (.ref r3), (.int (1 : Int32))] below meth c s₁ [] 0 0 := Stand.of_body Bd
  have e0 : s₁.heap = h0 := by rw [← hh, Bd.state]; rfl
  have N0 := Fr.nil n0
  suffices HH : ∀ G : Outcome → State → Prop, (∀ v L U', Q1 Z r0 r1 r2 r3 va kc sf h0 n0 v U'.heap L → ReturnedEndW s (.returned v) U' L (rk 7 9 171 145).cells (rk 7 9 171 145).slots → G (.returned v) U') → Go p.tables e below G (s₁.setTop (mkF m 0 #[rv r0, rv r1, rv r2, rv r3, iv (1 : Int32)] [])) by
    obtain ⟨s2, o, h1, h2, h3, h4⟩ := HH (fun o U' => ∃ v L, o = .returned v ∧ Q1 Z r0 r1 r2 r3 va kc sf h0 n0 v U'.heap L ∧ ReturnedEndW s o U' L (rk 7 9 171 145).cells (rk 7 9 171 145).slots) (fun v L U' q f => ⟨v, L, rfl, q, f⟩)
    exact ⟨s2, o, castTop (ef_1 m r0 r1 r2 r3) h1, h2, h3, h4⟩
  intro G hG
  have K0 := Keep.refl h0 [r0]
  have hS0 : s.Since s.vm 0 := (State.WarmedH.refl s).since 0
  have hZ : Z.Warmed39 (s.setVm s.vm).vm := hZ
  have hown : (s.setVm s.vm).vm.findClass sn7 = some m.cls := hown
  have X0 : Stand p l e (rk 7 9 171 145) (s.setVm s.vm) m #[(.ref r0), (.ref r1), (.ref r2), (.ref r3), (.int (1 : Int32))] below meth c s₁ [] 0 0 := X0
  have hk0 : Szk 0 h0 := Nat.zero_le _
  show Go p.tables e below G (s₁.setTop (mkF m 0 #[rv r0, rv r1, rv r2, rv r3, iv (1 : Int32)] []))
  refine zaloadN X0 hx (hb hby d1_0) rfl rfl ?_
  refine zaloadN X0 hx (hb hby d1_1) rfl rfl ?_
  refine zaloadN X0 hx (hb hby d1_2) rfl rfl ?_
  refine zaloadN X0 hx (hb hby d1_3) rfl rfl ?_
  refine ziload X0 hx (hb hby d1_4) rfl ?_
  refine Go.stp (fun t_ k_ => X0.ldc2Long hx hown (mvT hZ (wm hw 24 rfl)) (g := (mkF m 6 #[rv r0, rv r1, rv r2, rv r3, iv (1 : Int32)] [(.int (1 : Int32)), (.ref r3), (.ref r2), (.ref r1), (.ref r0)])) rfl (hb hby d1_6) t_ k_) ?_
  show Go p.tables e below G (s₁.setTop (mkF m 9 #[rv r0, rv r1, rv r2, rv r3, iv (1 : Int32)] [(.long (30000 : Int64)), (.int (1 : Int32)), (.ref r3), (.ref r2), (.ref r1), (.ref r0)]))
  obtain ⟨_, _, ⟨T1, L1, k1, n1⟩, -, X1, hS1, gr1, ⟨Lc1, hQ1, l1, y1, z1⟩, st1⟩ := X0.specialBackS hx (y := yn19) rfl hown (mvT hZ (wm hw 25 rfl)) (mvT hZ (wm hw 26 rfl)) (mvT hZ (wm hw 27 rfl)) (by decide) (backOfS (W := 0) (rm2 l Z a0 hw [] r0 r1 r2 r3 va kc sf h0 n0 Z0 E_r0 F_name F_type F_initialPosition F_maxUnacked F_leaseMs F_nackBackoff g_r0 S_cs hkc S_sf hsf E_r1 Fv_r1 Fc_r1 I_va u10 u20) hZ (wm hw 27 rfl) (wm hw 14 rfl) (by decide) (by decide)) (g := (mkF m 9 #[rv r0, rv r1, rv r2, rv r3, iv (1 : Int32)] [(.long (30000 : Int64)), (.int (1 : Int32)), (.ref r3), (.ref r2), (.ref r1), (.ref r0)])) rfl (by rw [hml]; rfl) (Steps.refl _) (a := r0) (argsL := [(.ref r1), (.ref r2), (.ref r3), (.int (1 : Int32)), (.long (30000 : Int64))]) (rest := []) (lenOf pd_15 rfl) rfl (by show 2 * 0 + _ ≤ _; exact Nat.le_of_eq rfl) (hb hby d1_9) (fun _ _ => ⟨rfl, e0, (by decide : 0 + 9 ≤ _), (by decide : 0 + 171 ≤ _)⟩)
  dsimp only [Pt.U, Pt.locs, Pt.cells, Pt.slots] at X1 l1 y1 z1 st1 hQ1
  subst l1 y1 z1
  dsimp only [Pt.U, Pt.locs, Pt.cells, Pt.slots] at hS1 gr1
  obtain ⟨X1, hS1, hZ, hown⟩ := rebS hS0 (by rw [e0]; exact hk0) X1 hS1 gr1 hZ hown
  obtain ⟨rfl, Nq1, Kc1, Fq1⟩ := hQ1
  have N1 := Fr.app N0 Nq1
  have f2 := E_r0.keep Kc1
  have f3 := sta_keep S_cs Kc1 E_r0
  have f4 := sta_keep S_sf Kc1 E_r0
  have f5 := E_r1.keep Kc1
  have f6 := Fv_r1.keep Kc1 (fun q => by simp only [List.mem_cons, List.not_mem_nil, or_false] at q; exact u10 q)
  have f7 := Fc_r1.keep Kc1 (fun q => by simp only [List.mem_cons, List.not_mem_nil, or_false] at q; exact u10 q)
  have f8 := I_va.keep Kc1 (fun q => by simp only [List.mem_cons, List.not_mem_nil, or_false] at q; exact u20 q)
  have Z1 : n0 ≤ T1.heap.size := Nat.le_trans Z0 Kc1.1
  have K1 := K0.trans Kc1 (fun x q => by
      simp only [List.mem_cons, List.not_mem_nil, or_false] at q
      rw [q]; exact (Or.inl (List.mem_of_getElem? (i := 0) rfl)))
  have hk1 : Szk T1.heap.size T1.heap := Nat.le_refl _
  refine Go.stp (fun t_ k_ => st1.trans k_) ?_
  show Go p.tables e below G (T1.setTop (mkF m 12 #[rv r0, rv r1, rv r2, rv r3, iv (1 : Int32)] []))
  obtain ⟨fs, hr, hrun, hended, hEnd⟩ := X1.leaveW hS1 hk1 (v := none) (fun _ => rfl)
  refine ⟨_, _, X1.returnOut hx Bd.returns (hb hby d1_12) hr, hrun, hended, hG _ _ _ ?_ ⟨hEnd.1, hEnd.2.1, hEnd.2.2.1, hEnd.2.2.2.mono (by decide) (by decide)⟩⟩
  show Q1 Z r0 r1 r2 r3 va kc sf h0 n0 _ T1.heap _
  exact ⟨rfl, N1, K1, Fq1⟩
theorem d27_0 : decode cn21 0 = .ok (.aload_n 0, 1) := by decide +kernel
theorem d27_1 : decode cn21 1 = .ok (.getfield 56, 3) := by decide +kernel
theorem d27_4 : decode cn21 4 = .ok (.lreturn, 1) := by decide +kernel
theorem ef_27 (m : MethodId) (r0 : Addr) : entryFrame m #[(.ref r0)] 1 = mkF m 0 #[rv r0] [] := by first | (simp [entryFrame, mkF, argsToLocals, Value.category, iv, rv, lv, un, sd]; done) | rfl
def Q27 (Z : State) (r0 : Addr) (h0 : Heap) (n0 : Nat) (v : Option Value) (h : Heap) (L : List Loc) : Prop := v = some (.long (30000 : Int64)) ∧ Fr n0 L ∧ h = h0
set_option maxRecDepth 65536 in
set_option maxHeartbeats 40000000 in
theorem rm27 (l : Launch) (Z : State) (a0 : Array Value) (hw : ∀ d ∈ tables_1, d.before a0 Z = true) (ws : List Jvm.Cond) (r0 : Addr) (h0 : Heap) (n0 : Nat) (Z0 : n0 ≤ h0.size) (F : Fld Z h0 r0 sn7 "leaseMs" "J" (.long (30000 : Int64))) :
    Mzz l yn21 cn21 1 (some .long) ws (rk 0 0 0 0) #[(.ref r0)] Z h0 (Q27 Z r0 h0 n0) := by
  refine Mzz.go (own := sn7) (nm := "leaseMs") (L0 := #[rv r0]) (plainFor_of_name pn_9) rfl rfl (fun m => ef_27 m r0) ?_
  intro p e s m below meth c s₁ hx hby hml hown hnm X0 e0 hZ hrt hlk G hG
  have N0 := Fr.nil n0
  show Go p.tables e below G (s₁.setTop (mkF m 0 #[rv r0] []))
  refine zaloadN X0 hx (hb hby d27_0) rfl rfl ?_
  refine zgetF X0 hx hZ hown (wm hw 128 rfl) e0 F (hb hby d27_1) (fun T1 X1 e1 => ?_)
  refine zretL X1 hx hrt hlk (hb hby d27_4) e1 hG (by decide) (by decide) ?_
  exact ⟨rfl, N0, rfl⟩
theorem pn_28 : plainName sn18 = true := by first | (simp [plainName, overriddenIn]; done) | decide +kernel
theorem d28_0 : decode cn22 0 = .ok (.aload_n 0, 1) := by decide +kernel
theorem d28_1 : decode cn22 1 = .ok (.getfield 44, 3) := by decide +kernel
theorem d28_4 : decode cn22 4 = .ok (.dup2, 1) := by decide +kernel
theorem d28_5 : decode cn22 5 = .ok (.lstore_n 3, 1) := by decide +kernel
theorem d28_6 : decode cn22 6 = .ok (.lconst 1, 1) := by decide +kernel
theorem d28_7 : decode cn22 7 = .ok (.lcmp, 1) := by decide +kernel
theorem d28_8 : decode cn22 8 = .ok (.ifCond .ne 5, 3) := by decide +kernel
theorem d28_13 : decode cn22 13 = .ok (.lload_n 1, 1) := by decide +kernel
theorem d28_14 : decode cn22 14 = .ok (.aload_n 0, 1) := by decide +kernel
theorem d28_15 : decode cn22 15 = .ok (.getfield 52, 3) := by decide +kernel
theorem d28_18 : decode cn22 18 = .ok (.dup2, 1) := by decide +kernel
theorem d28_19 : decode cn22 19 = .ok (.lstore 5, 2) := by decide +kernel
theorem d28_21 : decode cn22 21 = .ok (.lcmp, 1) := by decide +kernel
theorem d28_22 : decode cn22 22 = .ok (.ifCond .le 7, 3) := by decide +kernel
theorem d28_29 : decode cn22 29 = .ok (.lload_n 1, 1) := by decide +kernel
theorem d28_30 : decode cn22 30 = .ok (.lload 5, 2) := by decide +kernel
theorem d28_32 : decode cn22 32 = .ok (.lneg, 1) := by decide +kernel
theorem d28_33 : decode cn22 33 = .ok (.lcmp, 1) := by decide +kernel
theorem d28_34 : decode cn22 34 = .ok (.ifCond .ge 7, 3) := by decide +kernel
theorem d28_41 : decode cn22 41 = .ok (.lload_n 1, 1) := by decide +kernel
theorem d28_42 : decode cn22 42 = .ok (.lload_n 3, 1) := by decide +kernel
theorem d28_43 : decode cn22 43 = .ok (.lmul, 1) := by decide +kernel
theorem d28_44 : decode cn22 44 = .ok (.lreturn, 1) := by decide +kernel
theorem ef_28 (m : MethodId) (r0 : Addr) : entryFrame m #[(.ref r0), (.long (30000 : Int64))] 7 = mkF m 0 #[rv r0, lv (30000 : Int64), sd, un, un, un, un] [] := by first | (simp [entryFrame, mkF, argsToLocals, Value.category, iv, rv, lv, un, sd]; done) | rfl
def Q28 (Z : State) (r0 : Addr) (h0 : Heap) (n0 : Nat) (v : Option Value) (h : Heap) (L : List Loc) : Prop := v = some (.long (30000000000 : Int64)) ∧ Fr n0 L ∧ h = h0
set_option maxRecDepth 65536 in
set_option maxHeartbeats 40000000 in
theorem rm28 (l : Launch) (Z : State) (a0 : Array Value) (hw : ∀ d ∈ tables_1, d.before a0 Z = true) (ws : List Jvm.Cond) (r0 : Addr) (h0 : Heap) (n0 : Nat) (Z0 : n0 ≤ h0.size) (F_sc : Fld Z h0 r0 sn18 "scale" "J" (.long (1000000 : Int64))) (F_mn : Fld Z h0 r0 sn18 "maxNanos" "J" (.long (9223372036854 : Int64))) :
    Mzz l yn22 cn22 7 (some .long) ws (rk 0 0 0 0) #[(.ref r0), (.long (30000 : Int64))] Z h0 (Q28 Z r0 h0 n0) := by
  refine Mzz.go (own := sn18) (nm := "toNanos") (L0 := #[rv r0, lv (30000 : Int64), sd, un, un, un, un]) (plainFor_of_name pn_28) rfl rfl (fun m => ef_28 m r0) ?_
  intro p e s m below meth c s₁ hx hby hml hown hnm X0 e0 hZ hrt hlk G hG
  have N0 := Fr.nil n0
  show Go p.tables e below G (s₁.setTop (mkF m 0 #[rv r0, lv (30000 : Int64), sd, un, un, un, un] []))
  refine zaloadN X0 hx (hb hby d28_0) rfl rfl ?_
  refine zgetF X0 hx hZ hown (wm hw 201 rfl) e0 F_sc (hb hby d28_1) (fun T1 X1 e1 => ?_)
  show Go p.tables e below G (T1.setTop (mkF m 4 #[rv r0, lv (30000 : Int64), sd, un, un, un, un] [(.long (1000000 : Int64))]))
  refine Go.stp (F' := T1.setTop (mkF m 5 #[rv r0, lv (30000 : Int64), sd, un, un, un, un] [(.long (1000000 : Int64)), (.long (1000000 : Int64))])) (fun t_ k_ => by jvm_step X1.here [X1.here.top, hx, (hb hby d28_4), Value.category]; exact k_) ?_
  refine zlstoreN X1 hx (l' := #[rv r0, lv (30000 : Int64), sd, lv (1000000 : Int64), sd, un, un]) (hb hby d28_5) rfl ?_
  refine zlconst X1 hx (hb hby d28_6) (z := (1 : Int64)) rfl ?_
  refine zlcmp X1 hx (hb hby d28_7) (z := (lcmpW (1000000 : Int64) (1 : Int64))) rfl ?_
  refine zifYes X1 hx (pc' := 13) (hb hby d28_8) ((if0 _ _).trans (feq (fun q => (by decide : ¬ ((1000000 : Int64) = (1 : Int64))) ((lw_eq (1000000 : Int64) (1 : Int64)).mp q))).2) (by decide) (by decide) ?_
  refine zlloadN X1 hx (hb hby d28_13) rfl ?_
  refine zaloadN X1 hx (hb hby d28_14) rfl rfl ?_
  refine zgetF X1 hx hZ hown (wm hw 203 rfl) e1 F_mn (hb hby d28_15) (fun T2 X2 e2 => ?_)
  show Go p.tables e below G (T2.setTop (mkF m 18 #[rv r0, lv (30000 : Int64), sd, lv (1000000 : Int64), sd, un, un] [(.long (9223372036854 : Int64)), (.long (30000 : Int64))]))
  refine Go.stp (F' := T2.setTop (mkF m 19 #[rv r0, lv (30000 : Int64), sd, lv (1000000 : Int64), sd, un, un] [(.long (9223372036854 : Int64)), (.long (9223372036854 : Int64)), (.long (30000 : Int64))])) (fun t_ k_ => by jvm_step X2.here [X2.here.top, hx, (hb hby d28_18), Value.category]; exact k_) ?_
  refine zlstore X2 hx (l' := #[rv r0, lv (30000 : Int64), sd, lv (1000000 : Int64), sd, lv (9223372036854 : Int64), sd]) (hb hby d28_19) rfl ?_
  refine zlcmp X2 hx (hb hby d28_21) (z := (lcmpW (30000 : Int64) (9223372036854 : Int64))) rfl ?_
  refine zifYes X2 hx (pc' := 29) (hb hby d28_22) ((if0 _ _).trans (flt (fun q => (by decide : ¬ ((9223372036854 : Int64) < (30000 : Int64))) ((lw_gt (30000 : Int64) (9223372036854 : Int64)).mp q))).2.2.2) (by decide) (by decide) ?_
  refine zlloadN X2 hx (hb hby d28_29) rfl ?_
  refine zlload X2 hx (hb hby d28_30) rfl ?_
  refine zlneg X2 hx (hb hby d28_32) ?_
  refine zlcmp X2 hx (hb hby d28_33) (z := (lcmpW (30000 : Int64) (-(9223372036854 : Int64)))) rfl ?_
  refine zifYes X2 hx (pc' := 41) (hb hby d28_34) ((if0 _ _).trans (flt (fun q => (by decide : ¬ ((30000 : Int64) < (-(9223372036854 : Int64)))) ((lw_lt (30000 : Int64) (-(9223372036854 : Int64))).mp q))).2.1) (by decide) (by decide) ?_
  refine zlloadN X2 hx (hb hby d28_41) rfl ?_
  refine zlloadN X2 hx (hb hby d28_42) rfl ?_
  refine zlmul X2 hx (hb hby d28_43) ?_
  refine zretL X2 hx hrt hlk (hb hby d28_44) e2 hG (by decide) (by decide) ?_
  exact ⟨congrArg (fun z => some (Value.long z)) (by decide +kernel), N0, rfl⟩
theorem pn_22 : plainName sn19 = true := by first | (simp [plainName, overriddenIn]; done) | decide +kernel
theorem d22_0 : decode cn23 0 = .ok (.aload_n 0, 1) := by decide +kernel
theorem d22_1 : decode cn23 1 = .ok (.invokespecial 1, 3) := by decide +kernel
theorem d22_4 : decode cn23 4 = .ok (.aload_n 0, 1) := by decide +kernel
theorem d22_5 : decode cn23 5 = .ok (.iconst 0, 1) := by decide +kernel
theorem d22_6 : decode cn23 6 = .ok (.putfield 7, 3) := by decide +kernel
theorem d22_9 : decode cn23 9 = .ok (.aload_n 0, 1) := by decide +kernel
theorem d22_10 : decode cn23 10 = .ok (.iconst 0, 1) := by decide +kernel
theorem d22_11 : decode cn23 11 = .ok (.putfield 13, 3) := by decide +kernel
theorem d22_14 : decode cn23 14 = .ok (.aload_n 0, 1) := by decide +kernel
theorem d22_15 : decode cn23 15 = .ok (.aconst_null, 1) := by decide +kernel
theorem d22_16 : decode cn23 16 = .ok (.putfield 16, 3) := by decide +kernel
theorem d22_19 : decode cn23 19 = .ok (.return_, 1) := by decide +kernel
theorem ef_22 (m : MethodId) (r0 : Addr) : entryFrame m #[(.ref r0)] 1 = mkF m 0 #[rv r0] [] := by first | (simp [entryFrame, mkF, argsToLocals, Value.category, iv, rv, lv, un, sd]; done) | rfl
def Q22 (Z : State) (r0 : Addr) (h0 : Heap) (n0 : Nat) (v : Option Value) (h : Heap) (L : List Loc) : Prop := v = none ∧ Fr n0 L ∧ Keep h0 h [r0]
set_option maxRecDepth 65536 in
set_option maxHeartbeats 40000000 in
theorem rm22 (l : Launch) (Z : State) (a0 : Array Value) (hw : ∀ d ∈ tables_1, d.before a0 Z = true) (ws : List Jvm.Cond) (r0 : Addr) (h0 : Heap) (n0 : Nat) (Z0 : n0 ≤ h0.size) (E_r0 : Exa Z h0 r0 sn19) (F_size : Fld Z h0 r0 sn19 "size" "I" (.int (0 : Int32))) (F_modCount : Fld Z h0 r0 sn19 "modCount" "I" (.int (0 : Int32))) (F_comparator : Fld Z h0 r0 sn19 "comparator" "Ljava/util/Comparator;" .null) (g_r0 : n0 ≤ r0) :
    Mzz l yn23 cn23 1 none ws (rk 2 0 0 24) #[(.ref r0)] Z h0 (Q22 Z r0 h0 n0) := by
  refine Mzz.go (own := sn19) (nm := "<init>") (L0 := #[rv r0]) (plainFor_of_name pn_22) rfl rfl (fun m => ef_22 m r0) ?_
  intro p e s m below meth c s₁ hx hby hml hown hnm X0 e0 hZ hrt hlk G hG
  have N0 := Fr.nil n0
  have K0 := Keep.refl h0 [r0]
  show Go p.tables e below G (s₁.setTop (mkF m 0 #[rv r0] []))
  refine zaloadN X0 hx (hb hby d22_0) rfl rfl ?_
  obtain ⟨_, _, ⟨T1, L1, k1, n1⟩, -, X1, ⟨Lc1, hQ1, l1, y1, z1⟩, st1⟩ := X0.specialBack hx (y := yn1) rfl hown (mvT hZ (wm hw 149 rfl)) (mvT hZ (wm hw 150 rfl)) (mvT hZ (wm hw 154 rfl)) (by decide) (backOf (W := 0) (rm23 l Z a0 hw [] r0  h0 n0 Z0 ) hZ (wm hw 154 rfl) (wm hw 153 rfl) (by decide) (by decide)) (g := (mkF m 1 #[rv r0] [(.ref r0)])) rfl (by rw [hml]; rfl) (Steps.refl _) (a := r0) (argsL := []) (rest := []) (lenOf pd_0 rfl) rfl (by show 2 * 0 + _ ≤ _; exact Nat.le_of_eq rfl) (hb hby d22_1) (fun _ _ => ⟨rfl, e0, (by decide : 0 + 0 ≤ _), (by decide : 0 + 0 ≤ _)⟩)
  dsimp only [Pt.U, Pt.locs, Pt.cells, Pt.slots] at X1 l1 y1 z1 st1 hQ1
  subst l1 y1 z1
  obtain ⟨rfl, Nq1, e1⟩ := hQ1
  have N1 := Fr.app N0 Nq1
  refine Go.stp (fun t_ k_ => st1.trans k_) ?_
  show Go p.tables e below G (T1.setTop (mkF m 4 #[rv r0] []))
  refine zaloadN X1 hx (hb hby d22_4) rfl rfl ?_
  refine ziconst X1 hx (hb hby d22_5) (z := (0 : Int32)) rfl ?_
  refine zputF X1 hx hZ hown (wm hw 156 rfl) e1 F_size E_r0 (Or.inl (wm hw 157 rfl)) (wm hw 143 rfl) (ty := .int) (by decide) rfl rfl (hb hby d22_6) (fun T2 h2 X2 e2 W2 => ?_)
  have f3 := F_size.same W2
  have f4 := E_r0.wr W2
  have f5 := F_modCount.other W2 (Or.inr (slot_ne (Or.inl (wm hw 159 rfl)) (Or.inl (wm hw 157 rfl)) (by decide) (t := .int) (t' := .int) (by decide) (by decide)))
  have f6 := F_comparator.other W2 (Or.inr (slot_ne (Or.inr (wm hw 161 rfl)) (Or.inl (wm hw 157 rfl)) (by decide) (t := (.object sn20)) (t' := .int) (by decide) (by decide)))
  have N2 := Fr.snoc X2 N1 g_r0
  have K2 := K0.wr W2 (Or.inl (List.mem_of_getElem? (i := 0) rfl))
  have Z2 := Nat.le_trans Z0 (Keep.of_wr W2).1
  refine zaloadN X2 hx (hb hby d22_9) rfl rfl ?_
  refine ziconst X2 hx (hb hby d22_10) (z := (0 : Int32)) rfl ?_
  refine zputF X2 hx hZ hown (wm hw 158 rfl) e2 f5 f4 (Or.inl (wm hw 159 rfl)) (wm hw 143 rfl) (ty := .int) (by decide) rfl rfl (hb hby d22_11) (fun T7 h7 X7 e7 W7 => ?_)
  have f8 := f5.same W7
  have f9 := f4.wr W7
  have f10 := f6.other W7 (Or.inr (slot_ne (Or.inr (wm hw 161 rfl)) (Or.inl (wm hw 159 rfl)) (by decide) (t := (.object sn20)) (t' := .int) (by decide) (by decide)))
  have f11 := f3.other W7 (Or.inr (slot_ne (Or.inl (wm hw 157 rfl)) (Or.inl (wm hw 159 rfl)) (by decide) (t := .int) (t' := .int) (by decide) (by decide)))
  have N7 := Fr.snoc X7 N2 g_r0
  have K7 := K2.wr W7 (Or.inl (List.mem_of_getElem? (i := 0) rfl))
  have Z7 := Nat.le_trans Z2 (Keep.of_wr W7).1
  refine zaloadN X7 hx (hb hby d22_14) rfl rfl ?_
  refine zaconstNull X7 hx (hb hby d22_15) ?_
  refine zputF X7 hx hZ hown (wm hw 160 rfl) e7 f10 f9 (Or.inr ⟨(wm hw 161 rfl), rfl, hnm⟩) (wm hw 143 rfl) (ty := (.object sn20)) (by decide) rfl rfl (hb hby d22_16) (fun T12 h12 X12 e12 W12 => ?_)
  have f13 := f10.same W12
  have f14 := f9.wr W12
  have f15 := f11.other W12 (Or.inr (slot_ne (Or.inl (wm hw 157 rfl)) (Or.inr (wm hw 161 rfl)) (by decide) (t := .int) (t' := (.object sn20)) (by decide) (by decide)))
  have f16 := f8.other W12 (Or.inr (slot_ne (Or.inl (wm hw 159 rfl)) (Or.inr (wm hw 161 rfl)) (by decide) (t := .int) (t' := (.object sn20)) (by decide) (by decide)))
  have N12 := Fr.snoc X12 N7 g_r0
  have K12 := K7.wr W12 (Or.inl (List.mem_of_getElem? (i := 0) rfl))
  have Z12 := Nat.le_trans Z7 (Keep.of_wr W12).1
  refine zretV X12 hx hrt hlk (hb hby d22_19) e12 hG (by decide) (by decide) ?_
  exact ⟨rfl, N12, K12⟩
theorem pn_24 : plainName sn21 = true := by first | (simp [plainName, overriddenIn]; done) | decide +kernel
theorem d24_0 : decode cn24 0 = .ok (.aload_n 0, 1) := by decide +kernel
theorem d24_1 : decode cn24 1 = .ok (.invokespecial 1, 3) := by decide +kernel
theorem d24_4 : decode cn24 4 = .ok (.aload_n 0, 1) := by decide +kernel
theorem d24_5 : decode cn24 5 = .ok (.aload_n 1, 1) := by decide +kernel
theorem d24_6 : decode cn24 6 = .ok (.putfield 7, 3) := by decide +kernel
theorem d24_9 : decode cn24 9 = .ok (.return_, 1) := by decide +kernel
theorem ef_24 (m : MethodId) (r0 : Addr) (r1 : Addr) : entryFrame m #[(.ref r0), (.ref r1)] 2 = mkF m 0 #[rv r0, rv r1] [] := by first | (simp [entryFrame, mkF, argsToLocals, Value.category, iv, rv, lv, un, sd]; done) | rfl
def Q24 (Z : State) (r0 : Addr) (r1 : Addr) (h0 : Heap) (n0 : Nat) (v : Option Value) (h : Heap) (L : List Loc) : Prop := v = none ∧ Fr n0 L ∧ Keep h0 h [r0]
set_option maxRecDepth 65536 in
set_option maxHeartbeats 40000000 in
theorem rm24 (l : Launch) (Z : State) (a0 : Array Value) (hw : ∀ d ∈ tables_1, d.before a0 Z = true) (ws : List Jvm.Cond) (r0 : Addr) (r1 : Addr) (h0 : Heap) (n0 : Nat) (Z0 : n0 ≤ h0.size) (E_r0 : Exa Z h0 r0 sn21) (F_m : Fld Z h0 r0 sn21 "m" "Ljava/util/NavigableMap;" .null) (g_r0 : n0 ≤ r0) :
    Mzz l yn24 cn24 2 none ws (rk 3 0 0 36) #[(.ref r0), (.ref r1)] Z h0 (Q24 Z r0 r1 h0 n0) := by
  refine Mzz.go (own := sn21) (nm := "<init>") (L0 := #[rv r0, rv r1]) (plainFor_of_name pn_24) rfl rfl (fun m => ef_24 m r0 r1) ?_
  intro p e s m below meth c s₁ hx hby hml hown hnm X0 e0 hZ hrt hlk G hG
  have N0 := Fr.nil n0
  have K0 := Keep.refl h0 [r0]
  show Go p.tables e below G (s₁.setTop (mkF m 0 #[rv r0, rv r1] []))
  refine zaloadN X0 hx (hb hby d24_0) rfl rfl ?_
  obtain ⟨_, _, ⟨T1, L1, k1, n1⟩, -, X1, ⟨Lc1, hQ1, l1, y1, z1⟩, st1⟩ := X0.specialBack hx (y := yn3) rfl hown (mvT hZ (wm hw 166 rfl)) (mvT hZ (wm hw 167 rfl)) (mvT hZ (wm hw 171 rfl)) (by decide) (backOf (W := 0) (rm25 l Z a0 hw [] r0  h0 n0 Z0 ) hZ (wm hw 171 rfl) (wm hw 170 rfl) (by decide) (by decide)) (g := (mkF m 1 #[rv r0, rv r1] [(.ref r0)])) rfl (by rw [hml]; rfl) (Steps.refl _) (a := r0) (argsL := []) (rest := []) (lenOf pd_0 rfl) rfl (by show 2 * 0 + _ ≤ _; exact Nat.le_of_eq rfl) (hb hby d24_1) (fun _ _ => ⟨rfl, e0, (by decide : 0 + 0 ≤ _), (by decide : 0 + 0 ≤ _)⟩)
  dsimp only [Pt.U, Pt.locs, Pt.cells, Pt.slots] at X1 l1 y1 z1 st1 hQ1
  subst l1 y1 z1
  obtain ⟨rfl, Nq1, e1⟩ := hQ1
  have N1 := Fr.app N0 Nq1
  refine Go.stp (fun t_ k_ => st1.trans k_) ?_
  show Go p.tables e below G (T1.setTop (mkF m 4 #[rv r0, rv r1] []))
  refine zaloadN X1 hx (hb hby d24_4) rfl rfl ?_
  refine zaloadN X1 hx (hb hby d24_5) rfl rfl ?_
  refine zputF X1 hx hZ hown (wm hw 179 rfl) e1 F_m E_r0 (Or.inl (wm hw 180 rfl)) (wm hw 137 rfl) (ty := (.object "java/util/NavigableMap")) (by decide) rfl rfl (hb hby d24_6) (fun T2 h2 X2 e2 W2 => ?_)
  have f3 := F_m.same W2
  have f4 := E_r0.wr W2
  have N2 := Fr.snoc X2 N1 g_r0
  have K2 := K0.wr W2 (Or.inl (List.mem_of_getElem? (i := 0) rfl))
  have Z2 := Nat.le_trans Z0 (Keep.of_wr W2).1
  refine zretV X2 hx hrt hlk (hb hby d24_9) e2 hG (by decide) (by decide) ?_
  exact ⟨rfl, N2, K2⟩
theorem d21_0 : decode cn25 0 = .ok (.aload_n 0, 1) := by decide +kernel
theorem d21_1 : decode cn25 1 = .ok (.new 13, 3) := by decide +kernel
theorem d21_4 : decode cn25 4 = .ok (.dup, 1) := by decide +kernel
theorem d21_5 : decode cn25 5 = .ok (.invokespecial 15, 3) := by decide +kernel
theorem d21_8 : decode cn25 8 = .ok (.invokespecial 16, 3) := by decide +kernel
theorem d21_11 : decode cn25 11 = .ok (.return_, 1) := by decide +kernel
theorem ef_21 (m : MethodId) (r0 : Addr) : entryFrame m #[(.ref r0)] 1 = mkF m 0 #[rv r0] [] := by first | (simp [entryFrame, mkF, argsToLocals, Value.category, iv, rv, lv, un, sd]; done) | rfl
def Q21 (Z : State) (r0 : Addr) (h0 : Heap) (n0 : Nat) (v : Option Value) (h : Heap) (L : List Loc) : Prop := v = none ∧ Fr n0 L ∧ Keep h0 h [r0]
set_option maxRecDepth 65536 in
set_option maxHeartbeats 40000000 in
theorem rm21 (l : Launch) (Z : State) (a0 : Array Value) (hw : ∀ d ∈ tables_1, d.before a0 Z = true) (ws : List Jvm.Cond) (r0 : Addr) (h0 : Heap) (n0 : Nat) (Z0 : n0 ≤ h0.size) (E_r0 : Exa Z h0 r0 sn21) (F_m : Fld Z h0 r0 sn21 "m" "Ljava/util/NavigableMap;" .null) (g_r0 : n0 ≤ r0) :
    Mzz l yn25 cn25 1 none ws (rk 4 1 9 50) #[(.ref r0)] Z h0 (Q21 Z r0 h0 n0) := by
  refine Mzz.go (own := sn21) (nm := "<init>") (L0 := #[rv r0]) (plainFor_of_name pn_24) rfl rfl (fun m => ef_21 m r0) ?_
  intro p e s m below meth c s₁ hx hby hml hown hnm X0 e0 hZ hrt hlk G hG
  have N0 := Fr.nil n0
  have K0 := Keep.refl h0 [r0]
  show Go p.tables e below G (s₁.setTop (mkF m 0 #[rv r0] []))
  refine zaloadN X0 hx (hb hby d21_0) rfl rfl ?_
  obtain ⟨T1, h1, X1, e1, E1, A1, D1, -, st1⟩ := newO X0 hx hZ hown (wm hw 142 rfl) (wm hw 143 rfl) (wm hw 144 rfl) e0 (g := (mkF m 1 #[rv r0] [(.ref r0)])) rfl (hb hby d21_1) (by decide) (by decide)
  obtain ⟨b1, g1⟩ : ∃ z, z = h0.size := ⟨_, rfl⟩
  rw [← g1] at A1 D1 st1
  have u2 : r0 ≠ b1 := Nat.ne_of_lt (Nat.lt_of_lt_of_le E_r0.lt (Nat.le_of_eq g1.symm))
  have g_b1 : n0 ≤ b1 := Nat.le_trans Z0 (Nat.le_of_eq g1.symm)
  have sz_b1 : h0.size ≤ b1 := Nat.le_trans K0.1 (Nat.le_of_eq g1.symm)
  have f3 := E_r0.ext E1
  have f4 := F_m.ext E1
  have Z1 : n0 ≤ h1.size := Nat.le_trans Z0 E1.1
  have K1 := K0.ext E1
  have f5 : Fld Z h1 b1 sn19 "size" "I" (.int (0 : Int32)) := D1 (Or.inl (wm hw 157 rfl)) (ty := .int) (by decide)
  have f6 : Fld Z h1 b1 sn19 "modCount" "I" (.int (0 : Int32)) := D1 (Or.inl (wm hw 159 rfl)) (ty := .int) (by decide)
  have f7 : Fld Z h1 b1 sn19 "comparator" "Ljava/util/Comparator;" .null := D1 (Or.inr (wm hw 161 rfl)) (ty := (.object sn20)) (by decide)
  refine Go.stp (fun t_ k_ => st1 t_ k_) ?_
  show Go p.tables e below G (T1.setTop (mkF m 4 #[rv r0] [(.ref b1), (.ref r0)]))
  refine zdup X1 hx (hb hby d21_4) rfl ?_
  obtain ⟨_, _, ⟨T8, L8, k8, n8⟩, -, X8, ⟨Lc8, hQ8, l8, y8, z8⟩, st8⟩ := X1.specialBack hx (y := yn23) rfl hown (mvT hZ (wm hw 145 rfl)) (mvT hZ (wm hw 146 rfl)) (mvT hZ (wm hw 148 rfl)) (by decide) (backOf (W := 2) (rm22 l Z a0 hw [] b1 h1 n0 Z1 A1 f5 f6 f7 g_b1) hZ (wm hw 148 rfl) (wm hw 144 rfl) (by decide) (by decide)) (g := (mkF m 5 #[rv r0] [(.ref b1), (.ref b1), (.ref r0)])) rfl (by rw [hml]; rfl) (Steps.refl _) (a := b1) (argsL := []) (rest := [(.ref b1), (.ref r0)]) (lenOf pd_0 rfl) rfl (by show 2 * 0 + _ ≤ _; exact Nat.le_of_eq rfl) (hb hby d21_5) (fun _ _ => ⟨rfl, e1, (by decide : 1 + 0 ≤ _), (by decide : 9 + 0 ≤ _)⟩)
  dsimp only [Pt.U, Pt.locs, Pt.cells, Pt.slots] at X8 l8 y8 z8 st8 hQ8
  subst l8 y8 z8
  obtain ⟨rfl, Nq8, Kc8⟩ := hQ8
  have N8 := Fr.app N0 Nq8
  have f9 := f3.keep Kc8
  have f10 := f4.keep Kc8 (fun q => by simp only [List.mem_cons, List.not_mem_nil, or_false] at q; exact u2 q)
  have f11 := A1.keep Kc8
  have Z8 : n0 ≤ T8.heap.size := Nat.le_trans Z1 Kc8.1
  have K8 := K1.trans Kc8 (fun x q => by
      simp only [List.mem_cons, List.not_mem_nil, or_false] at q
      rw [q]; exact (Or.inr sz_b1))
  refine Go.stp (fun t_ k_ => st8.trans k_) ?_
  show Go p.tables e below G (T8.setTop (mkF m 8 #[rv r0] [(.ref b1), (.ref r0)]))
  obtain ⟨_, _, ⟨T12, L12, k12, n12⟩, -, X12, ⟨Lc12, hQ12, l12, y12, z12⟩, st12⟩ := X8.specialBack hx (y := yn24) rfl hown (mvT hZ (wm hw 162 rfl)) (mvT hZ (wm hw 163 rfl)) (mvT hZ (wm hw 165 rfl)) (by decide) (backOf (W := 0) (rm24 l Z a0 hw [] r0 b1 T8.heap n0 Z8 f9 f10 g_r0) hZ (wm hw 165 rfl) (wm hw 138 rfl) (by decide) (by decide)) (g := (mkF m 8 #[rv r0] [(.ref b1), (.ref r0)])) rfl (by rw [hml]; rfl) (Steps.refl _) (a := r0) (argsL := [(.ref b1)]) (rest := []) (lenOf pd_16 rfl) rfl (by show 2 * 0 + _ ≤ _; exact Nat.le_of_eq rfl) (hb hby d21_8) (fun _ _ => ⟨rfl, rfl, (by decide : 1 + 0 ≤ _), (by decide : 9 + 0 ≤ _)⟩)
  dsimp only [Pt.U, Pt.locs, Pt.cells, Pt.slots] at X12 l12 y12 z12 st12 hQ12
  subst l12 y12 z12
  obtain ⟨rfl, Nq12, Kc12⟩ := hQ12
  have N12 := Fr.app N8 Nq12
  have f13 := f9.keep Kc12
  have f14 := f11.keep Kc12
  have Z12 : n0 ≤ T12.heap.size := Nat.le_trans Z8 Kc12.1
  have K12 := K8.trans Kc12 (fun x q => by
      simp only [List.mem_cons, List.not_mem_nil, or_false] at q
      rw [q]; exact (Or.inl (List.mem_of_getElem? (i := 0) rfl)))
  refine Go.stp (fun t_ k_ => st12.trans k_) ?_
  show Go p.tables e below G (T12.setTop (mkF m 11 #[rv r0] []))
  refine zretV X12 hx hrt hlk (hb hby d21_11) rfl hG (by decide) (by decide) ?_
  exact ⟨rfl, N12, K12⟩
theorem pn_20 : plainName sn0 = true := by first | (simp [plainName, overriddenIn]; done) | decide +kernel
theorem d20_0 : decode cn26 0 = .ok (.aload_n 0, 1) := by decide +kernel
theorem d20_1 : decode cn26 1 = .ok (.invokespecial 1, 3) := by decide +kernel
theorem d20_4 : decode cn26 4 = .ok (.aload_n 0, 1) := by decide +kernel
theorem d20_5 : decode cn26 5 = .ok (.new 7, 3) := by decide +kernel
theorem d20_8 : decode cn26 8 = .ok (.dup, 1) := by decide +kernel
theorem d20_9 : decode cn26 9 = .ok (.invokespecial 9, 3) := by decide +kernel
theorem d20_12 : decode cn26 12 = .ok (.putfield 10, 3) := by decide +kernel
theorem d20_15 : decode cn26 15 = .ok (.aload_n 0, 1) := by decide +kernel
theorem d20_16 : decode cn26 16 = .ok (.iconst 1, 1) := by decide +kernel
theorem d20_17 : decode cn26 17 = .ok (.putfield 16, 3) := by decide +kernel
theorem d20_20 : decode cn26 20 = .ok (.aload_n 0, 1) := by decide +kernel
theorem d20_21 : decode cn26 21 = .ok (.aload_n 1, 1) := by decide +kernel
theorem d20_22 : decode cn26 22 = .ok (.putfield 20, 3) := by decide +kernel
theorem d20_25 : decode cn26 25 = .ok (.aload_n 0, 1) := by decide +kernel
theorem d20_26 : decode cn26 26 = .ok (.aload_n 2, 1) := by decide +kernel
theorem d20_27 : decode cn26 27 = .ok (.putfield 24, 3) := by decide +kernel
theorem d20_30 : decode cn26 30 = .ok (.aload_n 0, 1) := by decide +kernel
theorem d20_31 : decode cn26 31 = .ok (.getstatic 28, 3) := by decide +kernel
theorem d20_34 : decode cn26 34 = .ok (.aload_n 2, 1) := by decide +kernel
theorem d20_35 : decode cn26 35 = .ok (.invokevirtual 34, 3) := by decide +kernel
theorem d20_38 : decode cn26 38 = .ok (.invokevirtual 40, 3) := by decide +kernel
theorem d20_41 : decode cn26 41 = .ok (.putfield 44, 3) := by decide +kernel
theorem d20_44 : decode cn26 44 = .ok (.aload_n 0, 1) := by decide +kernel
theorem d20_45 : decode cn26 45 = .ok (.aload_n 3, 1) := by decide +kernel
theorem d20_46 : decode cn26 46 = .ok (.putfield 48, 3) := by decide +kernel
theorem d20_49 : decode cn26 49 = .ok (.aload_n 0, 1) := by decide +kernel
theorem d20_50 : decode cn26 50 = .ok (.aload 4, 2) := by decide +kernel
theorem d20_52 : decode cn26 52 = .ok (.putfield 52, 3) := by decide +kernel
theorem d20_55 : decode cn26 55 = .ok (.aload_n 0, 1) := by decide +kernel
theorem d20_56 : decode cn26 56 = .ok (.lload 5, 2) := by decide +kernel
theorem d20_58 : decode cn26 58 = .ok (.aload_n 0, 1) := by decide +kernel
theorem d20_59 : decode cn26 59 = .ok (.getfield 44, 3) := by decide +kernel
theorem d20_62 : decode cn26 62 = .ok (.ladd, 1) := by decide +kernel
theorem d20_63 : decode cn26 63 = .ok (.putfield 56, 3) := by decide +kernel
theorem d20_66 : decode cn26 66 = .ok (.return_, 1) := by decide +kernel
theorem ef_20 (m : MethodId) (r0 : Addr) (r1 : Addr) (r2 : Addr) : entryFrame m #[(.ref r0), (.ref r1), (.ref r2), .null, .null, (.long (0 : Int64))] 7 = mkF m 0 #[rv r0, rv r1, rv r2, .val .null, .val .null, lv (0 : Int64), sd] [] := by first | (simp [entryFrame, mkF, argsToLocals, Value.category, iv, rv, lv, un, sd]; done) | rfl
def Q20 (Z : State) (r0 : Addr) (r1 : Addr) (r2 : Addr) (tu : Addr) (h0 : Heap) (n0 : Nat) (v : Option Value) (h : Heap) (L : List Loc) : Prop := v = none ∧ Fr n0 L ∧ Keep h0 h [r0]
set_option maxRecDepth 65536 in
set_option maxHeartbeats 40000000 in
theorem rm20 (l : Launch) (Z : State) (a0 : Array Value) (hw : ∀ d ∈ tables_1, d.before a0 Z = true) (ws : List Jvm.Cond) (r0 : Addr) (r1 : Addr) (r2 : Addr) (tu : Addr) (h0 : Heap) (n0 : Nat) (Z0 : n0 ≤ h0.size) (E_r0 : Exa Z h0 r0 sn0) (F_unacked : Fld Z h0 r0 sn0 "unacked" "Ljava/util/NavigableSet;" .null) (F_attached : Fld Z h0 r0 sn0 "attached" "Z" (.int (0 : Int32))) (F_id : Fld Z h0 r0 sn0 "id" sn14 .null) (F_options : Fld Z h0 r0 sn0 "options" "Lcom/example/keys_in_order/keysinorder/ConsumerOptions;" .null) (F_leaseNanos : Fld Z h0 r0 sn0 "leaseNanos" "J" (.long (0 : Int64))) (F_topic : Fld Z h0 r0 sn0 "topic" "Lcom/example/keys_in_order/keysinorder/Topic;" .null) (F_subscription : Fld Z h0 r0 sn0 "subscription" "Lcom/example/keys_in_order/keysinorder/Subscription;" .null) (F_leaseEnds : Fld Z h0 r0 sn0 "leaseEnds" "J" (.long (0 : Int64))) (g_r0 : n0 ≤ r0) (S_tu : Sta Z h0 sn18 "MILLISECONDS" "Ljava/util/concurrent/TimeUnit;" (.ref tu)) (E_tu : Exa Z h0 tu sn18) (F_sc : Fld Z h0 tu sn18 "scale" "J" (.long (1000000 : Int64))) (F_mn : Fld Z h0 tu sn18 "maxNanos" "J" (.long (9223372036854 : Int64))) (E_r2 : Exa Z h0 r2 sn7) (F_lm : Fld Z h0 r2 sn7 "leaseMs" "J" (.long (30000 : Int64))) (u_tu : tu ≠ r0) (u_r2 : r2 ≠ r0) :
    Mzz l yn26 cn26 7 none ws (rk 5 2 10 80) #[(.ref r0), (.ref r1), (.ref r2), .null, .null, (.long (0 : Int64))] Z h0 (Q20 Z r0 r1 r2 tu h0 n0) := by
  refine Mzz.go (own := sn0) (nm := "<init>") (L0 := #[rv r0, rv r1, rv r2, .val .null, .val .null, lv (0 : Int64), sd]) (plainFor_of_name pn_20) rfl rfl (fun m => ef_20 m r0 r1 r2) ?_
  intro p e s m below meth c s₁ hx hby hml hown hnm X0 e0 hZ hrt hlk G hG
  have N0 := Fr.nil n0
  have K0 := Keep.refl h0 [r0]
  show Go p.tables e below G (s₁.setTop (mkF m 0 #[rv r0, rv r1, rv r2, .val .null, .val .null, lv (0 : Int64), sd] []))
  refine zaloadN X0 hx (hb hby d20_0) rfl rfl ?_
  obtain ⟨T1, X1, e1, st1⟩ := initO X0 hx hZ hown (wm hw 135 rfl) (wm hw 44 rfl) (wm hw 45 rfl) e0 (g := (mkF m 1 #[rv r0, rv r1, rv r2, .val .null, .val .null, lv (0 : Int64), sd] [(.ref r0)])) rfl (by rw [hml]; rfl) rfl (hb hby d20_1) (by decide) (W := 0) (by show 2 * 0 + _ ≤ _; exact Nat.le_of_eq rfl) (by decide)
  refine Go.stp (fun t_ k_ => st1 t_ k_) ?_
  show Go p.tables e below G (T1.setTop (mkF m 4 #[rv r0, rv r1, rv r2, .val .null, .val .null, lv (0 : Int64), sd] []))
  refine zaloadN X1 hx (hb hby d20_4) rfl rfl ?_
  obtain ⟨T2, h2, X2, e2, E2, A2, D2, -, st2⟩ := newO X1 hx hZ hown (wm hw 136 rfl) (wm hw 137 rfl) (wm hw 138 rfl) e1 (g := (mkF m 5 #[rv r0, rv r1, rv r2, .val .null, .val .null, lv (0 : Int64), sd] [(.ref r0)])) rfl (hb hby d20_5) (by decide) (by decide)
  obtain ⟨b2, g2⟩ : ∃ z, z = h0.size := ⟨_, rfl⟩
  rw [← g2] at A2 D2 st2
  have u3 : r0 ≠ b2 := Nat.ne_of_lt (Nat.lt_of_lt_of_le E_r0.lt (Nat.le_of_eq g2.symm))
  have u4 : tu ≠ b2 := Nat.ne_of_lt (Nat.lt_of_lt_of_le E_tu.lt (Nat.le_of_eq g2.symm))
  have u5 : r2 ≠ b2 := Nat.ne_of_lt (Nat.lt_of_lt_of_le F_lm.lt (Nat.le_of_eq g2.symm))
  have g_b2 : n0 ≤ b2 := Nat.le_trans Z0 (Nat.le_of_eq g2.symm)
  have sz_b2 : h0.size ≤ b2 := Nat.le_trans K0.1 (Nat.le_of_eq g2.symm)
  have f6 := E_r0.ext E2
  have f7 := F_unacked.ext E2
  have f8 := F_attached.ext E2
  have f9 := F_id.ext E2
  have f10 := F_options.ext E2
  have f11 := F_leaseNanos.ext E2
  have f12 := F_topic.ext E2
  have f13 := F_subscription.ext E2
  have f14 := F_leaseEnds.ext E2
  have f15 := S_tu.ext E2
  have f16 := E_tu.ext E2
  have f17 := F_sc.ext E2
  have f18 := F_mn.ext E2
  have f19 := F_lm.ext E2
  have f20 := E_r2.ext E2
  have Z2 : n0 ≤ h2.size := Nat.le_trans Z0 E2.1
  have K2 := K0.ext E2
  have f21 : Fld Z h2 b2 sn21 "m" "Ljava/util/NavigableMap;" .null := D2 (Or.inl (wm hw 180 rfl)) (ty := (.object "java/util/NavigableMap")) (by decide)
  refine Go.stp (fun t_ k_ => st2 t_ k_) ?_
  show Go p.tables e below G (T2.setTop (mkF m 8 #[rv r0, rv r1, rv r2, .val .null, .val .null, lv (0 : Int64), sd] [(.ref b2), (.ref r0)]))
  refine zdup X2 hx (hb hby d20_8) rfl ?_
  obtain ⟨_, _, ⟨T22, L22, k22, n22⟩, -, X22, ⟨Lc22, hQ22, l22, y22, z22⟩, st22⟩ := X2.specialBack hx (y := yn25) rfl hown (mvT hZ (wm hw 139 rfl)) (mvT hZ (wm hw 140 rfl)) (mvT hZ (wm hw 141 rfl)) (by decide) (backOf (W := 2) (rm21 l Z a0 hw [] b2 h2 n0 Z2 A2 f21 g_b2) hZ (wm hw 141 rfl) (wm hw 138 rfl) (by decide) (by decide)) (g := (mkF m 9 #[rv r0, rv r1, rv r2, .val .null, .val .null, lv (0 : Int64), sd] [(.ref b2), (.ref b2), (.ref r0)])) rfl (by rw [hml]; rfl) (Steps.refl _) (a := b2) (argsL := []) (rest := [(.ref b2), (.ref r0)]) (lenOf pd_0 rfl) rfl (by show 2 * 0 + _ ≤ _; exact Nat.le_of_eq rfl) (hb hby d20_9) (fun _ _ => ⟨rfl, e2, (by decide : 1 + 1 ≤ _), (by decide : 1 + 9 ≤ _)⟩)
  dsimp only [Pt.U, Pt.locs, Pt.cells, Pt.slots] at X22 l22 y22 z22 st22 hQ22
  subst l22 y22 z22
  obtain ⟨rfl, Nq22, Kc22⟩ := hQ22
  have N22 := Fr.app N0 Nq22
  have f23 := f6.keep Kc22
  have f24 := f7.keep Kc22 (fun q => by simp only [List.mem_cons, List.not_mem_nil, or_false] at q; exact u3 q)
  have f25 := f8.keep Kc22 (fun q => by simp only [List.mem_cons, List.not_mem_nil, or_false] at q; exact u3 q)
  have f26 := f9.keep Kc22 (fun q => by simp only [List.mem_cons, List.not_mem_nil, or_false] at q; exact u3 q)
  have f27 := f10.keep Kc22 (fun q => by simp only [List.mem_cons, List.not_mem_nil, or_false] at q; exact u3 q)
  have f28 := f11.keep Kc22 (fun q => by simp only [List.mem_cons, List.not_mem_nil, or_false] at q; exact u3 q)
  have f29 := f12.keep Kc22 (fun q => by simp only [List.mem_cons, List.not_mem_nil, or_false] at q; exact u3 q)
  have f30 := f13.keep Kc22 (fun q => by simp only [List.mem_cons, List.not_mem_nil, or_false] at q; exact u3 q)
  have f31 := f14.keep Kc22 (fun q => by simp only [List.mem_cons, List.not_mem_nil, or_false] at q; exact u3 q)
  have f32 := sta_keep f15 Kc22 A2
  have f33 := f16.keep Kc22
  have f34 := f17.keep Kc22 (fun q => by simp only [List.mem_cons, List.not_mem_nil, or_false] at q; exact u4 q)
  have f35 := f18.keep Kc22 (fun q => by simp only [List.mem_cons, List.not_mem_nil, or_false] at q; exact u4 q)
  have f36 := f19.keep Kc22 (fun q => by simp only [List.mem_cons, List.not_mem_nil, or_false] at q; exact u5 q)
  have f37 := f20.keep Kc22
  have f38 := A2.keep Kc22
  have Z22 : n0 ≤ T22.heap.size := Nat.le_trans Z2 Kc22.1
  have K22 := K2.trans Kc22 (fun x q => by
      simp only [List.mem_cons, List.not_mem_nil, or_false] at q
      rw [q]; exact (Or.inr sz_b2))
  refine Go.stp (fun t_ k_ => st22.trans k_) ?_
  show Go p.tables e below G (T22.setTop (mkF m 12 #[rv r0, rv r1, rv r2, .val .null, .val .null, lv (0 : Int64), sd] [(.ref b2), (.ref r0)]))
  refine zputF X22 hx hZ hown (wm hw 181 rfl) rfl f24 f23 (Or.inr ⟨(wm hw 182 rfl), rfl, hnm⟩) (wm hw 2 rfl) (ty := (.object sn22)) (by decide) rfl rfl (hb hby d20_12) (fun T39 h39 X39 e39 W39 => ?_)
  have f40 := f24.same W39
  have f41 := f23.wr W39
  have f42 := f25.other W39 (Or.inr (slot_ne (Or.inl (wm hw 184 rfl)) (Or.inr (wm hw 182 rfl)) (by decide) (t := .boolean) (t' := (.object sn22)) (by decide) (by decide)))
  have f43 := f26.other W39 (Or.inr (slot_ne (Or.inr (wm hw 186 rfl)) (Or.inr (wm hw 182 rfl)) (by decide) (t := (.object sn3)) (t' := (.object sn22)) (by decide) (by decide)))
  have f44 := f27.other W39 (Or.inr (slot_ne (Or.inr (wm hw 188 rfl)) (Or.inr (wm hw 182 rfl)) (by decide) (t := (.object sn7)) (t' := (.object sn22)) (by decide) (by decide)))
  have f45 := f28.other W39 (Or.inr (slot_ne (Or.inr (wm hw 206 rfl)) (Or.inr (wm hw 182 rfl)) (by decide) (t := .long) (t' := (.object sn22)) (by decide) (by decide)))
  have f46 := f29.other W39 (Or.inr (slot_ne (Or.inr (wm hw 208 rfl)) (Or.inr (wm hw 182 rfl)) (by decide) (t := (.object sn8)) (t' := (.object sn22)) (by decide) (by decide)))
  have f47 := f30.other W39 (Or.inr (slot_ne (Or.inr (wm hw 210 rfl)) (Or.inr (wm hw 182 rfl)) (by decide) (t := (.object sn9)) (t' := (.object sn22)) (by decide) (by decide)))
  have f48 := f31.other W39 (Or.inr (slot_ne (Or.inl (wm hw 212 rfl)) (Or.inr (wm hw 182 rfl)) (by decide) (t := .long) (t' := (.object sn22)) (by decide) (by decide)))
  have f49 := f32.wr W39
  have f50 := f33.wr W39
  have f51 := f34.other W39 (Or.inl u_tu)
  have f52 := f35.other W39 (Or.inl u_tu)
  have f53 := f36.other W39 (Or.inl u_r2)
  have f54 := f37.wr W39
  have f55 := f38.wr W39
  have N39 := Fr.snoc X39 N22 g_r0
  have K39 := K22.wr W39 (Or.inl (List.mem_of_getElem? (i := 0) rfl))
  have Z39 := Nat.le_trans Z22 (Keep.of_wr W39).1
  refine zaloadN X39 hx (hb hby d20_15) rfl rfl ?_
  refine ziconst X39 hx (hb hby d20_16) (z := (1 : Int32)) rfl ?_
  obtain ⟨T56, h56, X56, e56, W56, st56⟩ := putFN X39 hx hZ hown (wm hw 183 rfl) Via.refl e39 f42 f41 (Or.inl (wm hw 184 rfl)) (wm hw 2 rfl) (ty := .boolean) (v' := (.int (1 : Int32))) (by decide) rfl rfl (g := (mkF m 17 #[rv r0, rv r1, rv r2, .val .null, .val .null, lv (0 : Int64), sd] [(.int (1 : Int32)), (.ref r0)])) rfl rfl (hb hby d20_17)
  have f57 : Fld Z h56 r0 sn0 "attached" "Z" (.int (1 : Int32)) := f42.same W56
  have f58 := f41.wr W56
  have f59 := f43.other W56 (Or.inr (slot_ne (Or.inr (wm hw 186 rfl)) (Or.inl (wm hw 184 rfl)) (by decide) (t := (.object sn3)) (t' := .boolean) (by decide) (by decide)))
  have f60 := f44.other W56 (Or.inr (slot_ne (Or.inr (wm hw 188 rfl)) (Or.inl (wm hw 184 rfl)) (by decide) (t := (.object sn7)) (t' := .boolean) (by decide) (by decide)))
  have f61 := f45.other W56 (Or.inr (slot_ne (Or.inr (wm hw 206 rfl)) (Or.inl (wm hw 184 rfl)) (by decide) (t := .long) (t' := .boolean) (by decide) (by decide)))
  have f62 := f46.other W56 (Or.inr (slot_ne (Or.inr (wm hw 208 rfl)) (Or.inl (wm hw 184 rfl)) (by decide) (t := (.object sn8)) (t' := .boolean) (by decide) (by decide)))
  have f63 := f47.other W56 (Or.inr (slot_ne (Or.inr (wm hw 210 rfl)) (Or.inl (wm hw 184 rfl)) (by decide) (t := (.object sn9)) (t' := .boolean) (by decide) (by decide)))
  have f64 := f48.other W56 (Or.inr (slot_ne (Or.inl (wm hw 212 rfl)) (Or.inl (wm hw 184 rfl)) (by decide) (t := .long) (t' := .boolean) (by decide) (by decide)))
  have f65 := f49.wr W56
  have f66 := f50.wr W56
  have f67 := f51.other W56 (Or.inl u_tu)
  have f68 := f52.other W56 (Or.inl u_tu)
  have f69 := f53.other W56 (Or.inl u_r2)
  have f70 := f54.wr W56
  have f71 := f55.wr W56
  have f72 := f40.other W56 (Or.inr (slot_ne (Or.inr (wm hw 182 rfl)) (Or.inl (wm hw 184 rfl)) (by decide) (t := (.object sn22)) (t' := .boolean) (by decide) (by decide)))
  have N56 := Fr.snoc X56 N39 g_r0
  have K56 := K39.wr W56 (Or.inl (List.mem_of_getElem? (i := 0) rfl))
  have Z56 : n0 ≤ h56.size := Nat.le_trans Z39 (Keep.of_wr W56).1
  refine Go.stp (fun t_ k_ => st56 t_ k_) ?_
  show Go p.tables e below G (T56.setTop (mkF m 20 #[rv r0, rv r1, rv r2, .val .null, .val .null, lv (0 : Int64), sd] []))
  refine zaloadN X56 hx (hb hby d20_20) rfl rfl ?_
  refine zaloadN X56 hx (hb hby d20_21) rfl rfl ?_
  refine zputF X56 hx hZ hown (wm hw 185 rfl) e56 f59 f58 (Or.inr ⟨(wm hw 186 rfl), rfl, hnm⟩) (wm hw 2 rfl) (ty := (.object sn3)) (by decide) rfl rfl (hb hby d20_22) (fun T73 h73 X73 e73 W73 => ?_)
  have f74 := f59.same W73
  have f75 := f58.wr W73
  have f76 := f60.other W73 (Or.inr (slot_ne (Or.inr (wm hw 188 rfl)) (Or.inr (wm hw 186 rfl)) (by decide) (t := (.object sn7)) (t' := (.object sn3)) (by decide) (by decide)))
  have f77 := f61.other W73 (Or.inr (slot_ne (Or.inr (wm hw 206 rfl)) (Or.inr (wm hw 186 rfl)) (by decide) (t := .long) (t' := (.object sn3)) (by decide) (by decide)))
  have f78 := f62.other W73 (Or.inr (slot_ne (Or.inr (wm hw 208 rfl)) (Or.inr (wm hw 186 rfl)) (by decide) (t := (.object sn8)) (t' := (.object sn3)) (by decide) (by decide)))
  have f79 := f63.other W73 (Or.inr (slot_ne (Or.inr (wm hw 210 rfl)) (Or.inr (wm hw 186 rfl)) (by decide) (t := (.object sn9)) (t' := (.object sn3)) (by decide) (by decide)))
  have f80 := f64.other W73 (Or.inr (slot_ne (Or.inl (wm hw 212 rfl)) (Or.inr (wm hw 186 rfl)) (by decide) (t := .long) (t' := (.object sn3)) (by decide) (by decide)))
  have f81 := f65.wr W73
  have f82 := f66.wr W73
  have f83 := f67.other W73 (Or.inl u_tu)
  have f84 := f68.other W73 (Or.inl u_tu)
  have f85 := f69.other W73 (Or.inl u_r2)
  have f86 := f70.wr W73
  have f87 := f71.wr W73
  have f88 := f72.other W73 (Or.inr (slot_ne (Or.inr (wm hw 182 rfl)) (Or.inr (wm hw 186 rfl)) (by decide) (t := (.object sn22)) (t' := (.object sn3)) (by decide) (by decide)))
  have f89 := f57.other W73 (Or.inr (slot_ne (Or.inl (wm hw 184 rfl)) (Or.inr (wm hw 186 rfl)) (by decide) (t := .boolean) (t' := (.object sn3)) (by decide) (by decide)))
  have N73 := Fr.snoc X73 N56 g_r0
  have K73 := K56.wr W73 (Or.inl (List.mem_of_getElem? (i := 0) rfl))
  have Z73 := Nat.le_trans Z56 (Keep.of_wr W73).1
  refine zaloadN X73 hx (hb hby d20_25) rfl rfl ?_
  refine zaloadN X73 hx (hb hby d20_26) rfl rfl ?_
  refine zputF X73 hx hZ hown (wm hw 187 rfl) e73 f76 f75 (Or.inr ⟨(wm hw 188 rfl), rfl, hnm⟩) (wm hw 2 rfl) (ty := (.object sn7)) (by decide) rfl rfl (hb hby d20_27) (fun T90 h90 X90 e90 W90 => ?_)
  have f91 := f76.same W90
  have f92 := f75.wr W90
  have f93 := f77.other W90 (Or.inr (slot_ne (Or.inr (wm hw 206 rfl)) (Or.inr (wm hw 188 rfl)) (by decide) (t := .long) (t' := (.object sn7)) (by decide) (by decide)))
  have f94 := f78.other W90 (Or.inr (slot_ne (Or.inr (wm hw 208 rfl)) (Or.inr (wm hw 188 rfl)) (by decide) (t := (.object sn8)) (t' := (.object sn7)) (by decide) (by decide)))
  have f95 := f79.other W90 (Or.inr (slot_ne (Or.inr (wm hw 210 rfl)) (Or.inr (wm hw 188 rfl)) (by decide) (t := (.object sn9)) (t' := (.object sn7)) (by decide) (by decide)))
  have f96 := f80.other W90 (Or.inr (slot_ne (Or.inl (wm hw 212 rfl)) (Or.inr (wm hw 188 rfl)) (by decide) (t := .long) (t' := (.object sn7)) (by decide) (by decide)))
  have f97 := f81.wr W90
  have f98 := f82.wr W90
  have f99 := f83.other W90 (Or.inl u_tu)
  have f100 := f84.other W90 (Or.inl u_tu)
  have f101 := f85.other W90 (Or.inl u_r2)
  have f102 := f86.wr W90
  have f103 := f87.wr W90
  have f104 := f88.other W90 (Or.inr (slot_ne (Or.inr (wm hw 182 rfl)) (Or.inr (wm hw 188 rfl)) (by decide) (t := (.object sn22)) (t' := (.object sn7)) (by decide) (by decide)))
  have f105 := f89.other W90 (Or.inr (slot_ne (Or.inl (wm hw 184 rfl)) (Or.inr (wm hw 188 rfl)) (by decide) (t := .boolean) (t' := (.object sn7)) (by decide) (by decide)))
  have f106 := f74.other W90 (Or.inr (slot_ne (Or.inr (wm hw 186 rfl)) (Or.inr (wm hw 188 rfl)) (by decide) (t := (.object sn3)) (t' := (.object sn7)) (by decide) (by decide)))
  have N90 := Fr.snoc X90 N73 g_r0
  have K90 := K73.wr W90 (Or.inl (List.mem_of_getElem? (i := 0) rfl))
  have Z90 := Nat.le_trans Z73 (Keep.of_wr W90).1
  refine zaloadN X90 hx (hb hby d20_30) rfl rfl ?_
  obtain ⟨T107, X107, e107, st107⟩ := getS2 X90 hx hZ hown (host := "") (Or.inl (wm hw 189 rfl)) Via.refl e90 f97 (g := (mkF m 31 #[rv r0, rv r1, rv r2, .val .null, .val .null, lv (0 : Int64), sd] [(.ref r0)])) rfl (hb hby d20_31)
  refine Go.stp (fun t_ k_ => st107 t_ k_) ?_
  show Go p.tables e below G (T107.setTop (mkF m 34 #[rv r0, rv r1, rv r2, .val .null, .val .null, lv (0 : Int64), sd] [(.ref tu), (.ref r0)]))
  refine zaloadN X107 hx (hb hby d20_34) rfl rfl ?_
  obtain ⟨cq108, kq108, q108a, q108b, q108c⟩ := isOf hZ e107 f102
  obtain ⟨_, _, ⟨T108, L108, k108, n108⟩, -, X108, ⟨Lc108, hQ108, l108, y108, z108⟩, st108⟩ := X107.virtualBack hx (y := yn21) (z := yn21) hown (mvT hZ (wm hw 191 rfl)) (mvT hZ (wm hw 192 rfl)) (notFace_of_selects (args := #[]) (mvT hZ (wm hw 194 rfl))) (mvT hZ (wm hw 194 rfl)) (mvT hZ (wm hw 193 rfl)) (by decide) (backOf (W := 2) (rm27 l Z a0 hw [] r2 h90 n0 Z90 f101) hZ (wm hw 195 rfl) (wm hw 14 rfl) (by decide) (by decide)) q108a q108c (g := (mkF m 35 #[rv r0, rv r1, rv r2, .val .null, .val .null, lv (0 : Int64), sd] [(.ref r2), (.ref tu), (.ref r0)])) rfl (by rw [hml]; rfl) (Steps.refl _) (argsL := []) (rest := [(.ref tu), (.ref r0)]) (lenOf pd_17 rfl) rfl (by show 2 * 0 + _ ≤ _; exact Nat.le_of_eq rfl) (hb hby d20_35) (fun _ _ => ⟨rfl, e107, (by decide : 2 + 0 ≤ _), (by decide : 10 + 0 ≤ _)⟩)
  dsimp only [Pt.U, Pt.locs, Pt.cells, Pt.slots] at X108 l108 y108 z108 st108 hQ108
  subst l108 y108 z108
  obtain ⟨rfl, Nq108, e108⟩ := hQ108
  have N108 := Fr.app N90 Nq108
  refine Go.stp (fun t_ k_ => st108.trans k_) ?_
  show Go p.tables e below G (T108.setTop (mkF m 38 #[rv r0, rv r1, rv r2, .val .null, .val .null, lv (0 : Int64), sd] [(.long (30000 : Int64)), (.ref tu), (.ref r0)]))
  obtain ⟨cq109, kq109, q109a, q109b, q109c⟩ := isOf hZ e108 f98
  obtain ⟨_, _, ⟨T109, L109, k109, n109⟩, -, X109, ⟨Lc109, hQ109, l109, y109, z109⟩, st109⟩ := X108.virtualBack hx (y := yn22) (z := yn22) hown (mvT hZ (wm hw 196 rfl)) (mvT hZ (wm hw 197 rfl)) (notFace_of_selects (args := #[]) (mvT hZ (wm hw 199 rfl))) (mvT hZ (wm hw 199 rfl)) (mvT hZ (wm hw 198 rfl)) (by decide) (backOf (W := 1) (rm28 l Z a0 hw [] tu h90 n0 Z90 f99 f100) hZ (wm hw 200 rfl) (wm hw 190 rfl) (by decide) (by decide)) q109a q109c (g := (mkF m 38 #[rv r0, rv r1, rv r2, .val .null, .val .null, lv (0 : Int64), sd] [(.long (30000 : Int64)), (.ref tu), (.ref r0)])) rfl (by rw [hml]; rfl) (Steps.refl _) (argsL := [(.long (30000 : Int64))]) (rest := [(.ref r0)]) (lenOf pd_18 rfl) rfl (by show 2 * 0 + _ ≤ _; exact Nat.le_of_eq rfl) (hb hby d20_38) (fun _ _ => ⟨rfl, e108, (by decide : 2 + 0 ≤ _), (by decide : 10 + 0 ≤ _)⟩)
  dsimp only [Pt.U, Pt.locs, Pt.cells, Pt.slots] at X109 l109 y109 z109 st109 hQ109
  subst l109 y109 z109
  obtain ⟨rfl, Nq109, e109⟩ := hQ109
  have N109 := Fr.app N108 Nq109
  refine Go.stp (fun t_ k_ => st109.trans k_) ?_
  show Go p.tables e below G (T109.setTop (mkF m 41 #[rv r0, rv r1, rv r2, .val .null, .val .null, lv (0 : Int64), sd] [(.long (30000000000 : Int64)), (.ref r0)]))
  refine zputF X109 hx hZ hown (wm hw 205 rfl) e109 f93 f92 (Or.inr ⟨(wm hw 206 rfl), rfl, hnm⟩) (wm hw 2 rfl) (ty := .long) (by decide) rfl rfl (hb hby d20_41) (fun T110 h110 X110 e110 W110 => ?_)
  have f111 := f93.same W110
  have f112 := f92.wr W110
  have f113 := f94.other W110 (Or.inr (slot_ne (Or.inr (wm hw 208 rfl)) (Or.inr (wm hw 206 rfl)) (by decide) (t := (.object sn8)) (t' := .long) (by decide) (by decide)))
  have f114 := f95.other W110 (Or.inr (slot_ne (Or.inr (wm hw 210 rfl)) (Or.inr (wm hw 206 rfl)) (by decide) (t := (.object sn9)) (t' := .long) (by decide) (by decide)))
  have f115 := f96.other W110 (Or.inr (slot_ne (Or.inl (wm hw 212 rfl)) (Or.inr (wm hw 206 rfl)) (by decide) (t := .long) (t' := .long) (by decide) (by decide)))
  have f116 := f97.wr W110
  have f117 := f98.wr W110
  have f118 := f99.other W110 (Or.inl u_tu)
  have f119 := f100.other W110 (Or.inl u_tu)
  have f120 := f101.other W110 (Or.inl u_r2)
  have f121 := f102.wr W110
  have f122 := f103.wr W110
  have f123 := f104.other W110 (Or.inr (slot_ne (Or.inr (wm hw 182 rfl)) (Or.inr (wm hw 206 rfl)) (by decide) (t := (.object sn22)) (t' := .long) (by decide) (by decide)))
  have f124 := f105.other W110 (Or.inr (slot_ne (Or.inl (wm hw 184 rfl)) (Or.inr (wm hw 206 rfl)) (by decide) (t := .boolean) (t' := .long) (by decide) (by decide)))
  have f125 := f106.other W110 (Or.inr (slot_ne (Or.inr (wm hw 186 rfl)) (Or.inr (wm hw 206 rfl)) (by decide) (t := (.object sn3)) (t' := .long) (by decide) (by decide)))
  have f126 := f91.other W110 (Or.inr (slot_ne (Or.inr (wm hw 188 rfl)) (Or.inr (wm hw 206 rfl)) (by decide) (t := (.object sn7)) (t' := .long) (by decide) (by decide)))
  have N110 := Fr.snoc X110 N109 g_r0
  have K110 := K90.wr W110 (Or.inl (List.mem_of_getElem? (i := 0) rfl))
  have Z110 := Nat.le_trans Z90 (Keep.of_wr W110).1
  refine zaloadN X110 hx (hb hby d20_44) rfl rfl ?_
  refine zaloadN X110 hx (hb hby d20_45) rfl rfl ?_
  refine zputF X110 hx hZ hown (wm hw 207 rfl) e110 f113 f112 (Or.inr ⟨(wm hw 208 rfl), rfl, hnm⟩) (wm hw 2 rfl) (ty := (.object sn8)) (by decide) rfl rfl (hb hby d20_46) (fun T127 h127 X127 e127 W127 => ?_)
  have f128 := f113.same W127
  have f129 := f112.wr W127
  have f130 := f114.other W127 (Or.inr (slot_ne (Or.inr (wm hw 210 rfl)) (Or.inr (wm hw 208 rfl)) (by decide) (t := (.object sn9)) (t' := (.object sn8)) (by decide) (by decide)))
  have f131 := f115.other W127 (Or.inr (slot_ne (Or.inl (wm hw 212 rfl)) (Or.inr (wm hw 208 rfl)) (by decide) (t := .long) (t' := (.object sn8)) (by decide) (by decide)))
  have f132 := f116.wr W127
  have f133 := f117.wr W127
  have f134 := f118.other W127 (Or.inl u_tu)
  have f135 := f119.other W127 (Or.inl u_tu)
  have f136 := f120.other W127 (Or.inl u_r2)
  have f137 := f121.wr W127
  have f138 := f122.wr W127
  have f139 := f123.other W127 (Or.inr (slot_ne (Or.inr (wm hw 182 rfl)) (Or.inr (wm hw 208 rfl)) (by decide) (t := (.object sn22)) (t' := (.object sn8)) (by decide) (by decide)))
  have f140 := f124.other W127 (Or.inr (slot_ne (Or.inl (wm hw 184 rfl)) (Or.inr (wm hw 208 rfl)) (by decide) (t := .boolean) (t' := (.object sn8)) (by decide) (by decide)))
  have f141 := f125.other W127 (Or.inr (slot_ne (Or.inr (wm hw 186 rfl)) (Or.inr (wm hw 208 rfl)) (by decide) (t := (.object sn3)) (t' := (.object sn8)) (by decide) (by decide)))
  have f142 := f126.other W127 (Or.inr (slot_ne (Or.inr (wm hw 188 rfl)) (Or.inr (wm hw 208 rfl)) (by decide) (t := (.object sn7)) (t' := (.object sn8)) (by decide) (by decide)))
  have f143 := f111.other W127 (Or.inr (slot_ne (Or.inr (wm hw 206 rfl)) (Or.inr (wm hw 208 rfl)) (by decide) (t := .long) (t' := (.object sn8)) (by decide) (by decide)))
  have N127 := Fr.snoc X127 N110 g_r0
  have K127 := K110.wr W127 (Or.inl (List.mem_of_getElem? (i := 0) rfl))
  have Z127 := Nat.le_trans Z110 (Keep.of_wr W127).1
  refine zaloadN X127 hx (hb hby d20_49) rfl rfl ?_
  refine zaload X127 hx (hb hby d20_50) rfl rfl ?_
  refine zputF X127 hx hZ hown (wm hw 209 rfl) e127 f130 f129 (Or.inr ⟨(wm hw 210 rfl), rfl, hnm⟩) (wm hw 2 rfl) (ty := (.object sn9)) (by decide) rfl rfl (hb hby d20_52) (fun T144 h144 X144 e144 W144 => ?_)
  have f145 := f130.same W144
  have f146 := f129.wr W144
  have f147 := f131.other W144 (Or.inr (slot_ne (Or.inl (wm hw 212 rfl)) (Or.inr (wm hw 210 rfl)) (by decide) (t := .long) (t' := (.object sn9)) (by decide) (by decide)))
  have f148 := f132.wr W144
  have f149 := f133.wr W144
  have f150 := f134.other W144 (Or.inl u_tu)
  have f151 := f135.other W144 (Or.inl u_tu)
  have f152 := f136.other W144 (Or.inl u_r2)
  have f153 := f137.wr W144
  have f154 := f138.wr W144
  have f155 := f139.other W144 (Or.inr (slot_ne (Or.inr (wm hw 182 rfl)) (Or.inr (wm hw 210 rfl)) (by decide) (t := (.object sn22)) (t' := (.object sn9)) (by decide) (by decide)))
  have f156 := f140.other W144 (Or.inr (slot_ne (Or.inl (wm hw 184 rfl)) (Or.inr (wm hw 210 rfl)) (by decide) (t := .boolean) (t' := (.object sn9)) (by decide) (by decide)))
  have f157 := f141.other W144 (Or.inr (slot_ne (Or.inr (wm hw 186 rfl)) (Or.inr (wm hw 210 rfl)) (by decide) (t := (.object sn3)) (t' := (.object sn9)) (by decide) (by decide)))
  have f158 := f142.other W144 (Or.inr (slot_ne (Or.inr (wm hw 188 rfl)) (Or.inr (wm hw 210 rfl)) (by decide) (t := (.object sn7)) (t' := (.object sn9)) (by decide) (by decide)))
  have f159 := f143.other W144 (Or.inr (slot_ne (Or.inr (wm hw 206 rfl)) (Or.inr (wm hw 210 rfl)) (by decide) (t := .long) (t' := (.object sn9)) (by decide) (by decide)))
  have f160 := f128.other W144 (Or.inr (slot_ne (Or.inr (wm hw 208 rfl)) (Or.inr (wm hw 210 rfl)) (by decide) (t := (.object sn8)) (t' := (.object sn9)) (by decide) (by decide)))
  have N144 := Fr.snoc X144 N127 g_r0
  have K144 := K127.wr W144 (Or.inl (List.mem_of_getElem? (i := 0) rfl))
  have Z144 := Nat.le_trans Z127 (Keep.of_wr W144).1
  refine zaloadN X144 hx (hb hby d20_55) rfl rfl ?_
  refine zlload X144 hx (hb hby d20_56) rfl ?_
  refine zaloadN X144 hx (hb hby d20_58) rfl rfl ?_
  refine zgetF X144 hx hZ hown (wm hw 205 rfl) e144 f159 (hb hby d20_59) (fun T161 X161 e161 => ?_)
  refine zladd X161 hx (hb hby d20_62) ?_
  refine zputF X161 hx hZ hown (wm hw 211 rfl) e161 f147 f146 (Or.inl (wm hw 212 rfl)) (wm hw 2 rfl) (ty := .long) (by decide) rfl rfl (hb hby d20_63) (fun T162 h162 X162 e162 W162 => ?_)
  have f163 := f147.same W162
  have f164 := f146.wr W162
  have f165 := f148.wr W162
  have f166 := f149.wr W162
  have f167 := f150.other W162 (Or.inl u_tu)
  have f168 := f151.other W162 (Or.inl u_tu)
  have f169 := f152.other W162 (Or.inl u_r2)
  have f170 := f153.wr W162
  have f171 := f154.wr W162
  have f172 := f155.other W162 (Or.inr (slot_ne (Or.inr (wm hw 182 rfl)) (Or.inl (wm hw 212 rfl)) (by decide) (t := (.object sn22)) (t' := .long) (by decide) (by decide)))
  have f173 := f156.other W162 (Or.inr (slot_ne (Or.inl (wm hw 184 rfl)) (Or.inl (wm hw 212 rfl)) (by decide) (t := .boolean) (t' := .long) (by decide) (by decide)))
  have f174 := f157.other W162 (Or.inr (slot_ne (Or.inr (wm hw 186 rfl)) (Or.inl (wm hw 212 rfl)) (by decide) (t := (.object sn3)) (t' := .long) (by decide) (by decide)))
  have f175 := f158.other W162 (Or.inr (slot_ne (Or.inr (wm hw 188 rfl)) (Or.inl (wm hw 212 rfl)) (by decide) (t := (.object sn7)) (t' := .long) (by decide) (by decide)))
  have f176 := f159.other W162 (Or.inr (slot_ne (Or.inr (wm hw 206 rfl)) (Or.inl (wm hw 212 rfl)) (by decide) (t := .long) (t' := .long) (by decide) (by decide)))
  have f177 := f160.other W162 (Or.inr (slot_ne (Or.inr (wm hw 208 rfl)) (Or.inl (wm hw 212 rfl)) (by decide) (t := (.object sn8)) (t' := .long) (by decide) (by decide)))
  have f178 := f145.other W162 (Or.inr (slot_ne (Or.inr (wm hw 210 rfl)) (Or.inl (wm hw 212 rfl)) (by decide) (t := (.object sn9)) (t' := .long) (by decide) (by decide)))
  have N162 := Fr.snoc X162 N144 g_r0
  have K162 := K144.wr W162 (Or.inl (List.mem_of_getElem? (i := 0) rfl))
  have Z162 := Nat.le_trans Z144 (Keep.of_wr W162).1
  refine zretV X162 hx hrt hlk (hb hby d20_66) e162 hG (by decide) (by decide) ?_
  exact ⟨rfl, N162, K162⟩
theorem pn_36 : plainName "java/lang/Integer" = true := by first | (simp [plainName, overriddenIn]; done) | decide +kernel
theorem d36_0 : decode cn27 0 = .ok (.iload_n 0, 1) := by decide +kernel
theorem d36_1 : decode cn27 1 = .ok (.ifCond .gt 14, 3) := by decide +kernel
theorem d36_15 : decode cn27 15 = .ok (.bipush 31, 2) := by decide +kernel
theorem d36_17 : decode cn27 17 = .ok (.istore_n 1, 1) := by decide +kernel
theorem d36_18 : decode cn27 18 = .ok (.iload_n 0, 1) := by decide +kernel
theorem d36_19 : decode cn27 19 = .ok (.ldc_w 264, 3) := by decide +kernel
theorem d36_22 : decode cn27 22 = .ok (.if_icmp .lt 11, 3) := by decide +kernel
theorem d36_33 : decode cn27 33 = .ok (.iload_n 0, 1) := by decide +kernel
theorem d36_34 : decode cn27 34 = .ok (.sipush 256, 3) := by decide +kernel
theorem d36_37 : decode cn27 37 = .ok (.if_icmp .lt 11, 3) := by decide +kernel
theorem d36_48 : decode cn27 48 = .ok (.iload_n 0, 1) := by decide +kernel
theorem d36_49 : decode cn27 49 = .ok (.bipush 16, 2) := by decide +kernel
theorem d36_51 : decode cn27 51 = .ok (.if_icmp .lt 10, 3) := by decide +kernel
theorem d36_61 : decode cn27 61 = .ok (.iload_n 0, 1) := by decide +kernel
theorem d36_62 : decode cn27 62 = .ok (.iconst 4, 1) := by decide +kernel
theorem d36_63 : decode cn27 63 = .ok (.if_icmp .lt 10, 3) := by decide +kernel
theorem d36_73 : decode cn27 73 = .ok (.iload_n 1, 1) := by decide +kernel
theorem d36_74 : decode cn27 74 = .ok (.iload_n 0, 1) := by decide +kernel
theorem d36_75 : decode cn27 75 = .ok (.iconst 1, 1) := by decide +kernel
theorem d36_76 : decode cn27 76 = .ok (.iushr, 1) := by decide +kernel
theorem d36_77 : decode cn27 77 = .ok (.isub, 1) := by decide +kernel
theorem d36_78 : decode cn27 78 = .ok (.ireturn, 1) := by decide +kernel
theorem ef_36_3 (m : MethodId)  : entryFrame m #[(.int (3 : Int32))] 2 = mkF m 0 #[iv (3 : Int32), un] [] := by first | (simp [entryFrame, mkF, argsToLocals, Value.category, iv, rv, lv, un, sd]; done) | rfl
def Q36_3 (Z : State)  (h0 : Heap) (n0 : Nat) (v : Option Value) (h : Heap) (L : List Loc) : Prop := v = some (.int (30 : Int32)) ∧ Fr n0 L ∧ h = h0
set_option maxRecDepth 65536 in
set_option maxHeartbeats 40000000 in
theorem rm36_3 (l : Launch) (Z : State) (a0 : Array Value) (hw : ∀ d ∈ tables_1, d.before a0 Z = true) (ws : List Jvm.Cond)  (h0 : Heap) (n0 : Nat) (Z0 : n0 ≤ h0.size) :
    Mzz l yn27 cn27 2 (some .int) ws (rk 0 0 0 0) #[(.int (3 : Int32))] Z h0 (Q36_3 Z  h0 n0) := by
  refine Mzz.go (own := "java/lang/Integer") (nm := "numberOfLeadingZeros") (L0 := #[iv (3 : Int32), un]) (plainFor_of_name pn_36) rfl rfl (fun m => ef_36_3 m ) ?_
  intro p e s m below meth c s₁ hx hby hml hown hnm X0 e0 hZ hrt hlk G hG
  have N0 := Fr.nil n0
  show Go p.tables e below G (s₁.setTop (mkF m 0 #[iv (3 : Int32), un] []))
  refine ziloadN X0 hx (hb hby d36_0) rfl ?_
  refine zifYes X0 hx (pc' := 15) (hb hby d36_1) ((if0 _ _).trans (tlt (by decide : (0 : Int32) < (3 : Int32))).2.2.1) (by decide) (by decide) ?_
  refine zbipush X0 hx (hb hby d36_15) (z := (31 : Int32)) rfl ?_
  refine zistoreN X0 hx (l' := #[iv (3 : Int32), iv (31 : Int32)]) (hb hby d36_17) rfl ?_
  refine ziloadN X0 hx (hb hby d36_18) rfl ?_
  refine Go.stp (fun t_ k_ => X0.ldcwInt hx hown (mvT hZ (wm hw 264 rfl)) (g := (mkF m 19 #[iv (3 : Int32), iv (31 : Int32)] [(.int (3 : Int32))])) rfl (hb hby d36_19) t_ k_) ?_
  show Go p.tables e below G (s₁.setTop (mkF m 22 #[iv (3 : Int32), iv (31 : Int32)] [(.int (65536 : Int32)), (.int (3 : Int32))]))
  refine zicmpYes X0 hx (pc' := 33) (hb hby d36_22) (tlt (by decide : (3 : Int32) < (65536 : Int32))).1 (by decide) (by decide) ?_
  refine ziloadN X0 hx (hb hby d36_33) rfl ?_
  refine zsipush X0 hx (hb hby d36_34) (z := (256 : Int32)) rfl ?_
  refine zicmpYes X0 hx (pc' := 48) (hb hby d36_37) (tlt (by decide : (3 : Int32) < (256 : Int32))).1 (by decide) (by decide) ?_
  refine ziloadN X0 hx (hb hby d36_48) rfl ?_
  refine zbipush X0 hx (hb hby d36_49) (z := (16 : Int32)) rfl ?_
  refine zicmpYes X0 hx (pc' := 61) (hb hby d36_51) (tlt (by decide : (3 : Int32) < (16 : Int32))).1 (by decide) (by decide) ?_
  refine ziloadN X0 hx (hb hby d36_61) rfl ?_
  refine ziconst X0 hx (hb hby d36_62) (z := (4 : Int32)) rfl ?_
  refine zicmpYes X0 hx (pc' := 73) (hb hby d36_63) (tlt (by decide : (3 : Int32) < (4 : Int32))).1 (by decide) (by decide) ?_
  refine ziloadN X0 hx (hb hby d36_73) rfl ?_
  refine ziloadN X0 hx (hb hby d36_74) rfl ?_
  refine ziconst X0 hx (hb hby d36_75) (z := (1 : Int32)) rfl ?_
  refine ziushr X0 hx (hb hby d36_76) ?_
  refine zisub X0 hx (hb hby d36_77) ?_
  refine zretI X0 hx hrt hlk (hb hby d36_78) e0 hG (by decide) (by decide) ?_
  exact ⟨congrArg (fun z => some (Value.int z)) (by decide +kernel : ((31 : Int32) - (((3 : Int32).toUInt32 >>> ((1 : Int32) &&& 31).toUInt32).toInt32)) = (30 : Int32)), N0, rfl⟩
theorem d36_66 : decode cn27 66 = .ok (.iinc 1 (-2), 3) := by decide +kernel
theorem d36_69 : decode cn27 69 = .ok (.iload_n 0, 1) := by decide +kernel
theorem d36_70 : decode cn27 70 = .ok (.iconst 2, 1) := by decide +kernel
theorem d36_71 : decode cn27 71 = .ok (.iushr, 1) := by decide +kernel
theorem d36_72 : decode cn27 72 = .ok (.istore_n 0, 1) := by decide +kernel
theorem ef_36_7 (m : MethodId)  : entryFrame m #[(.int (7 : Int32))] 2 = mkF m 0 #[iv (7 : Int32), un] [] := by first | (simp [entryFrame, mkF, argsToLocals, Value.category, iv, rv, lv, un, sd]; done) | rfl
def Q36_7 (Z : State)  (h0 : Heap) (n0 : Nat) (v : Option Value) (h : Heap) (L : List Loc) : Prop := v = some (.int (29 : Int32)) ∧ Fr n0 L ∧ h = h0
set_option maxRecDepth 65536 in
set_option maxHeartbeats 40000000 in
theorem rm36_7 (l : Launch) (Z : State) (a0 : Array Value) (hw : ∀ d ∈ tables_1, d.before a0 Z = true) (ws : List Jvm.Cond)  (h0 : Heap) (n0 : Nat) (Z0 : n0 ≤ h0.size) :
    Mzz l yn27 cn27 2 (some .int) ws (rk 0 0 0 0) #[(.int (7 : Int32))] Z h0 (Q36_7 Z  h0 n0) := by
  refine Mzz.go (own := "java/lang/Integer") (nm := "numberOfLeadingZeros") (L0 := #[iv (7 : Int32), un]) (plainFor_of_name pn_36) rfl rfl (fun m => ef_36_7 m ) ?_
  intro p e s m below meth c s₁ hx hby hml hown hnm X0 e0 hZ hrt hlk G hG
  have N0 := Fr.nil n0
  show Go p.tables e below G (s₁.setTop (mkF m 0 #[iv (7 : Int32), un] []))
  refine ziloadN X0 hx (hb hby d36_0) rfl ?_
  refine zifYes X0 hx (pc' := 15) (hb hby d36_1) ((if0 _ _).trans (tlt (by decide : (0 : Int32) < (7 : Int32))).2.2.1) (by decide) (by decide) ?_
  refine zbipush X0 hx (hb hby d36_15) (z := (31 : Int32)) rfl ?_
  refine zistoreN X0 hx (l' := #[iv (7 : Int32), iv (31 : Int32)]) (hb hby d36_17) rfl ?_
  refine ziloadN X0 hx (hb hby d36_18) rfl ?_
  refine Go.stp (fun t_ k_ => X0.ldcwInt hx hown (mvT hZ (wm hw 264 rfl)) (g := (mkF m 19 #[iv (7 : Int32), iv (31 : Int32)] [(.int (7 : Int32))])) rfl (hb hby d36_19) t_ k_) ?_
  show Go p.tables e below G (s₁.setTop (mkF m 22 #[iv (7 : Int32), iv (31 : Int32)] [(.int (65536 : Int32)), (.int (7 : Int32))]))
  refine zicmpYes X0 hx (pc' := 33) (hb hby d36_22) (tlt (by decide : (7 : Int32) < (65536 : Int32))).1 (by decide) (by decide) ?_
  refine ziloadN X0 hx (hb hby d36_33) rfl ?_
  refine zsipush X0 hx (hb hby d36_34) (z := (256 : Int32)) rfl ?_
  refine zicmpYes X0 hx (pc' := 48) (hb hby d36_37) (tlt (by decide : (7 : Int32) < (256 : Int32))).1 (by decide) (by decide) ?_
  refine ziloadN X0 hx (hb hby d36_48) rfl ?_
  refine zbipush X0 hx (hb hby d36_49) (z := (16 : Int32)) rfl ?_
  refine zicmpYes X0 hx (pc' := 61) (hb hby d36_51) (tlt (by decide : (7 : Int32) < (16 : Int32))).1 (by decide) (by decide) ?_
  refine ziloadN X0 hx (hb hby d36_61) rfl ?_
  refine ziconst X0 hx (hb hby d36_62) (z := (4 : Int32)) rfl ?_
  refine zicmpNo X0 hx (hb hby d36_63) (flt (by decide : ¬ ((7 : Int32) < (4 : Int32)))).1 ?_
  refine ziinc X0 hx (l' := #[iv (7 : Int32), iv ((31 : Int32) + (-2 : Int32))]) (hb hby d36_66) rfl rfl ?_
  refine ziloadN X0 hx (hb hby d36_69) rfl ?_
  refine ziconst X0 hx (hb hby d36_70) (z := (2 : Int32)) rfl ?_
  refine ziushr X0 hx (hb hby d36_71) ?_
  refine zistoreN X0 hx (l' := #[iv (((7 : Int32).toUInt32 >>> ((2 : Int32) &&& 31).toUInt32).toInt32), iv ((31 : Int32) + (-2 : Int32))]) (hb hby d36_72) rfl ?_
  refine ziloadN X0 hx (hb hby d36_73) rfl ?_
  refine ziloadN X0 hx (hb hby d36_74) rfl ?_
  refine ziconst X0 hx (hb hby d36_75) (z := (1 : Int32)) rfl ?_
  refine ziushr X0 hx (hb hby d36_76) ?_
  refine zisub X0 hx (hb hby d36_77) ?_
  refine zretI X0 hx hrt hlk (hb hby d36_78) e0 hG (by decide) (by decide) ?_
  exact ⟨congrArg (fun z => some (Value.int z)) (by decide +kernel : (((31 : Int32) + (-2 : Int32)) - (((((7 : Int32).toUInt32 >>> ((2 : Int32) &&& 31).toUInt32).toInt32).toUInt32 >>> ((1 : Int32) &&& 31).toUInt32).toInt32)) = (29 : Int32)), N0, rfl⟩
theorem d35_0 : decode cn28 0 = .ok (.iload_n 1, 1) := by decide +kernel
theorem d35_1 : decode cn28 1 = .ok (.ldc 86, 2) := by decide +kernel
theorem d35_3 : decode cn28 3 = .ok (.imul, 1) := by decide +kernel
theorem d35_4 : decode cn28 4 = .ok (.aload_n 0, 1) := by decide +kernel
theorem d35_5 : decode cn28 5 = .ok (.getfield 17, 3) := by decide +kernel
theorem d35_8 : decode cn28 8 = .ok (.arraylength, 1) := by decide +kernel
theorem d35_9 : decode cn28 9 = .ok (.iconst 1, 1) := by decide +kernel
theorem d35_10 : decode cn28 10 = .ok (.isub, 1) := by decide +kernel
theorem d35_11 : decode cn28 11 = .ok (.invokestatic 87, 3) := by decide +kernel
theorem d35_14 : decode cn28 14 = .ok (.iushr, 1) := by decide +kernel
theorem d35_15 : decode cn28 15 = .ok (.ireturn, 1) := by decide +kernel
theorem ef_35_4 (m : MethodId) (r0 : Addr) (p1 : Int32) : entryFrame m #[(.ref r0), (.int p1)] 2 = mkF m 0 #[rv r0, iv p1] [] := by first | (simp [entryFrame, mkF, argsToLocals, Value.category, iv, rv, lv, un, sd]; done) | rfl
def Q35_4 (Z : State) (r0 : Addr) (p1 : Int32) (ao : Addr) (hd : Addr) (F : Nat → Bool) (h0 : Heap) (n0 : Nat) (v : Option Value) (h : Heap) (L : List Loc) : Prop := v = some (.int (own_hm4 p1)) ∧ Fr n0 L ∧ h = h0
set_option maxRecDepth 65536 in
set_option maxHeartbeats 40000000 in
theorem rm35_4 (l : Launch) (Z : State) (a0 : Array Value) (hw : ∀ d ∈ tables_1, d.before a0 Z = true) (ws : List Jvm.Cond) (r0 : Addr) (p1 : Int32) (ao : Addr) (hd : Addr) (F : Nat → Bool) (h0 : Heap) (n0 : Nat) (Z0 : n0 ≤ h0.size) (F_o : Fld Z h0 r0 sn1 "holders" sn2 (.ref ao)) (I_o : Ho Z h0 ao 4 hd F) :
    Mzz l yn28 cn28 2 (some .int) ws (rk 1 0 0 14) #[(.ref r0), (.int p1)] Z h0 (Q35_4 Z r0 p1 ao hd F h0 n0) := by
  refine Mzz.go (own := sn1) (nm := "home") (L0 := #[rv r0, iv p1]) (plainFor_of_name pn_29) rfl rfl (fun m => ef_35_4 m r0 p1) ?_
  intro p e s m below meth c s₁ hx hby hml hown hnm X0 e0 hZ hrt hlk G hG
  have N0 := Fr.nil n0
  show Go p.tables e below G (s₁.setTop (mkF m 0 #[rv r0, iv p1] []))
  refine ziloadN X0 hx (hb hby d35_0) rfl ?_
  refine Go.stp (fun t_ k_ => X0.ldcInt hx hown (mvT hZ (wm hw 259 rfl)) (g := (mkF m 1 #[rv r0, iv p1] [(.int p1)])) rfl (hb hby d35_1) t_ k_) ?_
  show Go p.tables e below G (s₁.setTop (mkF m 3 #[rv r0, iv p1] [(.int (-1640531527 : Int32)), (.int p1)]))
  refine zimul X0 hx (hb hby d35_3) ?_
  refine zaloadN X0 hx (hb hby d35_4) rfl rfl ?_
  refine zgetF X0 hx hZ hown (wm hw 229 rfl) e0 F_o (hb hby d35_5) (fun T1 X1 e1 => ?_)
  obtain ⟨cl2, Ar2, Sz2, -, -⟩ := id I_o
  refine zlen X1 hx hZ e1 Ar2 Sz2 (z := (4 : Int32)) rfl (hb hby d35_8) ?_
  refine ziconst X1 hx (hb hby d35_9) (z := (1 : Int32)) rfl ?_
  refine zisub X1 hx (hb hby d35_10) ?_
  obtain ⟨_, _, ⟨T3, L3, k3, n3⟩, -, X3, ⟨Lc3, hQ3, l3, y3, z3⟩, st3⟩ := Jvm.LawKit.callS X1 hx (y := yn27) hown (mvT hZ (wm hw 260 rfl)) (mvT hZ (wm hw 261 rfl)) (mvT hZ (wm hw 262 rfl)) (mvT hZ (wm hw 263 rfl)) (by decide) (backOf (W := 1) (rm36_3 l Z a0 hw [] h0 n0 Z0) hZ (wm hw 263 rfl) (wm hw 262 rfl) (by decide) (by decide)) (g := (mkF m 11 #[rv r0, iv p1] [(.int ((4 : Int32) - (1 : Int32))), (.int (p1 * (-1640531527 : Int32)))])) rfl (by rw [hml]; rfl) (argsL := [(.int ((4 : Int32) - (1 : Int32)))]) (rest := [(.int (p1 * (-1640531527 : Int32)))]) (lenOf pd_19 rfl) rfl (by show 2 * 0 + _ ≤ _; exact Nat.le_of_eq rfl) (hb hby d35_11) (fun _ _ => ⟨rfl, e1, (by decide : 0 + 0 ≤ _), (by decide : 0 + 0 ≤ _)⟩)
  dsimp only [Pt.U, Pt.locs, Pt.cells, Pt.slots] at X3 l3 y3 z3 st3 hQ3
  subst l3 y3 z3
  obtain ⟨rfl, Nq3, e3⟩ := hQ3
  have N3 := Fr.app N0 Nq3
  refine Go.stp (fun t_ k_ => st3 t_ k_) ?_
  show Go p.tables e below G (T3.setTop (mkF m 14 #[rv r0, iv p1] [(.int (30 : Int32)), (.int (p1 * (-1640531527 : Int32)))]))
  refine ziushr X3 hx (hb hby d35_14) ?_
  refine zretI X3 hx hrt hlk (hb hby d35_15) e3 hG (by decide) (by decide) ?_
  exact ⟨rfl, N3, rfl⟩
theorem ef_35_8 (m : MethodId) (r0 : Addr) (p1 : Int32) : entryFrame m #[(.ref r0), (.int p1)] 2 = mkF m 0 #[rv r0, iv p1] [] := by first | (simp [entryFrame, mkF, argsToLocals, Value.category, iv, rv, lv, un, sd]; done) | rfl
def Q35_8 (Z : State) (r0 : Addr) (p1 : Int32) (ao : Addr) (hd : Addr) (F : Nat → Bool) (h0 : Heap) (n0 : Nat) (v : Option Value) (h : Heap) (L : List Loc) : Prop := v = some (.int (own_hm8 p1)) ∧ Fr n0 L ∧ h = h0
set_option maxRecDepth 65536 in
set_option maxHeartbeats 40000000 in
theorem rm35_8 (l : Launch) (Z : State) (a0 : Array Value) (hw : ∀ d ∈ tables_1, d.before a0 Z = true) (ws : List Jvm.Cond) (r0 : Addr) (p1 : Int32) (ao : Addr) (hd : Addr) (F : Nat → Bool) (h0 : Heap) (n0 : Nat) (Z0 : n0 ≤ h0.size) (F_o : Fld Z h0 r0 sn1 "holders" sn2 (.ref ao)) (I_o : Ho Z h0 ao 8 hd F) :
    Mzz l yn28 cn28 2 (some .int) ws (rk 1 0 0 14) #[(.ref r0), (.int p1)] Z h0 (Q35_8 Z r0 p1 ao hd F h0 n0) := by
  refine Mzz.go (own := sn1) (nm := "home") (L0 := #[rv r0, iv p1]) (plainFor_of_name pn_29) rfl rfl (fun m => ef_35_8 m r0 p1) ?_
  intro p e s m below meth c s₁ hx hby hml hown hnm X0 e0 hZ hrt hlk G hG
  have N0 := Fr.nil n0
  show Go p.tables e below G (s₁.setTop (mkF m 0 #[rv r0, iv p1] []))
  refine ziloadN X0 hx (hb hby d35_0) rfl ?_
  refine Go.stp (fun t_ k_ => X0.ldcInt hx hown (mvT hZ (wm hw 259 rfl)) (g := (mkF m 1 #[rv r0, iv p1] [(.int p1)])) rfl (hb hby d35_1) t_ k_) ?_
  show Go p.tables e below G (s₁.setTop (mkF m 3 #[rv r0, iv p1] [(.int (-1640531527 : Int32)), (.int p1)]))
  refine zimul X0 hx (hb hby d35_3) ?_
  refine zaloadN X0 hx (hb hby d35_4) rfl rfl ?_
  refine zgetF X0 hx hZ hown (wm hw 229 rfl) e0 F_o (hb hby d35_5) (fun T1 X1 e1 => ?_)
  obtain ⟨cl2, Ar2, Sz2, -, -⟩ := id I_o
  refine zlen X1 hx hZ e1 Ar2 Sz2 (z := (8 : Int32)) rfl (hb hby d35_8) ?_
  refine ziconst X1 hx (hb hby d35_9) (z := (1 : Int32)) rfl ?_
  refine zisub X1 hx (hb hby d35_10) ?_
  obtain ⟨_, _, ⟨T3, L3, k3, n3⟩, -, X3, ⟨Lc3, hQ3, l3, y3, z3⟩, st3⟩ := Jvm.LawKit.callS X1 hx (y := yn27) hown (mvT hZ (wm hw 260 rfl)) (mvT hZ (wm hw 261 rfl)) (mvT hZ (wm hw 262 rfl)) (mvT hZ (wm hw 263 rfl)) (by decide) (backOf (W := 1) (rm36_7 l Z a0 hw [] h0 n0 Z0) hZ (wm hw 263 rfl) (wm hw 262 rfl) (by decide) (by decide)) (g := (mkF m 11 #[rv r0, iv p1] [(.int ((8 : Int32) - (1 : Int32))), (.int (p1 * (-1640531527 : Int32)))])) rfl (by rw [hml]; rfl) (argsL := [(.int ((8 : Int32) - (1 : Int32)))]) (rest := [(.int (p1 * (-1640531527 : Int32)))]) (lenOf pd_19 rfl) rfl (by show 2 * 0 + _ ≤ _; exact Nat.le_of_eq rfl) (hb hby d35_11) (fun _ _ => ⟨rfl, e1, (by decide : 0 + 0 ≤ _), (by decide : 0 + 0 ≤ _)⟩)
  dsimp only [Pt.U, Pt.locs, Pt.cells, Pt.slots] at X3 l3 y3 z3 st3 hQ3
  subst l3 y3 z3
  obtain ⟨rfl, Nq3, e3⟩ := hQ3
  have N3 := Fr.app N0 Nq3
  refine Go.stp (fun t_ k_ => st3 t_ k_) ?_
  show Go p.tables e below G (T3.setTop (mkF m 14 #[rv r0, iv p1] [(.int (29 : Int32)), (.int (p1 * (-1640531527 : Int32)))]))
  refine ziushr X3 hx (hb hby d35_14) ?_
  refine zretI X3 hx hrt hlk (hb hby d35_15) e3 hG (by decide) (by decide) ?_
  exact ⟨rfl, N3, rfl⟩
theorem d31_0 : decode cn29 0 = .ok (.aload_n 0, 1) := by decide +kernel
theorem d31_1 : decode cn29 1 = .ok (.getfield 17, 3) := by decide +kernel
theorem d31_4 : decode cn29 4 = .ok (.ifnonnull 5, 3) := by decide +kernel
theorem d31_7 : decode cn29 7 = .ok (.iconst (-1), 1) := by decide +kernel
theorem d31_8 : decode cn29 8 = .ok (.ireturn, 1) := by decide +kernel
theorem ef_31_0 (m : MethodId) (r0 : Addr) (p1 : Int32) : entryFrame m #[(.ref r0), (.int p1)] 4 = mkF m 0 #[rv r0, iv p1, un, un] [] := by first | (simp [entryFrame, mkF, argsToLocals, Value.category, iv, rv, lv, un, sd]; done) | rfl
def Q31_0 (Z : State) (r0 : Addr) (p1 : Int32) (h0 : Heap) (n0 : Nat) (v : Option Value) (h : Heap) (L : List Loc) : Prop := v = some (.int (-1 : Int32)) ∧ Fr n0 L ∧ h = h0
set_option maxRecDepth 65536 in
set_option maxHeartbeats 40000000 in
theorem rm31_0 (l : Launch) (Z : State) (a0 : Array Value) (hw : ∀ d ∈ tables_1, d.before a0 Z = true) (ws : List Jvm.Cond) (r0 : Addr) (p1 : Int32) (h0 : Heap) (n0 : Nat) (Z0 : n0 ≤ h0.size) (F_o : Fld Z h0 r0 sn1 "holders" sn2 .null) :
    Mzz l yn29 cn29 4 (some .int) ws (rk 2 0 0 27) #[(.ref r0), (.int p1)] Z h0 (Q31_0 Z r0 p1 h0 n0) := by
  refine Mzz.go (own := sn1) (nm := "slotOf") (L0 := #[rv r0, iv p1, un, un]) (plainFor_of_name pn_29) rfl rfl (fun m => ef_31_0 m r0 p1) ?_
  intro p e s m below meth c s₁ hx hby hml hown hnm X0 e0 hZ hrt hlk G hG
  have N0 := Fr.nil n0
  show Go p.tables e below G (s₁.setTop (mkF m 0 #[rv r0, iv p1, un, un] []))
  refine zaloadN X0 hx (hb hby d31_0) rfl rfl ?_
  refine zgetF X0 hx hZ hown (wm hw 229 rfl) e0 F_o (hb hby d31_1) (fun T1 X1 e1 => ?_)
  refine zifnonnullNo X1 hx (hb hby d31_4) ?_
  refine ziconst X1 hx (hb hby d31_7) (z := (-1 : Int32)) rfl ?_
  refine zretI X1 hx hrt hlk (hb hby d31_8) e1 hG (by decide) (by decide) ?_
  exact ⟨rfl, N0, rfl⟩
theorem d31_9 : decode cn29 9 = .ok (.aload_n 0, 1) := by decide +kernel
theorem d31_10 : decode cn29 10 = .ok (.getfield 17, 3) := by decide +kernel
theorem d31_13 : decode cn29 13 = .ok (.arraylength, 1) := by decide +kernel
theorem d31_14 : decode cn29 14 = .ok (.iconst 1, 1) := by decide +kernel
theorem d31_15 : decode cn29 15 = .ok (.isub, 1) := by decide +kernel
theorem d31_16 : decode cn29 16 = .ok (.istore_n 2, 1) := by decide +kernel
theorem d31_17 : decode cn29 17 = .ok (.aload_n 0, 1) := by decide +kernel
theorem d31_18 : decode cn29 18 = .ok (.iload_n 1, 1) := by decide +kernel
theorem d31_19 : decode cn29 19 = .ok (.invokevirtual 42, 3) := by decide +kernel
theorem d31_22 : decode cn29 22 = .ok (.istore_n 3, 1) := by decide +kernel
theorem d31_23 : decode cn29 23 = .ok (.aload_n 0, 1) := by decide +kernel
theorem d31_24 : decode cn29 24 = .ok (.getfield 17, 3) := by decide +kernel
theorem d31_27 : decode cn29 27 = .ok (.iload_n 3, 1) := by decide +kernel
theorem d31_28 : decode cn29 28 = .ok (.aaload, 1) := by decide +kernel
theorem d31_29 : decode cn29 29 = .ok (.ifnull 24, 3) := by decide +kernel
theorem d31_32 : decode cn29 32 = .ok (.aload_n 0, 1) := by decide +kernel
theorem d31_33 : decode cn29 33 = .ok (.getfield 39, 3) := by decide +kernel
theorem d31_36 : decode cn29 36 = .ok (.iload_n 3, 1) := by decide +kernel
theorem d31_37 : decode cn29 37 = .ok (.iaload, 1) := by decide +kernel
theorem d31_38 : decode cn29 38 = .ok (.iload_n 1, 1) := by decide +kernel
theorem d31_39 : decode cn29 39 = .ok (.if_icmp .ne 5, 3) := by decide +kernel
theorem d31_42 : decode cn29 42 = .ok (.iload_n 3, 1) := by decide +kernel
theorem d31_43 : decode cn29 43 = .ok (.ireturn, 1) := by decide +kernel
theorem d31_44 : decode cn29 44 = .ok (.iload_n 3, 1) := by decide +kernel
theorem d31_45 : decode cn29 45 = .ok (.iconst 1, 1) := by decide +kernel
theorem d31_46 : decode cn29 46 = .ok (.iadd, 1) := by decide +kernel
theorem d31_47 : decode cn29 47 = .ok (.iload_n 2, 1) := by decide +kernel
theorem d31_48 : decode cn29 48 = .ok (.iand, 1) := by decide +kernel
theorem d31_49 : decode cn29 49 = .ok (.istore_n 3, 1) := by decide +kernel
theorem d31_50 : decode cn29 50 = .ok (.goto (-27), 3) := by decide +kernel
theorem d31_53 : decode cn29 53 = .ok (.iconst (-1), 1) := by decide +kernel
theorem d31_54 : decode cn29 54 = .ok (.ireturn, 1) := by decide +kernel
theorem ef_31_4 (m : MethodId) (r0 : Addr) (p1 : Int32) : entryFrame m #[(.ref r0), (.int p1)] 4 = mkF m 0 #[rv r0, iv p1, un, un] [] := by first | (simp [entryFrame, mkF, argsToLocals, Value.category, iv, rv, lv, un, sd]; done) | rfl
def Q31_4 (Z : State) (r0 : Addr) (p1 : Int32) (hd : Addr) (F : Nat → Bool) (K : Nat → Int32) (ah : Addr) (ao : Addr) (t : Nat) (h0 : Heap) (n0 : Nat) (v : Option Value) (h : Heap) (L : List Loc) : Prop := v = some (.int (if F (own_P4 p1 t) = true then (own_it (own_hm4 p1) ((4 : Int32) - (1 : Int32)) t) else (-1 : Int32))) ∧ Fr n0 L ∧ h = h0
set_option maxRecDepth 65536 in
set_option maxHeartbeats 40000000 in
theorem rm31_4 (l : Launch) (Z : State) (a0 : Array Value) (hw : ∀ d ∈ tables_1, d.before a0 Z = true) (ws : List Jvm.Cond) (r0 : Addr) (p1 : Int32) (hd : Addr) (F : Nat → Bool) (K : Nat → Int32) (ah : Addr) (ao : Addr) (t : Nat) (h0 : Heap) (n0 : Nat) (Z0 : n0 ≤ h0.size) (E_r0 : Exa Z h0 r0 sn1) (F_h : Fld Z h0 r0 sn1 "hashes" "[I" (.ref ah)) (F_o : Fld Z h0 r0 sn1 "holders" sn2 (.ref ao)) (I_h : Ia Z h0 ah .int 4 Value.int K) (I_o : Ho Z h0 ao 4 hd F) (hs : Stp F K (own_P4 p1) p1 t) :
    Mzz l yn29 cn29 4 (some .int) ws (rk 2 0 0 27) #[(.ref r0), (.int p1)] Z h0 (Q31_4 Z r0 p1 hd F K ah ao t h0 n0) := by
  refine Mzz.go (own := sn1) (nm := "slotOf") (L0 := #[rv r0, iv p1, un, un]) (plainFor_of_name pn_29) rfl rfl (fun m => ef_31_4 m r0 p1) ?_
  intro p e s m below meth c s₁ hx hby hml hown hnm X0 e0 hZ hrt hlk G hG
  have N0 := Fr.nil n0
  show Go p.tables e below G (s₁.setTop (mkF m 0 #[rv r0, iv p1, un, un] []))
  refine zaloadN X0 hx (hb hby d31_0) rfl rfl ?_
  refine zgetF X0 hx hZ hown (wm hw 229 rfl) e0 F_o (hb hby d31_1) (fun T1 X1 e1 => ?_)
  refine zifnonnullYes X1 hx (pc' := 9) (hb hby d31_4) (by decide) (by decide) ?_
  refine zaloadN X1 hx (hb hby d31_9) rfl rfl ?_
  refine zgetF X1 hx hZ hown (wm hw 229 rfl) e1 F_o (hb hby d31_10) (fun T2 X2 e2 => ?_)
  obtain ⟨cl3, Ar3, Sz3, -, -⟩ := id I_o
  refine zlen X2 hx hZ e2 Ar3 Sz3 (z := (4 : Int32)) rfl (hb hby d31_13) ?_
  refine ziconst X2 hx (hb hby d31_14) (z := (1 : Int32)) rfl ?_
  refine zisub X2 hx (hb hby d31_15) ?_
  refine zistoreN X2 hx (l' := #[rv r0, iv p1, iv ((4 : Int32) - (1 : Int32)), un]) (hb hby d31_16) rfl ?_
  refine zaloadN X2 hx (hb hby d31_17) rfl rfl ?_
  refine ziloadN X2 hx (hb hby d31_18) rfl ?_
  obtain ⟨cq4, qq4, qq4'⟩ := E_r0.cell
  obtain ⟨_, _, ⟨T4, L4, k4, n4⟩, -, X4, ⟨Lc4, hQ4, l4, y4, z4⟩, st4⟩ := X2.privateBack hx (y := yn28) hown (mvT hZ (wm hw 255 rfl)) (mvT hZ (wm hw 256 rfl)) (sel_priv (mvT hZ (wm hw 214 rfl)) (Cond.privateMethod_at (mvP hZ (wm hw 257 rfl) (args := #[]))) (mvT hZ (wm hw 256 rfl)) (by decide)) (Cond.privateMethod_at (mvP hZ (wm hw 257 rfl) (args := #[]))) (mvT hZ (wm hw 258 rfl)) (by decide) (backOf (W := 0) (rm35_4 l Z a0 hw [] r0 p1 ao hd F h0 n0 Z0 F_o I_o) hZ (wm hw 258 rfl) (wm hw 215 rfl) (by decide) (by decide)) (g := (mkF m 19 #[rv r0, iv p1, iv ((4 : Int32) - (1 : Int32)), un] [(.int p1), (.ref r0)])) rfl (by rw [hml]; rfl) (Steps.refl _) (a := r0) (by rw [e2]; exact qq4) qq4' (argsL := [(.int p1)]) (rest := []) (lenOf pd_19 rfl) rfl (by show 2 * 0 + _ ≤ _; exact Nat.le_of_eq rfl) (hb hby d31_19) (fun _ _ => ⟨rfl, e2, (by decide : 0 + 0 ≤ _), (by decide : 0 + 0 ≤ _)⟩)
  dsimp only [Pt.U, Pt.locs, Pt.cells, Pt.slots] at X4 l4 y4 z4 st4 hQ4
  subst l4 y4 z4
  obtain ⟨rfl, Nq4, e4⟩ := hQ4
  have N4 := Fr.app N0 Nq4
  refine Go.stp (fun t_ k_ => st4.trans k_) ?_
  show Go p.tables e below G (T4.setTop (mkF m 22 #[rv r0, iv p1, iv ((4 : Int32) - (1 : Int32)), un] [(.int (own_hm4 p1))]))
  refine zistoreN X4 hx (l' := #[rv r0, iv p1, iv ((4 : Int32) - (1 : Int32)), iv (own_hm4 p1)]) (hb hby d31_22) rfl ?_
  show Go p.tables e below G (T4.setTop (mkF m 23 #[.val (.ref r0), .val (.int p1), .val (.int ((4 : Int32) - (1 : Int32))), .val (.int (own_it (own_hm4 p1) ((4 : Int32) - (1 : Int32)) 0))] []))
  suffices LP : ∀ (k : Nat) (T : State) (locs : List Loc) (u : Nat), Stand p l e (rk 2 0 0 27) s m #[(.ref r0), (.int p1)] below meth c T locs 0 0 → Fr n0 locs → T.heap = h0 → (u + k = t) → Go p.tables e below G (T.setTop (mkF m 23 #[rv r0, iv p1, iv ((4 : Int32) - (1 : Int32)), iv (own_it (own_hm4 p1) ((4 : Int32) - (1 : Int32)) u)] [])) from LP (t) _ _ (0) X4 N4 e4 (by omega)
  intro k
  induction k with
  | zero =>
    intro T locs u X N E hu
    obtain rfl : t = u := by omega
    show Go p.tables e below G (T.setTop (mkF m 23 #[rv r0, iv p1, iv ((4 : Int32) - (1 : Int32)), iv (own_it (own_hm4 p1) ((4 : Int32) - (1 : Int32)) t)] []))
    refine zaloadN X hx (hb hby d31_23) rfl rfl ?_
    refine zgetF X hx hZ hown (wm hw 229 rfl) E F_o (hb hby d31_24) (fun T5 X5 e5 => ?_)
    refine ziloadN X5 hx (hb hby d31_27) rfl ?_
    refine zaal X5 hx hZ e5 I_o (own_tb4 p1 t) (hb hby d31_28) ?_
    by_cases hc29 : (F ((own_it (own_hm4 p1) ((4 : Int32) - (1 : Int32)) t)).toNatClampNeg) = true
    · rw [show (mkh hd (F ((own_it (own_hm4 p1) ((4 : Int32) - (1 : Int32)) t)).toNatClampNeg)) = Value.ref hd from mkh_t hc29]
      show Go p.tables e below G (T5.setTop (mkF m 29 #[rv r0, iv p1, iv ((4 : Int32) - (1 : Int32)), iv (own_it (own_hm4 p1) ((4 : Int32) - (1 : Int32)) t)] [(.ref hd)]))
      refine zifnullNo X5 hx (hb hby d31_29) ?_
      refine zaloadN X5 hx (hb hby d31_32) rfl rfl ?_
      refine zgetF X5 hx hZ hown (wm hw 240 rfl) e5 F_h (hb hby d31_33) (fun T6 X6 e6 => ?_)
      refine ziloadN X6 hx (hb hby d31_36) rfl ?_
      refine zial X6 hx hZ e6 I_h (own_tb4 p1 t) (hb hby d31_37) ?_
      refine ziloadN X6 hx (hb hby d31_38) rfl ?_
      have hd39 : (K ((own_it (own_hm4 p1) ((4 : Int32) - (1 : Int32)) t)).toNatClampNeg) = p1 := (hs.2.resolve_left (fun q => absurd (hc29.symm.trans q) (by decide)))
      refine zicmpNo X6 hx (hb hby d31_39) (teq hd39).2 ?_
      refine ziloadN X6 hx (hb hby d31_42) rfl ?_
      refine zretI X6 hx hrt hlk (hb hby d31_43) e6 hG (by decide) (by decide) ?_
      exact ⟨congrArg (fun z => some (Value.int z)) (if_pos (show F (own_P4 p1 t) = true from hc29)).symm, N, rfl⟩
    · rw [show (mkh hd (F ((own_it (own_hm4 p1) ((4 : Int32) - (1 : Int32)) t)).toNatClampNeg)) = Value.null from mkh_f (by simpa using hc29)]
      show Go p.tables e below G (T5.setTop (mkF m 29 #[rv r0, iv p1, iv ((4 : Int32) - (1 : Int32)), iv (own_it (own_hm4 p1) ((4 : Int32) - (1 : Int32)) t)] [.null]))
      refine zifnullYes X5 hx (pc' := 53) (hb hby d31_29) (by decide) (by decide) ?_
      refine ziconst X5 hx (hb hby d31_53) (z := (-1 : Int32)) rfl ?_
      refine zretI X5 hx hrt hlk (hb hby d31_54) e5 hG (by decide) (by decide) ?_
      exact ⟨congrArg (fun z => some (Value.int z)) (if_neg (show ¬ (F (own_P4 p1 t) = true) from hc29)).symm, N, rfl⟩
  | succ k ih =>
    intro T locs u X N E hu
    have hsu := hs.1 u (by omega)
    show Go p.tables e below G (T.setTop (mkF m 23 #[rv r0, iv p1, iv ((4 : Int32) - (1 : Int32)), iv (own_it (own_hm4 p1) ((4 : Int32) - (1 : Int32)) u)] []))
    refine zaloadN X hx (hb hby d31_23) rfl rfl ?_
    refine zgetF X hx hZ hown (wm hw 229 rfl) E F_o (hb hby d31_24) (fun T7 X7 e7 => ?_)
    refine ziloadN X7 hx (hb hby d31_27) rfl ?_
    refine zaal X7 hx hZ e7 I_o (own_tb4 p1 u) (hb hby d31_28) ?_
    rw [show (mkh hd (F ((own_it (own_hm4 p1) ((4 : Int32) - (1 : Int32)) u)).toNatClampNeg)) = Value.ref hd from mkh_t hsu.1]
    show Go p.tables e below G (T7.setTop (mkF m 29 #[rv r0, iv p1, iv ((4 : Int32) - (1 : Int32)), iv (own_it (own_hm4 p1) ((4 : Int32) - (1 : Int32)) u)] [(.ref hd)]))
    refine zifnullNo X7 hx (hb hby d31_29) ?_
    refine zaloadN X7 hx (hb hby d31_32) rfl rfl ?_
    refine zgetF X7 hx hZ hown (wm hw 240 rfl) e7 F_h (hb hby d31_33) (fun T8 X8 e8 => ?_)
    refine ziloadN X8 hx (hb hby d31_36) rfl ?_
    refine zial X8 hx hZ e8 I_h (own_tb4 p1 u) (hb hby d31_37) ?_
    refine ziloadN X8 hx (hb hby d31_38) rfl ?_
    have hd39 : ¬ ((K ((own_it (own_hm4 p1) ((4 : Int32) - (1 : Int32)) u)).toNatClampNeg) = p1) := hsu.2
    refine zicmpYes X8 hx (pc' := 44) (hb hby d31_39) (feq hd39).2 (by decide) (by decide) ?_
    refine ziloadN X8 hx (hb hby d31_44) rfl ?_
    refine ziconst X8 hx (hb hby d31_45) (z := (1 : Int32)) rfl ?_
    refine ziadd X8 hx (hb hby d31_46) ?_
    refine ziloadN X8 hx (hb hby d31_47) rfl ?_
    refine ziand X8 hx (hb hby d31_48) ?_
    refine zistoreN X8 hx (l' := #[rv r0, iv p1, iv ((4 : Int32) - (1 : Int32)), iv (((own_it (own_hm4 p1) ((4 : Int32) - (1 : Int32)) u) + (1 : Int32)) &&& ((4 : Int32) - (1 : Int32)))]) (hb hby d31_49) rfl ?_
    refine zgoto X8 hx (pc' := 23) (hb hby d31_50) (by decide) (by decide) ?_
    exact ih _ _ (u + 1) X8 N e8 (by omega)
theorem ef_31_8 (m : MethodId) (r0 : Addr) (p1 : Int32) : entryFrame m #[(.ref r0), (.int p1)] 4 = mkF m 0 #[rv r0, iv p1, un, un] [] := by first | (simp [entryFrame, mkF, argsToLocals, Value.category, iv, rv, lv, un, sd]; done) | rfl
def Q31_8 (Z : State) (r0 : Addr) (p1 : Int32) (hd : Addr) (F : Nat → Bool) (K : Nat → Int32) (ah : Addr) (ao : Addr) (t : Nat) (h0 : Heap) (n0 : Nat) (v : Option Value) (h : Heap) (L : List Loc) : Prop := v = some (.int (if F (own_P8 p1 t) = true then (own_it (own_hm8 p1) ((8 : Int32) - (1 : Int32)) t) else (-1 : Int32))) ∧ Fr n0 L ∧ h = h0
set_option maxRecDepth 65536 in
set_option maxHeartbeats 40000000 in
theorem rm31_8 (l : Launch) (Z : State) (a0 : Array Value) (hw : ∀ d ∈ tables_1, d.before a0 Z = true) (ws : List Jvm.Cond) (r0 : Addr) (p1 : Int32) (hd : Addr) (F : Nat → Bool) (K : Nat → Int32) (ah : Addr) (ao : Addr) (t : Nat) (h0 : Heap) (n0 : Nat) (Z0 : n0 ≤ h0.size) (E_r0 : Exa Z h0 r0 sn1) (F_h : Fld Z h0 r0 sn1 "hashes" "[I" (.ref ah)) (F_o : Fld Z h0 r0 sn1 "holders" sn2 (.ref ao)) (I_h : Ia Z h0 ah .int 8 Value.int K) (I_o : Ho Z h0 ao 8 hd F) (hs : Stp F K (own_P8 p1) p1 t) :
    Mzz l yn29 cn29 4 (some .int) ws (rk 2 0 0 27) #[(.ref r0), (.int p1)] Z h0 (Q31_8 Z r0 p1 hd F K ah ao t h0 n0) := by
  refine Mzz.go (own := sn1) (nm := "slotOf") (L0 := #[rv r0, iv p1, un, un]) (plainFor_of_name pn_29) rfl rfl (fun m => ef_31_8 m r0 p1) ?_
  intro p e s m below meth c s₁ hx hby hml hown hnm X0 e0 hZ hrt hlk G hG
  have N0 := Fr.nil n0
  show Go p.tables e below G (s₁.setTop (mkF m 0 #[rv r0, iv p1, un, un] []))
  refine zaloadN X0 hx (hb hby d31_0) rfl rfl ?_
  refine zgetF X0 hx hZ hown (wm hw 229 rfl) e0 F_o (hb hby d31_1) (fun T1 X1 e1 => ?_)
  refine zifnonnullYes X1 hx (pc' := 9) (hb hby d31_4) (by decide) (by decide) ?_
  refine zaloadN X1 hx (hb hby d31_9) rfl rfl ?_
  refine zgetF X1 hx hZ hown (wm hw 229 rfl) e1 F_o (hb hby d31_10) (fun T2 X2 e2 => ?_)
  obtain ⟨cl3, Ar3, Sz3, -, -⟩ := id I_o
  refine zlen X2 hx hZ e2 Ar3 Sz3 (z := (8 : Int32)) rfl (hb hby d31_13) ?_
  refine ziconst X2 hx (hb hby d31_14) (z := (1 : Int32)) rfl ?_
  refine zisub X2 hx (hb hby d31_15) ?_
  refine zistoreN X2 hx (l' := #[rv r0, iv p1, iv ((8 : Int32) - (1 : Int32)), un]) (hb hby d31_16) rfl ?_
  refine zaloadN X2 hx (hb hby d31_17) rfl rfl ?_
  refine ziloadN X2 hx (hb hby d31_18) rfl ?_
  obtain ⟨cq4, qq4, qq4'⟩ := E_r0.cell
  obtain ⟨_, _, ⟨T4, L4, k4, n4⟩, -, X4, ⟨Lc4, hQ4, l4, y4, z4⟩, st4⟩ := X2.privateBack hx (y := yn28) hown (mvT hZ (wm hw 255 rfl)) (mvT hZ (wm hw 256 rfl)) (sel_priv (mvT hZ (wm hw 214 rfl)) (Cond.privateMethod_at (mvP hZ (wm hw 257 rfl) (args := #[]))) (mvT hZ (wm hw 256 rfl)) (by decide)) (Cond.privateMethod_at (mvP hZ (wm hw 257 rfl) (args := #[]))) (mvT hZ (wm hw 258 rfl)) (by decide) (backOf (W := 0) (rm35_8 l Z a0 hw [] r0 p1 ao hd F h0 n0 Z0 F_o I_o) hZ (wm hw 258 rfl) (wm hw 215 rfl) (by decide) (by decide)) (g := (mkF m 19 #[rv r0, iv p1, iv ((8 : Int32) - (1 : Int32)), un] [(.int p1), (.ref r0)])) rfl (by rw [hml]; rfl) (Steps.refl _) (a := r0) (by rw [e2]; exact qq4) qq4' (argsL := [(.int p1)]) (rest := []) (lenOf pd_19 rfl) rfl (by show 2 * 0 + _ ≤ _; exact Nat.le_of_eq rfl) (hb hby d31_19) (fun _ _ => ⟨rfl, e2, (by decide : 0 + 0 ≤ _), (by decide : 0 + 0 ≤ _)⟩)
  dsimp only [Pt.U, Pt.locs, Pt.cells, Pt.slots] at X4 l4 y4 z4 st4 hQ4
  subst l4 y4 z4
  obtain ⟨rfl, Nq4, e4⟩ := hQ4
  have N4 := Fr.app N0 Nq4
  refine Go.stp (fun t_ k_ => st4.trans k_) ?_
  show Go p.tables e below G (T4.setTop (mkF m 22 #[rv r0, iv p1, iv ((8 : Int32) - (1 : Int32)), un] [(.int (own_hm8 p1))]))
  refine zistoreN X4 hx (l' := #[rv r0, iv p1, iv ((8 : Int32) - (1 : Int32)), iv (own_hm8 p1)]) (hb hby d31_22) rfl ?_
  show Go p.tables e below G (T4.setTop (mkF m 23 #[.val (.ref r0), .val (.int p1), .val (.int ((8 : Int32) - (1 : Int32))), .val (.int (own_it (own_hm8 p1) ((8 : Int32) - (1 : Int32)) 0))] []))
  suffices LP : ∀ (k : Nat) (T : State) (locs : List Loc) (u : Nat), Stand p l e (rk 2 0 0 27) s m #[(.ref r0), (.int p1)] below meth c T locs 0 0 → Fr n0 locs → T.heap = h0 → (u + k = t) → Go p.tables e below G (T.setTop (mkF m 23 #[rv r0, iv p1, iv ((8 : Int32) - (1 : Int32)), iv (own_it (own_hm8 p1) ((8 : Int32) - (1 : Int32)) u)] [])) from LP (t) _ _ (0) X4 N4 e4 (by omega)
  intro k
  induction k with
  | zero =>
    intro T locs u X N E hu
    obtain rfl : t = u := by omega
    show Go p.tables e below G (T.setTop (mkF m 23 #[rv r0, iv p1, iv ((8 : Int32) - (1 : Int32)), iv (own_it (own_hm8 p1) ((8 : Int32) - (1 : Int32)) t)] []))
    refine zaloadN X hx (hb hby d31_23) rfl rfl ?_
    refine zgetF X hx hZ hown (wm hw 229 rfl) E F_o (hb hby d31_24) (fun T5 X5 e5 => ?_)
    refine ziloadN X5 hx (hb hby d31_27) rfl ?_
    refine zaal X5 hx hZ e5 I_o (own_tb8 p1 t) (hb hby d31_28) ?_
    by_cases hc29 : (F ((own_it (own_hm8 p1) ((8 : Int32) - (1 : Int32)) t)).toNatClampNeg) = true
    · rw [show (mkh hd (F ((own_it (own_hm8 p1) ((8 : Int32) - (1 : Int32)) t)).toNatClampNeg)) = Value.ref hd from mkh_t hc29]
      show Go p.tables e below G (T5.setTop (mkF m 29 #[rv r0, iv p1, iv ((8 : Int32) - (1 : Int32)), iv (own_it (own_hm8 p1) ((8 : Int32) - (1 : Int32)) t)] [(.ref hd)]))
      refine zifnullNo X5 hx (hb hby d31_29) ?_
      refine zaloadN X5 hx (hb hby d31_32) rfl rfl ?_
      refine zgetF X5 hx hZ hown (wm hw 240 rfl) e5 F_h (hb hby d31_33) (fun T6 X6 e6 => ?_)
      refine ziloadN X6 hx (hb hby d31_36) rfl ?_
      refine zial X6 hx hZ e6 I_h (own_tb8 p1 t) (hb hby d31_37) ?_
      refine ziloadN X6 hx (hb hby d31_38) rfl ?_
      have hd39 : (K ((own_it (own_hm8 p1) ((8 : Int32) - (1 : Int32)) t)).toNatClampNeg) = p1 := (hs.2.resolve_left (fun q => absurd (hc29.symm.trans q) (by decide)))
      refine zicmpNo X6 hx (hb hby d31_39) (teq hd39).2 ?_
      refine ziloadN X6 hx (hb hby d31_42) rfl ?_
      refine zretI X6 hx hrt hlk (hb hby d31_43) e6 hG (by decide) (by decide) ?_
      exact ⟨congrArg (fun z => some (Value.int z)) (if_pos (show F (own_P8 p1 t) = true from hc29)).symm, N, rfl⟩
    · rw [show (mkh hd (F ((own_it (own_hm8 p1) ((8 : Int32) - (1 : Int32)) t)).toNatClampNeg)) = Value.null from mkh_f (by simpa using hc29)]
      show Go p.tables e below G (T5.setTop (mkF m 29 #[rv r0, iv p1, iv ((8 : Int32) - (1 : Int32)), iv (own_it (own_hm8 p1) ((8 : Int32) - (1 : Int32)) t)] [.null]))
      refine zifnullYes X5 hx (pc' := 53) (hb hby d31_29) (by decide) (by decide) ?_
      refine ziconst X5 hx (hb hby d31_53) (z := (-1 : Int32)) rfl ?_
      refine zretI X5 hx hrt hlk (hb hby d31_54) e5 hG (by decide) (by decide) ?_
      exact ⟨congrArg (fun z => some (Value.int z)) (if_neg (show ¬ (F (own_P8 p1 t) = true) from hc29)).symm, N, rfl⟩
  | succ k ih =>
    intro T locs u X N E hu
    have hsu := hs.1 u (by omega)
    show Go p.tables e below G (T.setTop (mkF m 23 #[rv r0, iv p1, iv ((8 : Int32) - (1 : Int32)), iv (own_it (own_hm8 p1) ((8 : Int32) - (1 : Int32)) u)] []))
    refine zaloadN X hx (hb hby d31_23) rfl rfl ?_
    refine zgetF X hx hZ hown (wm hw 229 rfl) E F_o (hb hby d31_24) (fun T7 X7 e7 => ?_)
    refine ziloadN X7 hx (hb hby d31_27) rfl ?_
    refine zaal X7 hx hZ e7 I_o (own_tb8 p1 u) (hb hby d31_28) ?_
    rw [show (mkh hd (F ((own_it (own_hm8 p1) ((8 : Int32) - (1 : Int32)) u)).toNatClampNeg)) = Value.ref hd from mkh_t hsu.1]
    show Go p.tables e below G (T7.setTop (mkF m 29 #[rv r0, iv p1, iv ((8 : Int32) - (1 : Int32)), iv (own_it (own_hm8 p1) ((8 : Int32) - (1 : Int32)) u)] [(.ref hd)]))
    refine zifnullNo X7 hx (hb hby d31_29) ?_
    refine zaloadN X7 hx (hb hby d31_32) rfl rfl ?_
    refine zgetF X7 hx hZ hown (wm hw 240 rfl) e7 F_h (hb hby d31_33) (fun T8 X8 e8 => ?_)
    refine ziloadN X8 hx (hb hby d31_36) rfl ?_
    refine zial X8 hx hZ e8 I_h (own_tb8 p1 u) (hb hby d31_37) ?_
    refine ziloadN X8 hx (hb hby d31_38) rfl ?_
    have hd39 : ¬ ((K ((own_it (own_hm8 p1) ((8 : Int32) - (1 : Int32)) u)).toNatClampNeg) = p1) := hsu.2
    refine zicmpYes X8 hx (pc' := 44) (hb hby d31_39) (feq hd39).2 (by decide) (by decide) ?_
    refine ziloadN X8 hx (hb hby d31_44) rfl ?_
    refine ziconst X8 hx (hb hby d31_45) (z := (1 : Int32)) rfl ?_
    refine ziadd X8 hx (hb hby d31_46) ?_
    refine ziloadN X8 hx (hb hby d31_47) rfl ?_
    refine ziand X8 hx (hb hby d31_48) ?_
    refine zistoreN X8 hx (l' := #[rv r0, iv p1, iv ((8 : Int32) - (1 : Int32)), iv (((own_it (own_hm8 p1) ((8 : Int32) - (1 : Int32)) u) + (1 : Int32)) &&& ((8 : Int32) - (1 : Int32)))]) (hb hby d31_49) rfl ?_
    refine zgoto X8 hx (pc' := 23) (hb hby d31_50) (by decide) (by decide) ?_
    exact ih _ _ (u + 1) X8 N e8 (by omega)
theorem d33_0 : decode cn30 0 = .ok (.aload_n 0, 1) := by decide +kernel
theorem d33_1 : decode cn30 1 = .ok (.iload_n 1, 1) := by decide +kernel
theorem d33_2 : decode cn30 2 = .ok (.newarray .int, 2) := by decide +kernel
theorem d33_4 : decode cn30 4 = .ok (.putfield 39, 3) := by decide +kernel
theorem d33_7 : decode cn30 7 = .ok (.aload_n 0, 1) := by decide +kernel
theorem d33_8 : decode cn30 8 = .ok (.iload_n 1, 1) := by decide +kernel
theorem d33_9 : decode cn30 9 = .ok (.anewarray 101, 3) := by decide +kernel
theorem d33_12 : decode cn30 12 = .ok (.putfield 17, 3) := by decide +kernel
theorem d33_15 : decode cn30 15 = .ok (.aload_n 0, 1) := by decide +kernel
theorem d33_16 : decode cn30 16 = .ok (.iload_n 1, 1) := by decide +kernel
theorem d33_17 : decode cn30 17 = .ok (.newarray .int, 2) := by decide +kernel
theorem d33_19 : decode cn30 19 = .ok (.putfield 28, 3) := by decide +kernel
theorem d33_22 : decode cn30 22 = .ok (.aload_n 0, 1) := by decide +kernel
theorem d33_23 : decode cn30 23 = .ok (.iload_n 1, 1) := by decide +kernel
theorem d33_24 : decode cn30 24 = .ok (.newarray .long, 2) := by decide +kernel
theorem d33_26 : decode cn30 26 = .ok (.putfield 32, 3) := by decide +kernel
theorem d33_29 : decode cn30 29 = .ok (.aload_n 0, 1) := by decide +kernel
theorem d33_30 : decode cn30 30 = .ok (.iload_n 1, 1) := by decide +kernel
theorem d33_31 : decode cn30 31 = .ok (.newarray .long, 2) := by decide +kernel
theorem d33_33 : decode cn30 33 = .ok (.putfield 36, 3) := by decide +kernel
theorem d33_36 : decode cn30 36 = .ok (.return_, 1) := by decide +kernel
theorem ef_33_4 (m : MethodId) (r0 : Addr) : entryFrame m #[(.ref r0), (.int (4 : Int32))] 2 = mkF m 0 #[rv r0, iv (4 : Int32)] [] := by first | (simp [entryFrame, mkF, argsToLocals, Value.category, iv, rv, lv, un, sd]; done) | rfl
def Q33_4 (Z : State) (r0 : Addr) (hd : Addr) (sz : Int32) (v1 : Value) (v2 : Value) (v3 : Value) (v4 : Value) (v5 : Value) (h0 : Heap) (n0 : Nat) (v : Option Value) (h : Heap) (L : List Loc) : Prop := v = none ∧ Fr n0 L ∧ Keep h0 h [r0] ∧ ∃ bh bo bu bb br : Addr, Tb Z h n0 r0 hd 4 (fun _ => false) (fun _ => (0 : Int32)) sz bh bo bu bb br ∧ h0.size ≤ bh ∧ h0.size ≤ bo ∧ h0.size ≤ bu ∧ h0.size ≤ bb ∧ h0.size ≤ br
set_option maxRecDepth 65536 in
set_option maxHeartbeats 40000000 in
theorem rm33_4 (l : Launch) (Z : State) (a0 : Array Value) (hw : ∀ d ∈ tables_1, d.before a0 Z = true) (ws : List Jvm.Cond) (r0 : Addr) (hd : Addr) (sz : Int32) (v1 : Value) (v2 : Value) (v3 : Value) (v4 : Value) (v5 : Value) (h0 : Heap) (n0 : Nat) (Z0 : n0 ≤ h0.size) (E_r0 : Exa Z h0 r0 sn1) (E_hd : Exa Z h0 hd sn0) (F_1 : Fld Z h0 r0 sn1 "hashes" "[I" v1) (F_2 : Fld Z h0 r0 sn1 "holders" sn2 v2) (F_3 : Fld Z h0 r0 sn1 "unacked" "[I" v3) (F_4 : Fld Z h0 r0 sn1 "blocked" "[J" v4) (F_5 : Fld Z h0 r0 sn1 "resumes" "[J" v5) (F_s : Fld Z h0 r0 sn1 "size" "I" (.int sz)) (g_r0 : n0 ≤ r0) :
    Mzz l yn30 cn30 2 none ws (rk 0 5 20 0) #[(.ref r0), (.int (4 : Int32))] Z h0 (Q33_4 Z r0 hd sz v1 v2 v3 v4 v5 h0 n0) := by
  refine Mzz.go (own := sn1) (nm := "allocate") (L0 := #[rv r0, iv (4 : Int32)]) (plainFor_of_name pn_29) rfl rfl (fun m => ef_33_4 m r0) ?_
  intro p e s m below meth c s₁ hx hby hml hown hnm X0 e0 hZ hrt hlk G hG
  have N0 := Fr.nil n0
  have K0 := Keep.refl h0 [r0]
  show Go p.tables e below G (s₁.setTop (mkF m 0 #[rv r0, iv (4 : Int32)] []))
  refine zaloadN X0 hx (hb hby d33_0) rfl rfl ?_
  refine ziloadN X0 hx (hb hby d33_1) rfl ?_
  obtain ⟨T1, h1, k1, X1, e1, E1, A1, st1⟩ := newP X0 hx hZ (wm hw 239 rfl) e0 (g := (mkF m 2 #[rv r0, iv (4 : Int32)] [(.int (4 : Int32)), (.ref r0)])) rfl (hb hby d33_2) rfl (by decide) (cap := 4) (by decide) (by decide) (by decide) (by decide)
  obtain ⟨b1, g1⟩ : ∃ z, z = h0.size := ⟨_, rfl⟩
  rw [← g1] at A1 st1
  have u2 : r0 ≠ b1 := Nat.ne_of_lt (Nat.lt_of_lt_of_le E_r0.lt (Nat.le_of_eq g1.symm))
  have u3 : hd ≠ b1 := Nat.ne_of_lt (Nat.lt_of_lt_of_le E_hd.lt (Nat.le_of_eq g1.symm))
  have g_b1 : n0 ≤ b1 := Nat.le_trans Z0 (Nat.le_of_eq g1.symm)
  have sz_b1 : h0.size ≤ b1 := Nat.le_trans K0.1 (Nat.le_of_eq g1.symm)
  have f4 := E_r0.ext E1
  have f5 := E_hd.ext E1
  have f6 := F_s.ext E1
  have f7 := F_1.ext E1
  have f8 := F_2.ext E1
  have f9 := F_3.ext E1
  have f10 := F_4.ext E1
  have f11 := F_5.ext E1
  have Z1 : n0 ≤ h1.size := Nat.le_trans Z0 E1.1
  have K1 := K0.ext E1
  have f12 : Ia Z h1 b1 .int 4 Value.int (fun _ => (0 : Int32)) := Ia.new A1 (by decide) (by decide) rfl
  refine Go.stp (fun t_ k_ => st1 t_ k_) ?_
  show Go p.tables e below G (T1.setTop (mkF m 4 #[rv r0, iv (4 : Int32)] [(.ref b1), (.ref r0)]))
  refine zputF X1 hx hZ hown (wm hw 240 rfl) e1 f7 f4 (Or.inl (wm hw 241 rfl)) (wm hw 214 rfl) (ty := (.array .int)) (by decide) rfl rfl (hb hby d33_4) (fun T13 h13 X13 e13 W13 => ?_)
  have f14 := f7.same W13
  have f15 := f4.wr W13
  have f16 := f5.wr W13
  have f17 := f6.other W13 (Or.inr (slot_ne (Or.inl (wm hw 267 rfl)) (Or.inl (wm hw 241 rfl)) (by decide) (t := .int) (t' := (.array .int)) (by decide) (by decide)))
  have f18 := f8.other W13 (Or.inr (slot_ne (Or.inl (wm hw 230 rfl)) (Or.inl (wm hw 241 rfl)) (by decide) (t := (.array (.object sn0))) (t' := (.array .int)) (by decide) (by decide)))
  have f19 := f9.other W13 (Or.inr (slot_ne (Or.inl (wm hw 245 rfl)) (Or.inl (wm hw 241 rfl)) (by decide) (t := (.array .int)) (t' := (.array .int)) (by decide) (by decide)))
  have f20 := f10.other W13 (Or.inr (slot_ne (Or.inl (wm hw 248 rfl)) (Or.inl (wm hw 241 rfl)) (by decide) (t := (.array .long)) (t' := (.array .int)) (by decide) (by decide)))
  have f21 := f11.other W13 (Or.inr (slot_ne (Or.inl (wm hw 250 rfl)) (Or.inl (wm hw 241 rfl)) (by decide) (t := (.array .long)) (t' := (.array .int)) (by decide) (by decide)))
  have f22 := f12.other W13 (Ne.symm u2)
  have N13 := Fr.snoc X13 N0 g_r0
  have K13 := K1.wr W13 (Or.inl (List.mem_of_getElem? (i := 0) rfl))
  have Z13 := Nat.le_trans Z1 (Keep.of_wr W13).1
  refine zaloadN X13 hx (hb hby d33_7) rfl rfl ?_
  refine ziloadN X13 hx (hb hby d33_8) rfl ?_
  obtain ⟨T23, h23, k23, X23, e23, E23, A23, O23, st23⟩ := newR X13 hx hZ hown (wm hw 242 rfl) (wm hw 243 rfl) e13 (g := (mkF m 9 #[rv r0, iv (4 : Int32)] [(.int (4 : Int32)), (.ref r0)])) rfl (hb hby d33_9) rfl (by decide) (cap := 4) (by decide) (by decide) (by decide) (by decide)
  obtain ⟨b23, g23⟩ : ∃ z, z = h13.size := ⟨_, rfl⟩
  rw [← g23] at A23 st23
  have u24 : r0 ≠ b23 := Nat.ne_of_lt (Nat.lt_of_lt_of_le f15.lt (Nat.le_of_eq g23.symm))
  have u25 : hd ≠ b23 := Nat.ne_of_lt (Nat.lt_of_lt_of_le f16.lt (Nat.le_of_eq g23.symm))
  have u26 : b1 ≠ b23 := Nat.ne_of_lt (Nat.lt_of_lt_of_le f22.lt (Nat.le_of_eq g23.symm))
  have g_b23 : n0 ≤ b23 := Nat.le_trans Z13 (Nat.le_of_eq g23.symm)
  have sz_b23 : h0.size ≤ b23 := Nat.le_trans K13.1 (Nat.le_of_eq g23.symm)
  have f27 := f15.ext E23
  have f28 := f16.ext E23
  have f29 := f17.ext E23
  have f30 := f18.ext E23
  have f31 := f19.ext E23
  have f32 := f20.ext E23
  have f33 := f21.ext E23
  have f34 := f22.ext E23
  have f35 := f14.ext E23
  have Z23 : n0 ≤ h23.size := Nat.le_trans Z13 E23.1
  have K23 := K13.ext E23
  have f36 : Ia Z h23 b23 (.object sn0) 4 (mkh hd) (fun _ => false) := Ia.new A23 (by decide) (by decide) rfl
  refine Go.stp (fun t_ k_ => st23 t_ k_) ?_
  have f37 : Ho Z h23 b23 4 hd (fun _ => false) := Ho.new A23 O23 (by decide) (by decide)
  show Go p.tables e below G (T23.setTop (mkF m 12 #[rv r0, iv (4 : Int32)] [(.ref b23), (.ref r0)]))
  refine zputF X23 hx hZ hown (wm hw 229 rfl) e23 f30 f27 (Or.inl (wm hw 230 rfl)) (wm hw 214 rfl) (ty := (.array (.object sn0))) (by decide) rfl rfl (hb hby d33_12) (fun T38 h38 X38 e38 W38 => ?_)
  have f39 := f30.same W38
  have f40 := f27.wr W38
  have f41 := f28.wr W38
  have f42 := f29.other W38 (Or.inr (slot_ne (Or.inl (wm hw 267 rfl)) (Or.inl (wm hw 230 rfl)) (by decide) (t := .int) (t' := (.array (.object sn0))) (by decide) (by decide)))
  have f43 := f31.other W38 (Or.inr (slot_ne (Or.inl (wm hw 245 rfl)) (Or.inl (wm hw 230 rfl)) (by decide) (t := (.array .int)) (t' := (.array (.object sn0))) (by decide) (by decide)))
  have f44 := f32.other W38 (Or.inr (slot_ne (Or.inl (wm hw 248 rfl)) (Or.inl (wm hw 230 rfl)) (by decide) (t := (.array .long)) (t' := (.array (.object sn0))) (by decide) (by decide)))
  have f45 := f33.other W38 (Or.inr (slot_ne (Or.inl (wm hw 250 rfl)) (Or.inl (wm hw 230 rfl)) (by decide) (t := (.array .long)) (t' := (.array (.object sn0))) (by decide) (by decide)))
  have f46 := f34.other W38 (Ne.symm u2)
  have f47 := f35.other W38 (Or.inr (slot_ne (Or.inl (wm hw 241 rfl)) (Or.inl (wm hw 230 rfl)) (by decide) (t := (.array .int)) (t' := (.array (.object sn0))) (by decide) (by decide)))
  have f48 := f37.other W38 (Ne.symm u24)
  have N38 := Fr.snoc X38 N13 g_r0
  have K38 := K23.wr W38 (Or.inl (List.mem_of_getElem? (i := 0) rfl))
  have Z38 := Nat.le_trans Z23 (Keep.of_wr W38).1
  refine zaloadN X38 hx (hb hby d33_15) rfl rfl ?_
  refine ziloadN X38 hx (hb hby d33_16) rfl ?_
  obtain ⟨T49, h49, k49, X49, e49, E49, A49, st49⟩ := newP X38 hx hZ (wm hw 239 rfl) e38 (g := (mkF m 17 #[rv r0, iv (4 : Int32)] [(.int (4 : Int32)), (.ref r0)])) rfl (hb hby d33_17) rfl (by decide) (cap := 4) (by decide) (by decide) (by decide) (by decide)
  obtain ⟨b49, g49⟩ : ∃ z, z = h38.size := ⟨_, rfl⟩
  rw [← g49] at A49 st49
  have u50 : r0 ≠ b49 := Nat.ne_of_lt (Nat.lt_of_lt_of_le f40.lt (Nat.le_of_eq g49.symm))
  have u51 : hd ≠ b49 := Nat.ne_of_lt (Nat.lt_of_lt_of_le f41.lt (Nat.le_of_eq g49.symm))
  have u52 : b1 ≠ b49 := Nat.ne_of_lt (Nat.lt_of_lt_of_le f46.lt (Nat.le_of_eq g49.symm))
  have u53 : b23 ≠ b49 := Nat.ne_of_lt (Nat.lt_of_lt_of_le f48.lt (Nat.le_of_eq g49.symm))
  have g_b49 : n0 ≤ b49 := Nat.le_trans Z38 (Nat.le_of_eq g49.symm)
  have sz_b49 : h0.size ≤ b49 := Nat.le_trans K38.1 (Nat.le_of_eq g49.symm)
  have f54 := f40.ext E49
  have f55 := f41.ext E49
  have f56 := f42.ext E49
  have f57 := f43.ext E49
  have f58 := f44.ext E49
  have f59 := f45.ext E49
  have f60 := f46.ext E49
  have f61 := f47.ext E49
  have f62 := f48.ext E49
  have f63 := f39.ext E49
  have Z49 : n0 ≤ h49.size := Nat.le_trans Z38 E49.1
  have K49 := K38.ext E49
  have f64 : Ia Z h49 b49 .int 4 Value.int (fun _ => (0 : Int32)) := Ia.new A49 (by decide) (by decide) rfl
  refine Go.stp (fun t_ k_ => st49 t_ k_) ?_
  show Go p.tables e below G (T49.setTop (mkF m 19 #[rv r0, iv (4 : Int32)] [(.ref b49), (.ref r0)]))
  refine zputF X49 hx hZ hown (wm hw 244 rfl) e49 f57 f54 (Or.inl (wm hw 245 rfl)) (wm hw 214 rfl) (ty := (.array .int)) (by decide) rfl rfl (hb hby d33_19) (fun T65 h65 X65 e65 W65 => ?_)
  have f66 := f57.same W65
  have f67 := f54.wr W65
  have f68 := f55.wr W65
  have f69 := f56.other W65 (Or.inr (slot_ne (Or.inl (wm hw 267 rfl)) (Or.inl (wm hw 245 rfl)) (by decide) (t := .int) (t' := (.array .int)) (by decide) (by decide)))
  have f70 := f58.other W65 (Or.inr (slot_ne (Or.inl (wm hw 248 rfl)) (Or.inl (wm hw 245 rfl)) (by decide) (t := (.array .long)) (t' := (.array .int)) (by decide) (by decide)))
  have f71 := f59.other W65 (Or.inr (slot_ne (Or.inl (wm hw 250 rfl)) (Or.inl (wm hw 245 rfl)) (by decide) (t := (.array .long)) (t' := (.array .int)) (by decide) (by decide)))
  have f72 := f60.other W65 (Ne.symm u2)
  have f73 := f61.other W65 (Or.inr (slot_ne (Or.inl (wm hw 241 rfl)) (Or.inl (wm hw 245 rfl)) (by decide) (t := (.array .int)) (t' := (.array .int)) (by decide) (by decide)))
  have f74 := f62.other W65 (Ne.symm u24)
  have f75 := f63.other W65 (Or.inr (slot_ne (Or.inl (wm hw 230 rfl)) (Or.inl (wm hw 245 rfl)) (by decide) (t := (.array (.object sn0))) (t' := (.array .int)) (by decide) (by decide)))
  have f76 := f64.other W65 (Ne.symm u50)
  have N65 := Fr.snoc X65 N38 g_r0
  have K65 := K49.wr W65 (Or.inl (List.mem_of_getElem? (i := 0) rfl))
  have Z65 := Nat.le_trans Z49 (Keep.of_wr W65).1
  refine zaloadN X65 hx (hb hby d33_22) rfl rfl ?_
  refine ziloadN X65 hx (hb hby d33_23) rfl ?_
  obtain ⟨T77, h77, k77, X77, e77, E77, A77, st77⟩ := newP X65 hx hZ (wm hw 246 rfl) e65 (g := (mkF m 24 #[rv r0, iv (4 : Int32)] [(.int (4 : Int32)), (.ref r0)])) rfl (hb hby d33_24) rfl (by decide) (cap := 4) (by decide) (by decide) (by decide) (by decide)
  obtain ⟨b77, g77⟩ : ∃ z, z = h65.size := ⟨_, rfl⟩
  rw [← g77] at A77 st77
  have u78 : r0 ≠ b77 := Nat.ne_of_lt (Nat.lt_of_lt_of_le f67.lt (Nat.le_of_eq g77.symm))
  have u79 : hd ≠ b77 := Nat.ne_of_lt (Nat.lt_of_lt_of_le f68.lt (Nat.le_of_eq g77.symm))
  have u80 : b1 ≠ b77 := Nat.ne_of_lt (Nat.lt_of_lt_of_le f72.lt (Nat.le_of_eq g77.symm))
  have u81 : b23 ≠ b77 := Nat.ne_of_lt (Nat.lt_of_lt_of_le f74.lt (Nat.le_of_eq g77.symm))
  have u82 : b49 ≠ b77 := Nat.ne_of_lt (Nat.lt_of_lt_of_le f76.lt (Nat.le_of_eq g77.symm))
  have g_b77 : n0 ≤ b77 := Nat.le_trans Z65 (Nat.le_of_eq g77.symm)
  have sz_b77 : h0.size ≤ b77 := Nat.le_trans K65.1 (Nat.le_of_eq g77.symm)
  have f83 := f67.ext E77
  have f84 := f68.ext E77
  have f85 := f69.ext E77
  have f86 := f70.ext E77
  have f87 := f71.ext E77
  have f88 := f72.ext E77
  have f89 := f73.ext E77
  have f90 := f74.ext E77
  have f91 := f75.ext E77
  have f92 := f76.ext E77
  have f93 := f66.ext E77
  have Z77 : n0 ≤ h77.size := Nat.le_trans Z65 E77.1
  have K77 := K65.ext E77
  have f94 : Ia Z h77 b77 .long 4 Value.long (fun _ => (0 : Int64)) := Ia.new A77 (by decide) (by decide) rfl
  refine Go.stp (fun t_ k_ => st77 t_ k_) ?_
  show Go p.tables e below G (T77.setTop (mkF m 26 #[rv r0, iv (4 : Int32)] [(.ref b77), (.ref r0)]))
  refine zputF X77 hx hZ hown (wm hw 247 rfl) e77 f86 f83 (Or.inl (wm hw 248 rfl)) (wm hw 214 rfl) (ty := (.array .long)) (by decide) rfl rfl (hb hby d33_26) (fun T95 h95 X95 e95 W95 => ?_)
  have f96 := f86.same W95
  have f97 := f83.wr W95
  have f98 := f84.wr W95
  have f99 := f85.other W95 (Or.inr (slot_ne (Or.inl (wm hw 267 rfl)) (Or.inl (wm hw 248 rfl)) (by decide) (t := .int) (t' := (.array .long)) (by decide) (by decide)))
  have f100 := f87.other W95 (Or.inr (slot_ne (Or.inl (wm hw 250 rfl)) (Or.inl (wm hw 248 rfl)) (by decide) (t := (.array .long)) (t' := (.array .long)) (by decide) (by decide)))
  have f101 := f88.other W95 (Ne.symm u2)
  have f102 := f89.other W95 (Or.inr (slot_ne (Or.inl (wm hw 241 rfl)) (Or.inl (wm hw 248 rfl)) (by decide) (t := (.array .int)) (t' := (.array .long)) (by decide) (by decide)))
  have f103 := f90.other W95 (Ne.symm u24)
  have f104 := f91.other W95 (Or.inr (slot_ne (Or.inl (wm hw 230 rfl)) (Or.inl (wm hw 248 rfl)) (by decide) (t := (.array (.object sn0))) (t' := (.array .long)) (by decide) (by decide)))
  have f105 := f92.other W95 (Ne.symm u50)
  have f106 := f93.other W95 (Or.inr (slot_ne (Or.inl (wm hw 245 rfl)) (Or.inl (wm hw 248 rfl)) (by decide) (t := (.array .int)) (t' := (.array .long)) (by decide) (by decide)))
  have f107 := f94.other W95 (Ne.symm u78)
  have N95 := Fr.snoc X95 N65 g_r0
  have K95 := K77.wr W95 (Or.inl (List.mem_of_getElem? (i := 0) rfl))
  have Z95 := Nat.le_trans Z77 (Keep.of_wr W95).1
  refine zaloadN X95 hx (hb hby d33_29) rfl rfl ?_
  refine ziloadN X95 hx (hb hby d33_30) rfl ?_
  obtain ⟨T108, h108, k108, X108, e108, E108, A108, st108⟩ := newP X95 hx hZ (wm hw 246 rfl) e95 (g := (mkF m 31 #[rv r0, iv (4 : Int32)] [(.int (4 : Int32)), (.ref r0)])) rfl (hb hby d33_31) rfl (by decide) (cap := 4) (by decide) (by decide) (by decide) (by decide)
  obtain ⟨b108, g108⟩ : ∃ z, z = h95.size := ⟨_, rfl⟩
  rw [← g108] at A108 st108
  have u109 : r0 ≠ b108 := Nat.ne_of_lt (Nat.lt_of_lt_of_le f97.lt (Nat.le_of_eq g108.symm))
  have u110 : hd ≠ b108 := Nat.ne_of_lt (Nat.lt_of_lt_of_le f98.lt (Nat.le_of_eq g108.symm))
  have u111 : b1 ≠ b108 := Nat.ne_of_lt (Nat.lt_of_lt_of_le f101.lt (Nat.le_of_eq g108.symm))
  have u112 : b23 ≠ b108 := Nat.ne_of_lt (Nat.lt_of_lt_of_le f103.lt (Nat.le_of_eq g108.symm))
  have u113 : b49 ≠ b108 := Nat.ne_of_lt (Nat.lt_of_lt_of_le f105.lt (Nat.le_of_eq g108.symm))
  have u114 : b77 ≠ b108 := Nat.ne_of_lt (Nat.lt_of_lt_of_le f107.lt (Nat.le_of_eq g108.symm))
  have g_b108 : n0 ≤ b108 := Nat.le_trans Z95 (Nat.le_of_eq g108.symm)
  have sz_b108 : h0.size ≤ b108 := Nat.le_trans K95.1 (Nat.le_of_eq g108.symm)
  have f115 := f97.ext E108
  have f116 := f98.ext E108
  have f117 := f99.ext E108
  have f118 := f100.ext E108
  have f119 := f101.ext E108
  have f120 := f102.ext E108
  have f121 := f103.ext E108
  have f122 := f104.ext E108
  have f123 := f105.ext E108
  have f124 := f106.ext E108
  have f125 := f107.ext E108
  have f126 := f96.ext E108
  have Z108 : n0 ≤ h108.size := Nat.le_trans Z95 E108.1
  have K108 := K95.ext E108
  have f127 : Ia Z h108 b108 .long 4 Value.long (fun _ => (0 : Int64)) := Ia.new A108 (by decide) (by decide) rfl
  refine Go.stp (fun t_ k_ => st108 t_ k_) ?_
  show Go p.tables e below G (T108.setTop (mkF m 33 #[rv r0, iv (4 : Int32)] [(.ref b108), (.ref r0)]))
  refine zputF X108 hx hZ hown (wm hw 249 rfl) e108 f118 f115 (Or.inl (wm hw 250 rfl)) (wm hw 214 rfl) (ty := (.array .long)) (by decide) rfl rfl (hb hby d33_33) (fun T128 h128 X128 e128 W128 => ?_)
  have f129 := f118.same W128
  have f130 := f115.wr W128
  have f131 := f116.wr W128
  have f132 := f117.other W128 (Or.inr (slot_ne (Or.inl (wm hw 267 rfl)) (Or.inl (wm hw 250 rfl)) (by decide) (t := .int) (t' := (.array .long)) (by decide) (by decide)))
  have f133 := f119.other W128 (Ne.symm u2)
  have f134 := f120.other W128 (Or.inr (slot_ne (Or.inl (wm hw 241 rfl)) (Or.inl (wm hw 250 rfl)) (by decide) (t := (.array .int)) (t' := (.array .long)) (by decide) (by decide)))
  have f135 := f121.other W128 (Ne.symm u24)
  have f136 := f122.other W128 (Or.inr (slot_ne (Or.inl (wm hw 230 rfl)) (Or.inl (wm hw 250 rfl)) (by decide) (t := (.array (.object sn0))) (t' := (.array .long)) (by decide) (by decide)))
  have f137 := f123.other W128 (Ne.symm u50)
  have f138 := f124.other W128 (Or.inr (slot_ne (Or.inl (wm hw 245 rfl)) (Or.inl (wm hw 250 rfl)) (by decide) (t := (.array .int)) (t' := (.array .long)) (by decide) (by decide)))
  have f139 := f125.other W128 (Ne.symm u78)
  have f140 := f126.other W128 (Or.inr (slot_ne (Or.inl (wm hw 248 rfl)) (Or.inl (wm hw 250 rfl)) (by decide) (t := (.array .long)) (t' := (.array .long)) (by decide) (by decide)))
  have f141 := f127.other W128 (Ne.symm u109)
  have N128 := Fr.snoc X128 N95 g_r0
  have K128 := K108.wr W128 (Or.inl (List.mem_of_getElem? (i := 0) rfl))
  have Z128 := Nat.le_trans Z108 (Keep.of_wr W128).1
  refine zretV X128 hx hrt hlk (hb hby d33_36) e128 hG (by decide) (by decide) ?_
  exact ⟨rfl, N128, K128, b1, b23, b49, b77, b108, ⟨f130, f131, f134, f136, f138, f140, f129, f132, f133, f135, ⟨_, f137⟩, ⟨_, f139⟩, ⟨_, f141⟩, ⟨g_r0, g_b1, g_b23, g_b49, g_b77, g_b108⟩, ⟨u2, u24, u50, u78, u109, u26, u52, u80, u111, u53, u81, u112, u82, u113, u114⟩⟩, sz_b1, sz_b23, sz_b49, sz_b77, sz_b108⟩
theorem ef_33_8 (m : MethodId) (r0 : Addr) : entryFrame m #[(.ref r0), (.int (8 : Int32))] 2 = mkF m 0 #[rv r0, iv (8 : Int32)] [] := by first | (simp [entryFrame, mkF, argsToLocals, Value.category, iv, rv, lv, un, sd]; done) | rfl
def Q33_8 (Z : State) (r0 : Addr) (hd : Addr) (sz : Int32) (v1 : Value) (v2 : Value) (v3 : Value) (v4 : Value) (v5 : Value) (h0 : Heap) (n0 : Nat) (v : Option Value) (h : Heap) (L : List Loc) : Prop := v = none ∧ Fr n0 L ∧ Keep h0 h [r0] ∧ ∃ bh bo bu bb br : Addr, Tb Z h n0 r0 hd 8 (fun _ => false) (fun _ => (0 : Int32)) sz bh bo bu bb br ∧ h0.size ≤ bh ∧ h0.size ≤ bo ∧ h0.size ≤ bu ∧ h0.size ≤ bb ∧ h0.size ≤ br
set_option maxRecDepth 65536 in
set_option maxHeartbeats 40000000 in
theorem rm33_8 (l : Launch) (Z : State) (a0 : Array Value) (hw : ∀ d ∈ tables_1, d.before a0 Z = true) (ws : List Jvm.Cond) (r0 : Addr) (hd : Addr) (sz : Int32) (v1 : Value) (v2 : Value) (v3 : Value) (v4 : Value) (v5 : Value) (h0 : Heap) (n0 : Nat) (Z0 : n0 ≤ h0.size) (E_r0 : Exa Z h0 r0 sn1) (E_hd : Exa Z h0 hd sn0) (F_1 : Fld Z h0 r0 sn1 "hashes" "[I" v1) (F_2 : Fld Z h0 r0 sn1 "holders" sn2 v2) (F_3 : Fld Z h0 r0 sn1 "unacked" "[I" v3) (F_4 : Fld Z h0 r0 sn1 "blocked" "[J" v4) (F_5 : Fld Z h0 r0 sn1 "resumes" "[J" v5) (F_s : Fld Z h0 r0 sn1 "size" "I" (.int sz)) (g_r0 : n0 ≤ r0) :
    Mzz l yn30 cn30 2 none ws (rk 0 5 40 0) #[(.ref r0), (.int (8 : Int32))] Z h0 (Q33_8 Z r0 hd sz v1 v2 v3 v4 v5 h0 n0) := by
  refine Mzz.go (own := sn1) (nm := "allocate") (L0 := #[rv r0, iv (8 : Int32)]) (plainFor_of_name pn_29) rfl rfl (fun m => ef_33_8 m r0) ?_
  intro p e s m below meth c s₁ hx hby hml hown hnm X0 e0 hZ hrt hlk G hG
  have N0 := Fr.nil n0
  have K0 := Keep.refl h0 [r0]
  show Go p.tables e below G (s₁.setTop (mkF m 0 #[rv r0, iv (8 : Int32)] []))
  refine zaloadN X0 hx (hb hby d33_0) rfl rfl ?_
  refine ziloadN X0 hx (hb hby d33_1) rfl ?_
  obtain ⟨T1, h1, k1, X1, e1, E1, A1, st1⟩ := newP X0 hx hZ (wm hw 239 rfl) e0 (g := (mkF m 2 #[rv r0, iv (8 : Int32)] [(.int (8 : Int32)), (.ref r0)])) rfl (hb hby d33_2) rfl (by decide) (cap := 8) (by decide) (by decide) (by decide) (by decide)
  obtain ⟨b1, g1⟩ : ∃ z, z = h0.size := ⟨_, rfl⟩
  rw [← g1] at A1 st1
  have u2 : r0 ≠ b1 := Nat.ne_of_lt (Nat.lt_of_lt_of_le E_r0.lt (Nat.le_of_eq g1.symm))
  have u3 : hd ≠ b1 := Nat.ne_of_lt (Nat.lt_of_lt_of_le E_hd.lt (Nat.le_of_eq g1.symm))
  have g_b1 : n0 ≤ b1 := Nat.le_trans Z0 (Nat.le_of_eq g1.symm)
  have sz_b1 : h0.size ≤ b1 := Nat.le_trans K0.1 (Nat.le_of_eq g1.symm)
  have f4 := E_r0.ext E1
  have f5 := E_hd.ext E1
  have f6 := F_s.ext E1
  have f7 := F_1.ext E1
  have f8 := F_2.ext E1
  have f9 := F_3.ext E1
  have f10 := F_4.ext E1
  have f11 := F_5.ext E1
  have Z1 : n0 ≤ h1.size := Nat.le_trans Z0 E1.1
  have K1 := K0.ext E1
  have f12 : Ia Z h1 b1 .int 8 Value.int (fun _ => (0 : Int32)) := Ia.new A1 (by decide) (by decide) rfl
  refine Go.stp (fun t_ k_ => st1 t_ k_) ?_
  show Go p.tables e below G (T1.setTop (mkF m 4 #[rv r0, iv (8 : Int32)] [(.ref b1), (.ref r0)]))
  refine zputF X1 hx hZ hown (wm hw 240 rfl) e1 f7 f4 (Or.inl (wm hw 241 rfl)) (wm hw 214 rfl) (ty := (.array .int)) (by decide) rfl rfl (hb hby d33_4) (fun T13 h13 X13 e13 W13 => ?_)
  have f14 := f7.same W13
  have f15 := f4.wr W13
  have f16 := f5.wr W13
  have f17 := f6.other W13 (Or.inr (slot_ne (Or.inl (wm hw 267 rfl)) (Or.inl (wm hw 241 rfl)) (by decide) (t := .int) (t' := (.array .int)) (by decide) (by decide)))
  have f18 := f8.other W13 (Or.inr (slot_ne (Or.inl (wm hw 230 rfl)) (Or.inl (wm hw 241 rfl)) (by decide) (t := (.array (.object sn0))) (t' := (.array .int)) (by decide) (by decide)))
  have f19 := f9.other W13 (Or.inr (slot_ne (Or.inl (wm hw 245 rfl)) (Or.inl (wm hw 241 rfl)) (by decide) (t := (.array .int)) (t' := (.array .int)) (by decide) (by decide)))
  have f20 := f10.other W13 (Or.inr (slot_ne (Or.inl (wm hw 248 rfl)) (Or.inl (wm hw 241 rfl)) (by decide) (t := (.array .long)) (t' := (.array .int)) (by decide) (by decide)))
  have f21 := f11.other W13 (Or.inr (slot_ne (Or.inl (wm hw 250 rfl)) (Or.inl (wm hw 241 rfl)) (by decide) (t := (.array .long)) (t' := (.array .int)) (by decide) (by decide)))
  have f22 := f12.other W13 (Ne.symm u2)
  have N13 := Fr.snoc X13 N0 g_r0
  have K13 := K1.wr W13 (Or.inl (List.mem_of_getElem? (i := 0) rfl))
  have Z13 := Nat.le_trans Z1 (Keep.of_wr W13).1
  refine zaloadN X13 hx (hb hby d33_7) rfl rfl ?_
  refine ziloadN X13 hx (hb hby d33_8) rfl ?_
  obtain ⟨T23, h23, k23, X23, e23, E23, A23, O23, st23⟩ := newR X13 hx hZ hown (wm hw 242 rfl) (wm hw 243 rfl) e13 (g := (mkF m 9 #[rv r0, iv (8 : Int32)] [(.int (8 : Int32)), (.ref r0)])) rfl (hb hby d33_9) rfl (by decide) (cap := 8) (by decide) (by decide) (by decide) (by decide)
  obtain ⟨b23, g23⟩ : ∃ z, z = h13.size := ⟨_, rfl⟩
  rw [← g23] at A23 st23
  have u24 : r0 ≠ b23 := Nat.ne_of_lt (Nat.lt_of_lt_of_le f15.lt (Nat.le_of_eq g23.symm))
  have u25 : hd ≠ b23 := Nat.ne_of_lt (Nat.lt_of_lt_of_le f16.lt (Nat.le_of_eq g23.symm))
  have u26 : b1 ≠ b23 := Nat.ne_of_lt (Nat.lt_of_lt_of_le f22.lt (Nat.le_of_eq g23.symm))
  have g_b23 : n0 ≤ b23 := Nat.le_trans Z13 (Nat.le_of_eq g23.symm)
  have sz_b23 : h0.size ≤ b23 := Nat.le_trans K13.1 (Nat.le_of_eq g23.symm)
  have f27 := f15.ext E23
  have f28 := f16.ext E23
  have f29 := f17.ext E23
  have f30 := f18.ext E23
  have f31 := f19.ext E23
  have f32 := f20.ext E23
  have f33 := f21.ext E23
  have f34 := f22.ext E23
  have f35 := f14.ext E23
  have Z23 : n0 ≤ h23.size := Nat.le_trans Z13 E23.1
  have K23 := K13.ext E23
  have f36 : Ia Z h23 b23 (.object sn0) 8 (mkh hd) (fun _ => false) := Ia.new A23 (by decide) (by decide) rfl
  refine Go.stp (fun t_ k_ => st23 t_ k_) ?_
  have f37 : Ho Z h23 b23 8 hd (fun _ => false) := Ho.new A23 O23 (by decide) (by decide)
  show Go p.tables e below G (T23.setTop (mkF m 12 #[rv r0, iv (8 : Int32)] [(.ref b23), (.ref r0)]))
  refine zputF X23 hx hZ hown (wm hw 229 rfl) e23 f30 f27 (Or.inl (wm hw 230 rfl)) (wm hw 214 rfl) (ty := (.array (.object sn0))) (by decide) rfl rfl (hb hby d33_12) (fun T38 h38 X38 e38 W38 => ?_)
  have f39 := f30.same W38
  have f40 := f27.wr W38
  have f41 := f28.wr W38
  have f42 := f29.other W38 (Or.inr (slot_ne (Or.inl (wm hw 267 rfl)) (Or.inl (wm hw 230 rfl)) (by decide) (t := .int) (t' := (.array (.object sn0))) (by decide) (by decide)))
  have f43 := f31.other W38 (Or.inr (slot_ne (Or.inl (wm hw 245 rfl)) (Or.inl (wm hw 230 rfl)) (by decide) (t := (.array .int)) (t' := (.array (.object sn0))) (by decide) (by decide)))
  have f44 := f32.other W38 (Or.inr (slot_ne (Or.inl (wm hw 248 rfl)) (Or.inl (wm hw 230 rfl)) (by decide) (t := (.array .long)) (t' := (.array (.object sn0))) (by decide) (by decide)))
  have f45 := f33.other W38 (Or.inr (slot_ne (Or.inl (wm hw 250 rfl)) (Or.inl (wm hw 230 rfl)) (by decide) (t := (.array .long)) (t' := (.array (.object sn0))) (by decide) (by decide)))
  have f46 := f34.other W38 (Ne.symm u2)
  have f47 := f35.other W38 (Or.inr (slot_ne (Or.inl (wm hw 241 rfl)) (Or.inl (wm hw 230 rfl)) (by decide) (t := (.array .int)) (t' := (.array (.object sn0))) (by decide) (by decide)))
  have f48 := f37.other W38 (Ne.symm u24)
  have N38 := Fr.snoc X38 N13 g_r0
  have K38 := K23.wr W38 (Or.inl (List.mem_of_getElem? (i := 0) rfl))
  have Z38 := Nat.le_trans Z23 (Keep.of_wr W38).1
  refine zaloadN X38 hx (hb hby d33_15) rfl rfl ?_
  refine ziloadN X38 hx (hb hby d33_16) rfl ?_
  obtain ⟨T49, h49, k49, X49, e49, E49, A49, st49⟩ := newP X38 hx hZ (wm hw 239 rfl) e38 (g := (mkF m 17 #[rv r0, iv (8 : Int32)] [(.int (8 : Int32)), (.ref r0)])) rfl (hb hby d33_17) rfl (by decide) (cap := 8) (by decide) (by decide) (by decide) (by decide)
  obtain ⟨b49, g49⟩ : ∃ z, z = h38.size := ⟨_, rfl⟩
  rw [← g49] at A49 st49
  have u50 : r0 ≠ b49 := Nat.ne_of_lt (Nat.lt_of_lt_of_le f40.lt (Nat.le_of_eq g49.symm))
  have u51 : hd ≠ b49 := Nat.ne_of_lt (Nat.lt_of_lt_of_le f41.lt (Nat.le_of_eq g49.symm))
  have u52 : b1 ≠ b49 := Nat.ne_of_lt (Nat.lt_of_lt_of_le f46.lt (Nat.le_of_eq g49.symm))
  have u53 : b23 ≠ b49 := Nat.ne_of_lt (Nat.lt_of_lt_of_le f48.lt (Nat.le_of_eq g49.symm))
  have g_b49 : n0 ≤ b49 := Nat.le_trans Z38 (Nat.le_of_eq g49.symm)
  have sz_b49 : h0.size ≤ b49 := Nat.le_trans K38.1 (Nat.le_of_eq g49.symm)
  have f54 := f40.ext E49
  have f55 := f41.ext E49
  have f56 := f42.ext E49
  have f57 := f43.ext E49
  have f58 := f44.ext E49
  have f59 := f45.ext E49
  have f60 := f46.ext E49
  have f61 := f47.ext E49
  have f62 := f48.ext E49
  have f63 := f39.ext E49
  have Z49 : n0 ≤ h49.size := Nat.le_trans Z38 E49.1
  have K49 := K38.ext E49
  have f64 : Ia Z h49 b49 .int 8 Value.int (fun _ => (0 : Int32)) := Ia.new A49 (by decide) (by decide) rfl
  refine Go.stp (fun t_ k_ => st49 t_ k_) ?_
  show Go p.tables e below G (T49.setTop (mkF m 19 #[rv r0, iv (8 : Int32)] [(.ref b49), (.ref r0)]))
  refine zputF X49 hx hZ hown (wm hw 244 rfl) e49 f57 f54 (Or.inl (wm hw 245 rfl)) (wm hw 214 rfl) (ty := (.array .int)) (by decide) rfl rfl (hb hby d33_19) (fun T65 h65 X65 e65 W65 => ?_)
  have f66 := f57.same W65
  have f67 := f54.wr W65
  have f68 := f55.wr W65
  have f69 := f56.other W65 (Or.inr (slot_ne (Or.inl (wm hw 267 rfl)) (Or.inl (wm hw 245 rfl)) (by decide) (t := .int) (t' := (.array .int)) (by decide) (by decide)))
  have f70 := f58.other W65 (Or.inr (slot_ne (Or.inl (wm hw 248 rfl)) (Or.inl (wm hw 245 rfl)) (by decide) (t := (.array .long)) (t' := (.array .int)) (by decide) (by decide)))
  have f71 := f59.other W65 (Or.inr (slot_ne (Or.inl (wm hw 250 rfl)) (Or.inl (wm hw 245 rfl)) (by decide) (t := (.array .long)) (t' := (.array .int)) (by decide) (by decide)))
  have f72 := f60.other W65 (Ne.symm u2)
  have f73 := f61.other W65 (Or.inr (slot_ne (Or.inl (wm hw 241 rfl)) (Or.inl (wm hw 245 rfl)) (by decide) (t := (.array .int)) (t' := (.array .int)) (by decide) (by decide)))
  have f74 := f62.other W65 (Ne.symm u24)
  have f75 := f63.other W65 (Or.inr (slot_ne (Or.inl (wm hw 230 rfl)) (Or.inl (wm hw 245 rfl)) (by decide) (t := (.array (.object sn0))) (t' := (.array .int)) (by decide) (by decide)))
  have f76 := f64.other W65 (Ne.symm u50)
  have N65 := Fr.snoc X65 N38 g_r0
  have K65 := K49.wr W65 (Or.inl (List.mem_of_getElem? (i := 0) rfl))
  have Z65 := Nat.le_trans Z49 (Keep.of_wr W65).1
  refine zaloadN X65 hx (hb hby d33_22) rfl rfl ?_
  refine ziloadN X65 hx (hb hby d33_23) rfl ?_
  obtain ⟨T77, h77, k77, X77, e77, E77, A77, st77⟩ := newP X65 hx hZ (wm hw 246 rfl) e65 (g := (mkF m 24 #[rv r0, iv (8 : Int32)] [(.int (8 : Int32)), (.ref r0)])) rfl (hb hby d33_24) rfl (by decide) (cap := 8) (by decide) (by decide) (by decide) (by decide)
  obtain ⟨b77, g77⟩ : ∃ z, z = h65.size := ⟨_, rfl⟩
  rw [← g77] at A77 st77
  have u78 : r0 ≠ b77 := Nat.ne_of_lt (Nat.lt_of_lt_of_le f67.lt (Nat.le_of_eq g77.symm))
  have u79 : hd ≠ b77 := Nat.ne_of_lt (Nat.lt_of_lt_of_le f68.lt (Nat.le_of_eq g77.symm))
  have u80 : b1 ≠ b77 := Nat.ne_of_lt (Nat.lt_of_lt_of_le f72.lt (Nat.le_of_eq g77.symm))
  have u81 : b23 ≠ b77 := Nat.ne_of_lt (Nat.lt_of_lt_of_le f74.lt (Nat.le_of_eq g77.symm))
  have u82 : b49 ≠ b77 := Nat.ne_of_lt (Nat.lt_of_lt_of_le f76.lt (Nat.le_of_eq g77.symm))
  have g_b77 : n0 ≤ b77 := Nat.le_trans Z65 (Nat.le_of_eq g77.symm)
  have sz_b77 : h0.size ≤ b77 := Nat.le_trans K65.1 (Nat.le_of_eq g77.symm)
  have f83 := f67.ext E77
  have f84 := f68.ext E77
  have f85 := f69.ext E77
  have f86 := f70.ext E77
  have f87 := f71.ext E77
  have f88 := f72.ext E77
  have f89 := f73.ext E77
  have f90 := f74.ext E77
  have f91 := f75.ext E77
  have f92 := f76.ext E77
  have f93 := f66.ext E77
  have Z77 : n0 ≤ h77.size := Nat.le_trans Z65 E77.1
  have K77 := K65.ext E77
  have f94 : Ia Z h77 b77 .long 8 Value.long (fun _ => (0 : Int64)) := Ia.new A77 (by decide) (by decide) rfl
  refine Go.stp (fun t_ k_ => st77 t_ k_) ?_
  show Go p.tables e below G (T77.setTop (mkF m 26 #[rv r0, iv (8 : Int32)] [(.ref b77), (.ref r0)]))
  refine zputF X77 hx hZ hown (wm hw 247 rfl) e77 f86 f83 (Or.inl (wm hw 248 rfl)) (wm hw 214 rfl) (ty := (.array .long)) (by decide) rfl rfl (hb hby d33_26) (fun T95 h95 X95 e95 W95 => ?_)
  have f96 := f86.same W95
  have f97 := f83.wr W95
  have f98 := f84.wr W95
  have f99 := f85.other W95 (Or.inr (slot_ne (Or.inl (wm hw 267 rfl)) (Or.inl (wm hw 248 rfl)) (by decide) (t := .int) (t' := (.array .long)) (by decide) (by decide)))
  have f100 := f87.other W95 (Or.inr (slot_ne (Or.inl (wm hw 250 rfl)) (Or.inl (wm hw 248 rfl)) (by decide) (t := (.array .long)) (t' := (.array .long)) (by decide) (by decide)))
  have f101 := f88.other W95 (Ne.symm u2)
  have f102 := f89.other W95 (Or.inr (slot_ne (Or.inl (wm hw 241 rfl)) (Or.inl (wm hw 248 rfl)) (by decide) (t := (.array .int)) (t' := (.array .long)) (by decide) (by decide)))
  have f103 := f90.other W95 (Ne.symm u24)
  have f104 := f91.other W95 (Or.inr (slot_ne (Or.inl (wm hw 230 rfl)) (Or.inl (wm hw 248 rfl)) (by decide) (t := (.array (.object sn0))) (t' := (.array .long)) (by decide) (by decide)))
  have f105 := f92.other W95 (Ne.symm u50)
  have f106 := f93.other W95 (Or.inr (slot_ne (Or.inl (wm hw 245 rfl)) (Or.inl (wm hw 248 rfl)) (by decide) (t := (.array .int)) (t' := (.array .long)) (by decide) (by decide)))
  have f107 := f94.other W95 (Ne.symm u78)
  have N95 := Fr.snoc X95 N65 g_r0
  have K95 := K77.wr W95 (Or.inl (List.mem_of_getElem? (i := 0) rfl))
  have Z95 := Nat.le_trans Z77 (Keep.of_wr W95).1
  refine zaloadN X95 hx (hb hby d33_29) rfl rfl ?_
  refine ziloadN X95 hx (hb hby d33_30) rfl ?_
  obtain ⟨T108, h108, k108, X108, e108, E108, A108, st108⟩ := newP X95 hx hZ (wm hw 246 rfl) e95 (g := (mkF m 31 #[rv r0, iv (8 : Int32)] [(.int (8 : Int32)), (.ref r0)])) rfl (hb hby d33_31) rfl (by decide) (cap := 8) (by decide) (by decide) (by decide) (by decide)
  obtain ⟨b108, g108⟩ : ∃ z, z = h95.size := ⟨_, rfl⟩
  rw [← g108] at A108 st108
  have u109 : r0 ≠ b108 := Nat.ne_of_lt (Nat.lt_of_lt_of_le f97.lt (Nat.le_of_eq g108.symm))
  have u110 : hd ≠ b108 := Nat.ne_of_lt (Nat.lt_of_lt_of_le f98.lt (Nat.le_of_eq g108.symm))
  have u111 : b1 ≠ b108 := Nat.ne_of_lt (Nat.lt_of_lt_of_le f101.lt (Nat.le_of_eq g108.symm))
  have u112 : b23 ≠ b108 := Nat.ne_of_lt (Nat.lt_of_lt_of_le f103.lt (Nat.le_of_eq g108.symm))
  have u113 : b49 ≠ b108 := Nat.ne_of_lt (Nat.lt_of_lt_of_le f105.lt (Nat.le_of_eq g108.symm))
  have u114 : b77 ≠ b108 := Nat.ne_of_lt (Nat.lt_of_lt_of_le f107.lt (Nat.le_of_eq g108.symm))
  have g_b108 : n0 ≤ b108 := Nat.le_trans Z95 (Nat.le_of_eq g108.symm)
  have sz_b108 : h0.size ≤ b108 := Nat.le_trans K95.1 (Nat.le_of_eq g108.symm)
  have f115 := f97.ext E108
  have f116 := f98.ext E108
  have f117 := f99.ext E108
  have f118 := f100.ext E108
  have f119 := f101.ext E108
  have f120 := f102.ext E108
  have f121 := f103.ext E108
  have f122 := f104.ext E108
  have f123 := f105.ext E108
  have f124 := f106.ext E108
  have f125 := f107.ext E108
  have f126 := f96.ext E108
  have Z108 : n0 ≤ h108.size := Nat.le_trans Z95 E108.1
  have K108 := K95.ext E108
  have f127 : Ia Z h108 b108 .long 8 Value.long (fun _ => (0 : Int64)) := Ia.new A108 (by decide) (by decide) rfl
  refine Go.stp (fun t_ k_ => st108 t_ k_) ?_
  show Go p.tables e below G (T108.setTop (mkF m 33 #[rv r0, iv (8 : Int32)] [(.ref b108), (.ref r0)]))
  refine zputF X108 hx hZ hown (wm hw 249 rfl) e108 f118 f115 (Or.inl (wm hw 250 rfl)) (wm hw 214 rfl) (ty := (.array .long)) (by decide) rfl rfl (hb hby d33_33) (fun T128 h128 X128 e128 W128 => ?_)
  have f129 := f118.same W128
  have f130 := f115.wr W128
  have f131 := f116.wr W128
  have f132 := f117.other W128 (Or.inr (slot_ne (Or.inl (wm hw 267 rfl)) (Or.inl (wm hw 250 rfl)) (by decide) (t := .int) (t' := (.array .long)) (by decide) (by decide)))
  have f133 := f119.other W128 (Ne.symm u2)
  have f134 := f120.other W128 (Or.inr (slot_ne (Or.inl (wm hw 241 rfl)) (Or.inl (wm hw 250 rfl)) (by decide) (t := (.array .int)) (t' := (.array .long)) (by decide) (by decide)))
  have f135 := f121.other W128 (Ne.symm u24)
  have f136 := f122.other W128 (Or.inr (slot_ne (Or.inl (wm hw 230 rfl)) (Or.inl (wm hw 250 rfl)) (by decide) (t := (.array (.object sn0))) (t' := (.array .long)) (by decide) (by decide)))
  have f137 := f123.other W128 (Ne.symm u50)
  have f138 := f124.other W128 (Or.inr (slot_ne (Or.inl (wm hw 245 rfl)) (Or.inl (wm hw 250 rfl)) (by decide) (t := (.array .int)) (t' := (.array .long)) (by decide) (by decide)))
  have f139 := f125.other W128 (Ne.symm u78)
  have f140 := f126.other W128 (Or.inr (slot_ne (Or.inl (wm hw 248 rfl)) (Or.inl (wm hw 250 rfl)) (by decide) (t := (.array .long)) (t' := (.array .long)) (by decide) (by decide)))
  have f141 := f127.other W128 (Ne.symm u109)
  have N128 := Fr.snoc X128 N95 g_r0
  have K128 := K108.wr W128 (Or.inl (List.mem_of_getElem? (i := 0) rfl))
  have Z128 := Nat.le_trans Z108 (Keep.of_wr W128).1
  refine zretV X128 hx hrt hlk (hb hby d33_36) e128 hG (by decide) (by decide) ?_
  exact ⟨rfl, N128, K128, b1, b23, b49, b77, b108, ⟨f130, f131, f134, f136, f138, f140, f129, f132, f133, f135, ⟨_, f137⟩, ⟨_, f139⟩, ⟨_, f141⟩, ⟨g_r0, g_b1, g_b23, g_b49, g_b77, g_b108⟩, ⟨u2, u24, u50, u78, u109, u26, u52, u80, u111, u53, u81, u112, u82, u113, u114⟩⟩, sz_b1, sz_b23, sz_b49, sz_b77, sz_b108⟩
theorem d34_0 : decode cn31 0 = .ok (.aload_n 0, 1) := by decide +kernel
theorem d34_1 : decode cn31 1 = .ok (.getfield 17, 3) := by decide +kernel
theorem d34_4 : decode cn31 4 = .ok (.arraylength, 1) := by decide +kernel
theorem d34_5 : decode cn31 5 = .ok (.iconst 1, 1) := by decide +kernel
theorem d34_6 : decode cn31 6 = .ok (.isub, 1) := by decide +kernel
theorem d34_7 : decode cn31 7 = .ok (.istore 8, 2) := by decide +kernel
theorem d34_9 : decode cn31 9 = .ok (.aload_n 0, 1) := by decide +kernel
theorem d34_10 : decode cn31 10 = .ok (.iload_n 1, 1) := by decide +kernel
theorem d34_11 : decode cn31 11 = .ok (.invokevirtual 42, 3) := by decide +kernel
theorem d34_14 : decode cn31 14 = .ok (.istore 9, 2) := by decide +kernel
theorem d34_16 : decode cn31 16 = .ok (.aload_n 0, 1) := by decide +kernel
theorem d34_17 : decode cn31 17 = .ok (.getfield 17, 3) := by decide +kernel
theorem d34_20 : decode cn31 20 = .ok (.iload 9, 2) := by decide +kernel
theorem d34_22 : decode cn31 22 = .ok (.aaload, 1) := by decide +kernel
theorem d34_23 : decode cn31 23 = .ok (.ifnull 15, 3) := by decide +kernel
theorem d34_26 : decode cn31 26 = .ok (.iload 9, 2) := by decide +kernel
theorem d34_28 : decode cn31 28 = .ok (.iconst 1, 1) := by decide +kernel
theorem d34_29 : decode cn31 29 = .ok (.iadd, 1) := by decide +kernel
theorem d34_30 : decode cn31 30 = .ok (.iload 8, 2) := by decide +kernel
theorem d34_32 : decode cn31 32 = .ok (.iand, 1) := by decide +kernel
theorem d34_33 : decode cn31 33 = .ok (.istore 9, 2) := by decide +kernel
theorem d34_35 : decode cn31 35 = .ok (.goto (-19), 3) := by decide +kernel
theorem d34_38 : decode cn31 38 = .ok (.aload_n 0, 1) := by decide +kernel
theorem d34_39 : decode cn31 39 = .ok (.getfield 39, 3) := by decide +kernel
theorem d34_42 : decode cn31 42 = .ok (.iload 9, 2) := by decide +kernel
theorem d34_44 : decode cn31 44 = .ok (.iload_n 1, 1) := by decide +kernel
theorem d34_45 : decode cn31 45 = .ok (.iastore, 1) := by decide +kernel
theorem d34_46 : decode cn31 46 = .ok (.aload_n 0, 1) := by decide +kernel
theorem d34_47 : decode cn31 47 = .ok (.getfield 17, 3) := by decide +kernel
theorem d34_50 : decode cn31 50 = .ok (.iload 9, 2) := by decide +kernel
theorem d34_52 : decode cn31 52 = .ok (.aload_n 2, 1) := by decide +kernel
theorem d34_53 : decode cn31 53 = .ok (.aastore, 1) := by decide +kernel
theorem d34_54 : decode cn31 54 = .ok (.aload_n 0, 1) := by decide +kernel
theorem d34_55 : decode cn31 55 = .ok (.getfield 28, 3) := by decide +kernel
theorem d34_58 : decode cn31 58 = .ok (.iload 9, 2) := by decide +kernel
theorem d34_60 : decode cn31 60 = .ok (.iload_n 3, 1) := by decide +kernel
theorem d34_61 : decode cn31 61 = .ok (.iastore, 1) := by decide +kernel
theorem d34_62 : decode cn31 62 = .ok (.aload_n 0, 1) := by decide +kernel
theorem d34_63 : decode cn31 63 = .ok (.getfield 32, 3) := by decide +kernel
theorem d34_66 : decode cn31 66 = .ok (.iload 9, 2) := by decide +kernel
theorem d34_68 : decode cn31 68 = .ok (.lload 4, 2) := by decide +kernel
theorem d34_70 : decode cn31 70 = .ok (.lastore, 1) := by decide +kernel
theorem d34_71 : decode cn31 71 = .ok (.aload_n 0, 1) := by decide +kernel
theorem d34_72 : decode cn31 72 = .ok (.getfield 36, 3) := by decide +kernel
theorem d34_75 : decode cn31 75 = .ok (.iload 9, 2) := by decide +kernel
theorem d34_77 : decode cn31 77 = .ok (.lload 6, 2) := by decide +kernel
theorem d34_79 : decode cn31 79 = .ok (.lastore, 1) := by decide +kernel
theorem d34_80 : decode cn31 80 = .ok (.iload 9, 2) := by decide +kernel
theorem d34_82 : decode cn31 82 = .ok (.ireturn, 1) := by decide +kernel
theorem ef_34_4 (m : MethodId) (r0 : Addr) (p1 : Int32) (hd : Addr) (p3 : Int32) (q4 : Int64) (q5 : Int64) : entryFrame m #[(.ref r0), (.int p1), (.ref hd), (.int p3), (.long q4), (.long q5)] 10 = mkF m 0 #[rv r0, iv p1, rv hd, iv p3, lv q4, sd, lv q5, sd, un, un] [] := by first | (simp [entryFrame, mkF, argsToLocals, Value.category, iv, rv, lv, un, sd]; done) | rfl
def Q34_4 (Z : State) (r0 : Addr) (p1 : Int32) (hd : Addr) (p3 : Int32) (q4 : Int64) (q5 : Int64) (F : Nat → Bool) (K : Nat → Int32) (sz : Int32) (ah : Addr) (ao : Addr) (au : Addr) (ab : Addr) (ar : Addr) (t : Nat) (h0 : Heap) (n0 : Nat) (v : Option Value) (h : Heap) (L : List Loc) : Prop := v = some (.int (own_it (own_hm4 p1) ((4 : Int32) - (1 : Int32)) t)) ∧ Fr n0 L ∧ Keep h0 h [ah, ao, au, ab, ar] ∧ Tb Z h n0 r0 hd 4 (upf F (own_P4 p1 t) true) (upf K (own_P4 p1 t) p1) sz ah ao au ab ar
set_option maxRecDepth 65536 in
set_option maxHeartbeats 40000000 in
theorem rm34_4 (l : Launch) (Z : State) (a0 : Array Value) (hw : ∀ d ∈ tables_1, d.before a0 Z = true) (ws : List Jvm.Cond) (r0 : Addr) (p1 : Int32) (hd : Addr) (p3 : Int32) (q4 : Int64) (q5 : Int64) (F : Nat → Bool) (K : Nat → Int32) (sz : Int32) (ah : Addr) (ao : Addr) (au : Addr) (ab : Addr) (ar : Addr) (t : Nat) (h0 : Heap) (n0 : Nat) (Z0 : n0 ≤ h0.size) (TB : Tb Z h0 n0 r0 hd 4 F K sz ah ao au ab ar) (hs : ∀ u, u < t → F (own_P4 p1 u) = true) (he : F (own_P4 p1 t) = false) :
    Mzz l yn31 cn31 10 (some .int) ws (rk 2 0 0 27) #[(.ref r0), (.int p1), (.ref hd), (.int p3), (.long q4), (.long q5)] Z h0 (Q34_4 Z r0 p1 hd p3 q4 q5 F K sz ah ao au ab ar t h0 n0) := by
  refine Mzz.go (own := sn1) (nm := "place") (L0 := #[rv r0, iv p1, rv hd, iv p3, lv q4, sd, lv q5, sd, un, un]) (plainFor_of_name pn_29) rfl rfl (fun m => ef_34_4 m r0 p1 hd p3 q4 q5) ?_
  intro p e s m below meth c s₁ hx hby hml hown hnm X0 e0 hZ hrt hlk G hG
  have N0 := Fr.nil n0
  have K0 := Keep.refl h0 [ah, ao, au, ab, ar]
  obtain ⟨tE, tH, t1, t2, t3, t4, t5, tS, i1, i2, ⟨fu, i3⟩, ⟨fb, i4⟩, ⟨fr, i5⟩, ⟨g_r0, g_ah, g_ao, g_au, g_ab, g_ar⟩, ⟨u_r0_ah, u_r0_ao, u_r0_au, u_r0_ab, u_r0_ar, u_ah_ao, u_ah_au, u_ah_ab, u_ah_ar, u_ao_au, u_ao_ab, u_ao_ar, u_au_ab, u_au_ar, u_ab_ar⟩⟩ := id TB
  show Go p.tables e below G (s₁.setTop (mkF m 0 #[rv r0, iv p1, rv hd, iv p3, lv q4, sd, lv q5, sd, un, un] []))
  refine zaloadN X0 hx (hb hby d34_0) rfl rfl ?_
  refine zgetF X0 hx hZ hown (wm hw 229 rfl) e0 t2 (hb hby d34_1) (fun T1 X1 e1 => ?_)
  obtain ⟨cl2, Ar2, Sz2, -, -⟩ := id i2
  refine zlen X1 hx hZ e1 Ar2 Sz2 (z := (4 : Int32)) rfl (hb hby d34_4) ?_
  refine ziconst X1 hx (hb hby d34_5) (z := (1 : Int32)) rfl ?_
  refine zisub X1 hx (hb hby d34_6) ?_
  refine zistore X1 hx (l' := #[rv r0, iv p1, rv hd, iv p3, lv q4, sd, lv q5, sd, iv ((4 : Int32) - (1 : Int32)), un]) (hb hby d34_7) rfl ?_
  refine zaloadN X1 hx (hb hby d34_9) rfl rfl ?_
  refine ziloadN X1 hx (hb hby d34_10) rfl ?_
  obtain ⟨cq3, qq3, qq3'⟩ := tE.cell
  obtain ⟨_, _, ⟨T3, L3, k3, n3⟩, -, X3, ⟨Lc3, hQ3, l3, y3, z3⟩, st3⟩ := X1.privateBack hx (y := yn28) hown (mvT hZ (wm hw 255 rfl)) (mvT hZ (wm hw 256 rfl)) (sel_priv (mvT hZ (wm hw 214 rfl)) (Cond.privateMethod_at (mvP hZ (wm hw 257 rfl) (args := #[]))) (mvT hZ (wm hw 256 rfl)) (by decide)) (Cond.privateMethod_at (mvP hZ (wm hw 257 rfl) (args := #[]))) (mvT hZ (wm hw 258 rfl)) (by decide) (backOf (W := 0) (rm35_4 l Z a0 hw [] r0 p1 ao hd F h0 n0 Z0 t2 i2) hZ (wm hw 258 rfl) (wm hw 215 rfl) (by decide) (by decide)) (g := (mkF m 11 #[rv r0, iv p1, rv hd, iv p3, lv q4, sd, lv q5, sd, iv ((4 : Int32) - (1 : Int32)), un] [(.int p1), (.ref r0)])) rfl (by rw [hml]; rfl) (Steps.refl _) (a := r0) (by rw [e1]; exact qq3) qq3' (argsL := [(.int p1)]) (rest := []) (lenOf pd_19 rfl) rfl (by show 2 * 0 + _ ≤ _; exact Nat.le_of_eq rfl) (hb hby d34_11) (fun _ _ => ⟨rfl, e1, (by decide : 0 + 0 ≤ _), (by decide : 0 + 0 ≤ _)⟩)
  dsimp only [Pt.U, Pt.locs, Pt.cells, Pt.slots] at X3 l3 y3 z3 st3 hQ3
  subst l3 y3 z3
  obtain ⟨rfl, Nq3, e3⟩ := hQ3
  have N3 := Fr.app N0 Nq3
  refine Go.stp (fun t_ k_ => st3.trans k_) ?_
  show Go p.tables e below G (T3.setTop (mkF m 14 #[rv r0, iv p1, rv hd, iv p3, lv q4, sd, lv q5, sd, iv ((4 : Int32) - (1 : Int32)), un] [(.int (own_hm4 p1))]))
  refine zistore X3 hx (l' := #[rv r0, iv p1, rv hd, iv p3, lv q4, sd, lv q5, sd, iv ((4 : Int32) - (1 : Int32)), iv (own_hm4 p1)]) (hb hby d34_14) rfl ?_
  show Go p.tables e below G (T3.setTop (mkF m 16 #[rv r0, iv p1, rv hd, iv p3, lv q4, sd, lv q5, sd, iv ((4 : Int32) - (1 : Int32)), iv (own_it (own_hm4 p1) ((4 : Int32) - (1 : Int32)) 0)] []))
  suffices LP : ∀ (k : Nat) (T : State) (locs : List Loc) (u : Nat), Stand p l e (rk 2 0 0 27) s m #[(.ref r0), (.int p1), (.ref hd), (.int p3), (.long q4), (.long q5)] below meth c T locs 0 0 → Fr n0 locs → T.heap = h0 → (u + k = t) → Go p.tables e below G (T.setTop (mkF m 16 #[rv r0, iv p1, rv hd, iv p3, lv q4, sd, lv q5, sd, iv ((4 : Int32) - (1 : Int32)), iv (own_it (own_hm4 p1) ((4 : Int32) - (1 : Int32)) u)] [])) from LP (t) _ _ (0) X3 N3 e3 (by omega)
  intro k
  induction k with
  | zero =>
    intro T locs u X N E hu
    obtain rfl : t = u := by omega
    show Go p.tables e below G (T.setTop (mkF m 16 #[rv r0, iv p1, rv hd, iv p3, lv q4, sd, lv q5, sd, iv ((4 : Int32) - (1 : Int32)), iv (own_it (own_hm4 p1) ((4 : Int32) - (1 : Int32)) t)] []))
    refine zaloadN X hx (hb hby d34_16) rfl rfl ?_
    refine zgetF X hx hZ hown (wm hw 229 rfl) E t2 (hb hby d34_17) (fun T4 X4 e4 => ?_)
    refine ziload X4 hx (hb hby d34_20) rfl ?_
    refine zaal X4 hx hZ e4 i2 (own_tb4 p1 t) (hb hby d34_22) ?_
    rw [show (mkh hd (F ((own_it (own_hm4 p1) ((4 : Int32) - (1 : Int32)) t)).toNatClampNeg)) = Value.null from mkh_f he]
    show Go p.tables e below G (T4.setTop (mkF m 23 #[rv r0, iv p1, rv hd, iv p3, lv q4, sd, lv q5, sd, iv ((4 : Int32) - (1 : Int32)), iv (own_it (own_hm4 p1) ((4 : Int32) - (1 : Int32)) t)] [.null]))
    refine zifnullYes X4 hx (pc' := 38) (hb hby d34_23) (by decide) (by decide) ?_
    refine zaloadN X4 hx (hb hby d34_38) rfl rfl ?_
    refine zgetF X4 hx hZ hown (wm hw 240 rfl) e4 t1 (hb hby d34_39) (fun T5 X5 e5 => ?_)
    refine ziload X5 hx (hb hby d34_42) rfl ?_
    refine ziloadN X5 hx (hb hby d34_44) rfl ?_
    refine zias X5 hx hZ e5 i1 (own_tb4 p1 t) (hb hby d34_45) (fun T6 h6 X6 e6 W6 f7 => ?_)
    have f8 := tE.wr W6
    have f9 := tH.wr W6
    have f10 := t1.other W6 (Or.inl u_r0_ah)
    have f11 := t2.other W6 (Or.inl u_r0_ah)
    have f12 := t3.other W6 (Or.inl u_r0_ah)
    have f13 := t4.other W6 (Or.inl u_r0_ah)
    have f14 := t5.other W6 (Or.inl u_r0_ah)
    have f15 := tS.other W6 (Or.inl u_r0_ah)
    have f16 := i2.other W6 (Ne.symm u_ah_ao)
    have f17 := i3.other W6 (Ne.symm u_ah_au)
    have f18 := i4.other W6 (Ne.symm u_ah_ab)
    have f19 := i5.other W6 (Ne.symm u_ah_ar)
    have N6 := Fr.snoc X6 N g_ah
    have K6 := K0.wr W6 (Or.inl (List.mem_of_getElem? (i := 0) rfl))
    have Z6 := Nat.le_trans Z0 (Keep.of_wr W6).1
    refine zaloadN X6 hx (hb hby d34_46) rfl rfl ?_
    refine zgetF X6 hx hZ hown (wm hw 229 rfl) e6 f11 (hb hby d34_47) (fun T20 X20 e20 => ?_)
    refine ziload X20 hx (hb hby d34_50) rfl ?_
    refine zaloadN X20 hx (hb hby d34_52) rfl rfl ?_
    refine zaas (b := true) X20 hx hZ e20 f16 f9 (own_tb4 p1 t) (hb hby d34_53) (fun T21 h21 X21 e21 W21 f22 => ?_)
    have f23 := f8.wr W21
    have f24 := f9.wr W21
    have f25 := f10.other W21 (Or.inl u_r0_ao)
    have f26 := f11.other W21 (Or.inl u_r0_ao)
    have f27 := f12.other W21 (Or.inl u_r0_ao)
    have f28 := f13.other W21 (Or.inl u_r0_ao)
    have f29 := f14.other W21 (Or.inl u_r0_ao)
    have f30 := f15.other W21 (Or.inl u_r0_ao)
    have f31 := f17.other W21 (Ne.symm u_ao_au)
    have f32 := f18.other W21 (Ne.symm u_ao_ab)
    have f33 := f19.other W21 (Ne.symm u_ao_ar)
    have f34 := f7.other W21 u_ah_ao
    have N21 := Fr.snoc X21 N6 g_ao
    have K21 := K6.wr W21 (Or.inl (List.mem_of_getElem? (i := 1) rfl))
    have Z21 := Nat.le_trans Z6 (Keep.of_wr W21).1
    refine zaloadN X21 hx (hb hby d34_54) rfl rfl ?_
    refine zgetF X21 hx hZ hown (wm hw 244 rfl) e21 f27 (hb hby d34_55) (fun T35 X35 e35 => ?_)
    refine ziload X35 hx (hb hby d34_58) rfl ?_
    refine ziloadN X35 hx (hb hby d34_60) rfl ?_
    refine zias X35 hx hZ e35 f31 (own_tb4 p1 t) (hb hby d34_61) (fun T36 h36 X36 e36 W36 f37 => ?_)
    have f38 := f23.wr W36
    have f39 := f24.wr W36
    have f40 := f25.other W36 (Or.inl u_r0_au)
    have f41 := f26.other W36 (Or.inl u_r0_au)
    have f42 := f27.other W36 (Or.inl u_r0_au)
    have f43 := f28.other W36 (Or.inl u_r0_au)
    have f44 := f29.other W36 (Or.inl u_r0_au)
    have f45 := f30.other W36 (Or.inl u_r0_au)
    have f46 := f32.other W36 (Ne.symm u_au_ab)
    have f47 := f33.other W36 (Ne.symm u_au_ar)
    have f48 := f34.other W36 u_ah_au
    have f49 := f22.other W36 u_ao_au
    have N36 := Fr.snoc X36 N21 g_au
    have K36 := K21.wr W36 (Or.inl (List.mem_of_getElem? (i := 2) rfl))
    have Z36 := Nat.le_trans Z21 (Keep.of_wr W36).1
    refine zaloadN X36 hx (hb hby d34_62) rfl rfl ?_
    refine zgetF X36 hx hZ hown (wm hw 247 rfl) e36 f43 (hb hby d34_63) (fun T50 X50 e50 => ?_)
    refine ziload X50 hx (hb hby d34_66) rfl ?_
    refine zlload X50 hx (hb hby d34_68) rfl ?_
    refine zlas X50 hx hZ e50 f46 (own_tb4 p1 t) (hb hby d34_70) (fun T51 h51 X51 e51 W51 f52 => ?_)
    have f53 := f38.wr W51
    have f54 := f39.wr W51
    have f55 := f40.other W51 (Or.inl u_r0_ab)
    have f56 := f41.other W51 (Or.inl u_r0_ab)
    have f57 := f42.other W51 (Or.inl u_r0_ab)
    have f58 := f43.other W51 (Or.inl u_r0_ab)
    have f59 := f44.other W51 (Or.inl u_r0_ab)
    have f60 := f45.other W51 (Or.inl u_r0_ab)
    have f61 := f47.other W51 (Ne.symm u_ab_ar)
    have f62 := f48.other W51 u_ah_ab
    have f63 := f49.other W51 u_ao_ab
    have f64 := f37.other W51 u_au_ab
    have N51 := Fr.snoc X51 N36 g_ab
    have K51 := K36.wr W51 (Or.inl (List.mem_of_getElem? (i := 3) rfl))
    have Z51 := Nat.le_trans Z36 (Keep.of_wr W51).1
    refine zaloadN X51 hx (hb hby d34_71) rfl rfl ?_
    refine zgetF X51 hx hZ hown (wm hw 249 rfl) e51 f59 (hb hby d34_72) (fun T65 X65 e65 => ?_)
    refine ziload X65 hx (hb hby d34_75) rfl ?_
    refine zlload X65 hx (hb hby d34_77) rfl ?_
    refine zlas X65 hx hZ e65 f61 (own_tb4 p1 t) (hb hby d34_79) (fun T66 h66 X66 e66 W66 f67 => ?_)
    have f68 := f53.wr W66
    have f69 := f54.wr W66
    have f70 := f55.other W66 (Or.inl u_r0_ar)
    have f71 := f56.other W66 (Or.inl u_r0_ar)
    have f72 := f57.other W66 (Or.inl u_r0_ar)
    have f73 := f58.other W66 (Or.inl u_r0_ar)
    have f74 := f59.other W66 (Or.inl u_r0_ar)
    have f75 := f60.other W66 (Or.inl u_r0_ar)
    have f76 := f62.other W66 u_ah_ar
    have f77 := f63.other W66 u_ao_ar
    have f78 := f64.other W66 u_au_ar
    have f79 := f52.other W66 u_ab_ar
    have N66 := Fr.snoc X66 N51 g_ar
    have K66 := K51.wr W66 (Or.inl (List.mem_of_getElem? (i := 4) rfl))
    have Z66 := Nat.le_trans Z51 (Keep.of_wr W66).1
    refine ziload X66 hx (hb hby d34_80) rfl ?_
    refine zretI X66 hx hrt hlk (hb hby d34_82) e66 hG (by decide) (by decide) ?_
    exact ⟨rfl, N66, K66, ⟨f68, f69, f70, f71, f72, f73, f74, f75, f76, f77, ⟨_, f78⟩, ⟨_, f79⟩, ⟨_, f67⟩, ⟨g_r0, g_ah, g_ao, g_au, g_ab, g_ar⟩, ⟨u_r0_ah, u_r0_ao, u_r0_au, u_r0_ab, u_r0_ar, u_ah_ao, u_ah_au, u_ah_ab, u_ah_ar, u_ao_au, u_ao_ab, u_ao_ar, u_au_ab, u_au_ar, u_ab_ar⟩⟩⟩
  | succ k ih =>
    intro T locs u X N E hu
    have hsu := hs u (by omega)
    show Go p.tables e below G (T.setTop (mkF m 16 #[rv r0, iv p1, rv hd, iv p3, lv q4, sd, lv q5, sd, iv ((4 : Int32) - (1 : Int32)), iv (own_it (own_hm4 p1) ((4 : Int32) - (1 : Int32)) u)] []))
    refine zaloadN X hx (hb hby d34_16) rfl rfl ?_
    refine zgetF X hx hZ hown (wm hw 229 rfl) E t2 (hb hby d34_17) (fun T80 X80 e80 => ?_)
    refine ziload X80 hx (hb hby d34_20) rfl ?_
    refine zaal X80 hx hZ e80 i2 (own_tb4 p1 u) (hb hby d34_22) ?_
    rw [show (mkh hd (F ((own_it (own_hm4 p1) ((4 : Int32) - (1 : Int32)) u)).toNatClampNeg)) = Value.ref hd from mkh_t hsu]
    show Go p.tables e below G (T80.setTop (mkF m 23 #[rv r0, iv p1, rv hd, iv p3, lv q4, sd, lv q5, sd, iv ((4 : Int32) - (1 : Int32)), iv (own_it (own_hm4 p1) ((4 : Int32) - (1 : Int32)) u)] [(.ref hd)]))
    refine zifnullNo X80 hx (hb hby d34_23) ?_
    refine ziload X80 hx (hb hby d34_26) rfl ?_
    refine ziconst X80 hx (hb hby d34_28) (z := (1 : Int32)) rfl ?_
    refine ziadd X80 hx (hb hby d34_29) ?_
    refine ziload X80 hx (hb hby d34_30) rfl ?_
    refine ziand X80 hx (hb hby d34_32) ?_
    refine zistore X80 hx (l' := #[rv r0, iv p1, rv hd, iv p3, lv q4, sd, lv q5, sd, iv ((4 : Int32) - (1 : Int32)), iv (((own_it (own_hm4 p1) ((4 : Int32) - (1 : Int32)) u) + (1 : Int32)) &&& ((4 : Int32) - (1 : Int32)))]) (hb hby d34_33) rfl ?_
    refine zgoto X80 hx (pc' := 16) (hb hby d34_35) (by decide) (by decide) ?_
    exact ih _ _ (u + 1) X80 N e80 (by omega)
theorem ef_34_8 (m : MethodId) (r0 : Addr) (p1 : Int32) (hd : Addr) (p3 : Int32) (q4 : Int64) (q5 : Int64) : entryFrame m #[(.ref r0), (.int p1), (.ref hd), (.int p3), (.long q4), (.long q5)] 10 = mkF m 0 #[rv r0, iv p1, rv hd, iv p3, lv q4, sd, lv q5, sd, un, un] [] := by first | (simp [entryFrame, mkF, argsToLocals, Value.category, iv, rv, lv, un, sd]; done) | rfl
def Q34_8 (Z : State) (r0 : Addr) (p1 : Int32) (hd : Addr) (p3 : Int32) (q4 : Int64) (q5 : Int64) (F : Nat → Bool) (K : Nat → Int32) (sz : Int32) (ah : Addr) (ao : Addr) (au : Addr) (ab : Addr) (ar : Addr) (t : Nat) (h0 : Heap) (n0 : Nat) (v : Option Value) (h : Heap) (L : List Loc) : Prop := v = some (.int (own_it (own_hm8 p1) ((8 : Int32) - (1 : Int32)) t)) ∧ Fr n0 L ∧ Keep h0 h [ah, ao, au, ab, ar] ∧ Tb Z h n0 r0 hd 8 (upf F (own_P8 p1 t) true) (upf K (own_P8 p1 t) p1) sz ah ao au ab ar
set_option maxRecDepth 65536 in
set_option maxHeartbeats 40000000 in
theorem rm34_8 (l : Launch) (Z : State) (a0 : Array Value) (hw : ∀ d ∈ tables_1, d.before a0 Z = true) (ws : List Jvm.Cond) (r0 : Addr) (p1 : Int32) (hd : Addr) (p3 : Int32) (q4 : Int64) (q5 : Int64) (F : Nat → Bool) (K : Nat → Int32) (sz : Int32) (ah : Addr) (ao : Addr) (au : Addr) (ab : Addr) (ar : Addr) (t : Nat) (h0 : Heap) (n0 : Nat) (Z0 : n0 ≤ h0.size) (TB : Tb Z h0 n0 r0 hd 8 F K sz ah ao au ab ar) (hs : ∀ u, u < t → F (own_P8 p1 u) = true) (he : F (own_P8 p1 t) = false) :
    Mzz l yn31 cn31 10 (some .int) ws (rk 2 0 0 27) #[(.ref r0), (.int p1), (.ref hd), (.int p3), (.long q4), (.long q5)] Z h0 (Q34_8 Z r0 p1 hd p3 q4 q5 F K sz ah ao au ab ar t h0 n0) := by
  refine Mzz.go (own := sn1) (nm := "place") (L0 := #[rv r0, iv p1, rv hd, iv p3, lv q4, sd, lv q5, sd, un, un]) (plainFor_of_name pn_29) rfl rfl (fun m => ef_34_8 m r0 p1 hd p3 q4 q5) ?_
  intro p e s m below meth c s₁ hx hby hml hown hnm X0 e0 hZ hrt hlk G hG
  have N0 := Fr.nil n0
  have K0 := Keep.refl h0 [ah, ao, au, ab, ar]
  obtain ⟨tE, tH, t1, t2, t3, t4, t5, tS, i1, i2, ⟨fu, i3⟩, ⟨fb, i4⟩, ⟨fr, i5⟩, ⟨g_r0, g_ah, g_ao, g_au, g_ab, g_ar⟩, ⟨u_r0_ah, u_r0_ao, u_r0_au, u_r0_ab, u_r0_ar, u_ah_ao, u_ah_au, u_ah_ab, u_ah_ar, u_ao_au, u_ao_ab, u_ao_ar, u_au_ab, u_au_ar, u_ab_ar⟩⟩ := id TB
  show Go p.tables e below G (s₁.setTop (mkF m 0 #[rv r0, iv p1, rv hd, iv p3, lv q4, sd, lv q5, sd, un, un] []))
  refine zaloadN X0 hx (hb hby d34_0) rfl rfl ?_
  refine zgetF X0 hx hZ hown (wm hw 229 rfl) e0 t2 (hb hby d34_1) (fun T1 X1 e1 => ?_)
  obtain ⟨cl2, Ar2, Sz2, -, -⟩ := id i2
  refine zlen X1 hx hZ e1 Ar2 Sz2 (z := (8 : Int32)) rfl (hb hby d34_4) ?_
  refine ziconst X1 hx (hb hby d34_5) (z := (1 : Int32)) rfl ?_
  refine zisub X1 hx (hb hby d34_6) ?_
  refine zistore X1 hx (l' := #[rv r0, iv p1, rv hd, iv p3, lv q4, sd, lv q5, sd, iv ((8 : Int32) - (1 : Int32)), un]) (hb hby d34_7) rfl ?_
  refine zaloadN X1 hx (hb hby d34_9) rfl rfl ?_
  refine ziloadN X1 hx (hb hby d34_10) rfl ?_
  obtain ⟨cq3, qq3, qq3'⟩ := tE.cell
  obtain ⟨_, _, ⟨T3, L3, k3, n3⟩, -, X3, ⟨Lc3, hQ3, l3, y3, z3⟩, st3⟩ := X1.privateBack hx (y := yn28) hown (mvT hZ (wm hw 255 rfl)) (mvT hZ (wm hw 256 rfl)) (sel_priv (mvT hZ (wm hw 214 rfl)) (Cond.privateMethod_at (mvP hZ (wm hw 257 rfl) (args := #[]))) (mvT hZ (wm hw 256 rfl)) (by decide)) (Cond.privateMethod_at (mvP hZ (wm hw 257 rfl) (args := #[]))) (mvT hZ (wm hw 258 rfl)) (by decide) (backOf (W := 0) (rm35_8 l Z a0 hw [] r0 p1 ao hd F h0 n0 Z0 t2 i2) hZ (wm hw 258 rfl) (wm hw 215 rfl) (by decide) (by decide)) (g := (mkF m 11 #[rv r0, iv p1, rv hd, iv p3, lv q4, sd, lv q5, sd, iv ((8 : Int32) - (1 : Int32)), un] [(.int p1), (.ref r0)])) rfl (by rw [hml]; rfl) (Steps.refl _) (a := r0) (by rw [e1]; exact qq3) qq3' (argsL := [(.int p1)]) (rest := []) (lenOf pd_19 rfl) rfl (by show 2 * 0 + _ ≤ _; exact Nat.le_of_eq rfl) (hb hby d34_11) (fun _ _ => ⟨rfl, e1, (by decide : 0 + 0 ≤ _), (by decide : 0 + 0 ≤ _)⟩)
  dsimp only [Pt.U, Pt.locs, Pt.cells, Pt.slots] at X3 l3 y3 z3 st3 hQ3
  subst l3 y3 z3
  obtain ⟨rfl, Nq3, e3⟩ := hQ3
  have N3 := Fr.app N0 Nq3
  refine Go.stp (fun t_ k_ => st3.trans k_) ?_
  show Go p.tables e below G (T3.setTop (mkF m 14 #[rv r0, iv p1, rv hd, iv p3, lv q4, sd, lv q5, sd, iv ((8 : Int32) - (1 : Int32)), un] [(.int (own_hm8 p1))]))
  refine zistore X3 hx (l' := #[rv r0, iv p1, rv hd, iv p3, lv q4, sd, lv q5, sd, iv ((8 : Int32) - (1 : Int32)), iv (own_hm8 p1)]) (hb hby d34_14) rfl ?_
  show Go p.tables e below G (T3.setTop (mkF m 16 #[rv r0, iv p1, rv hd, iv p3, lv q4, sd, lv q5, sd, iv ((8 : Int32) - (1 : Int32)), iv (own_it (own_hm8 p1) ((8 : Int32) - (1 : Int32)) 0)] []))
  suffices LP : ∀ (k : Nat) (T : State) (locs : List Loc) (u : Nat), Stand p l e (rk 2 0 0 27) s m #[(.ref r0), (.int p1), (.ref hd), (.int p3), (.long q4), (.long q5)] below meth c T locs 0 0 → Fr n0 locs → T.heap = h0 → (u + k = t) → Go p.tables e below G (T.setTop (mkF m 16 #[rv r0, iv p1, rv hd, iv p3, lv q4, sd, lv q5, sd, iv ((8 : Int32) - (1 : Int32)), iv (own_it (own_hm8 p1) ((8 : Int32) - (1 : Int32)) u)] [])) from LP (t) _ _ (0) X3 N3 e3 (by omega)
  intro k
  induction k with
  | zero =>
    intro T locs u X N E hu
    obtain rfl : t = u := by omega
    show Go p.tables e below G (T.setTop (mkF m 16 #[rv r0, iv p1, rv hd, iv p3, lv q4, sd, lv q5, sd, iv ((8 : Int32) - (1 : Int32)), iv (own_it (own_hm8 p1) ((8 : Int32) - (1 : Int32)) t)] []))
    refine zaloadN X hx (hb hby d34_16) rfl rfl ?_
    refine zgetF X hx hZ hown (wm hw 229 rfl) E t2 (hb hby d34_17) (fun T4 X4 e4 => ?_)
    refine ziload X4 hx (hb hby d34_20) rfl ?_
    refine zaal X4 hx hZ e4 i2 (own_tb8 p1 t) (hb hby d34_22) ?_
    rw [show (mkh hd (F ((own_it (own_hm8 p1) ((8 : Int32) - (1 : Int32)) t)).toNatClampNeg)) = Value.null from mkh_f he]
    show Go p.tables e below G (T4.setTop (mkF m 23 #[rv r0, iv p1, rv hd, iv p3, lv q4, sd, lv q5, sd, iv ((8 : Int32) - (1 : Int32)), iv (own_it (own_hm8 p1) ((8 : Int32) - (1 : Int32)) t)] [.null]))
    refine zifnullYes X4 hx (pc' := 38) (hb hby d34_23) (by decide) (by decide) ?_
    refine zaloadN X4 hx (hb hby d34_38) rfl rfl ?_
    refine zgetF X4 hx hZ hown (wm hw 240 rfl) e4 t1 (hb hby d34_39) (fun T5 X5 e5 => ?_)
    refine ziload X5 hx (hb hby d34_42) rfl ?_
    refine ziloadN X5 hx (hb hby d34_44) rfl ?_
    refine zias X5 hx hZ e5 i1 (own_tb8 p1 t) (hb hby d34_45) (fun T6 h6 X6 e6 W6 f7 => ?_)
    have f8 := tE.wr W6
    have f9 := tH.wr W6
    have f10 := t1.other W6 (Or.inl u_r0_ah)
    have f11 := t2.other W6 (Or.inl u_r0_ah)
    have f12 := t3.other W6 (Or.inl u_r0_ah)
    have f13 := t4.other W6 (Or.inl u_r0_ah)
    have f14 := t5.other W6 (Or.inl u_r0_ah)
    have f15 := tS.other W6 (Or.inl u_r0_ah)
    have f16 := i2.other W6 (Ne.symm u_ah_ao)
    have f17 := i3.other W6 (Ne.symm u_ah_au)
    have f18 := i4.other W6 (Ne.symm u_ah_ab)
    have f19 := i5.other W6 (Ne.symm u_ah_ar)
    have N6 := Fr.snoc X6 N g_ah
    have K6 := K0.wr W6 (Or.inl (List.mem_of_getElem? (i := 0) rfl))
    have Z6 := Nat.le_trans Z0 (Keep.of_wr W6).1
    refine zaloadN X6 hx (hb hby d34_46) rfl rfl ?_
    refine zgetF X6 hx hZ hown (wm hw 229 rfl) e6 f11 (hb hby d34_47) (fun T20 X20 e20 => ?_)
    refine ziload X20 hx (hb hby d34_50) rfl ?_
    refine zaloadN X20 hx (hb hby d34_52) rfl rfl ?_
    refine zaas (b := true) X20 hx hZ e20 f16 f9 (own_tb8 p1 t) (hb hby d34_53) (fun T21 h21 X21 e21 W21 f22 => ?_)
    have f23 := f8.wr W21
    have f24 := f9.wr W21
    have f25 := f10.other W21 (Or.inl u_r0_ao)
    have f26 := f11.other W21 (Or.inl u_r0_ao)
    have f27 := f12.other W21 (Or.inl u_r0_ao)
    have f28 := f13.other W21 (Or.inl u_r0_ao)
    have f29 := f14.other W21 (Or.inl u_r0_ao)
    have f30 := f15.other W21 (Or.inl u_r0_ao)
    have f31 := f17.other W21 (Ne.symm u_ao_au)
    have f32 := f18.other W21 (Ne.symm u_ao_ab)
    have f33 := f19.other W21 (Ne.symm u_ao_ar)
    have f34 := f7.other W21 u_ah_ao
    have N21 := Fr.snoc X21 N6 g_ao
    have K21 := K6.wr W21 (Or.inl (List.mem_of_getElem? (i := 1) rfl))
    have Z21 := Nat.le_trans Z6 (Keep.of_wr W21).1
    refine zaloadN X21 hx (hb hby d34_54) rfl rfl ?_
    refine zgetF X21 hx hZ hown (wm hw 244 rfl) e21 f27 (hb hby d34_55) (fun T35 X35 e35 => ?_)
    refine ziload X35 hx (hb hby d34_58) rfl ?_
    refine ziloadN X35 hx (hb hby d34_60) rfl ?_
    refine zias X35 hx hZ e35 f31 (own_tb8 p1 t) (hb hby d34_61) (fun T36 h36 X36 e36 W36 f37 => ?_)
    have f38 := f23.wr W36
    have f39 := f24.wr W36
    have f40 := f25.other W36 (Or.inl u_r0_au)
    have f41 := f26.other W36 (Or.inl u_r0_au)
    have f42 := f27.other W36 (Or.inl u_r0_au)
    have f43 := f28.other W36 (Or.inl u_r0_au)
    have f44 := f29.other W36 (Or.inl u_r0_au)
    have f45 := f30.other W36 (Or.inl u_r0_au)
    have f46 := f32.other W36 (Ne.symm u_au_ab)
    have f47 := f33.other W36 (Ne.symm u_au_ar)
    have f48 := f34.other W36 u_ah_au
    have f49 := f22.other W36 u_ao_au
    have N36 := Fr.snoc X36 N21 g_au
    have K36 := K21.wr W36 (Or.inl (List.mem_of_getElem? (i := 2) rfl))
    have Z36 := Nat.le_trans Z21 (Keep.of_wr W36).1
    refine zaloadN X36 hx (hb hby d34_62) rfl rfl ?_
    refine zgetF X36 hx hZ hown (wm hw 247 rfl) e36 f43 (hb hby d34_63) (fun T50 X50 e50 => ?_)
    refine ziload X50 hx (hb hby d34_66) rfl ?_
    refine zlload X50 hx (hb hby d34_68) rfl ?_
    refine zlas X50 hx hZ e50 f46 (own_tb8 p1 t) (hb hby d34_70) (fun T51 h51 X51 e51 W51 f52 => ?_)
    have f53 := f38.wr W51
    have f54 := f39.wr W51
    have f55 := f40.other W51 (Or.inl u_r0_ab)
    have f56 := f41.other W51 (Or.inl u_r0_ab)
    have f57 := f42.other W51 (Or.inl u_r0_ab)
    have f58 := f43.other W51 (Or.inl u_r0_ab)
    have f59 := f44.other W51 (Or.inl u_r0_ab)
    have f60 := f45.other W51 (Or.inl u_r0_ab)
    have f61 := f47.other W51 (Ne.symm u_ab_ar)
    have f62 := f48.other W51 u_ah_ab
    have f63 := f49.other W51 u_ao_ab
    have f64 := f37.other W51 u_au_ab
    have N51 := Fr.snoc X51 N36 g_ab
    have K51 := K36.wr W51 (Or.inl (List.mem_of_getElem? (i := 3) rfl))
    have Z51 := Nat.le_trans Z36 (Keep.of_wr W51).1
    refine zaloadN X51 hx (hb hby d34_71) rfl rfl ?_
    refine zgetF X51 hx hZ hown (wm hw 249 rfl) e51 f59 (hb hby d34_72) (fun T65 X65 e65 => ?_)
    refine ziload X65 hx (hb hby d34_75) rfl ?_
    refine zlload X65 hx (hb hby d34_77) rfl ?_
    refine zlas X65 hx hZ e65 f61 (own_tb8 p1 t) (hb hby d34_79) (fun T66 h66 X66 e66 W66 f67 => ?_)
    have f68 := f53.wr W66
    have f69 := f54.wr W66
    have f70 := f55.other W66 (Or.inl u_r0_ar)
    have f71 := f56.other W66 (Or.inl u_r0_ar)
    have f72 := f57.other W66 (Or.inl u_r0_ar)
    have f73 := f58.other W66 (Or.inl u_r0_ar)
    have f74 := f59.other W66 (Or.inl u_r0_ar)
    have f75 := f60.other W66 (Or.inl u_r0_ar)
    have f76 := f62.other W66 u_ah_ar
    have f77 := f63.other W66 u_ao_ar
    have f78 := f64.other W66 u_au_ar
    have f79 := f52.other W66 u_ab_ar
    have N66 := Fr.snoc X66 N51 g_ar
    have K66 := K51.wr W66 (Or.inl (List.mem_of_getElem? (i := 4) rfl))
    have Z66 := Nat.le_trans Z51 (Keep.of_wr W66).1
    refine ziload X66 hx (hb hby d34_80) rfl ?_
    refine zretI X66 hx hrt hlk (hb hby d34_82) e66 hG (by decide) (by decide) ?_
    exact ⟨rfl, N66, K66, ⟨f68, f69, f70, f71, f72, f73, f74, f75, f76, f77, ⟨_, f78⟩, ⟨_, f79⟩, ⟨_, f67⟩, ⟨g_r0, g_ah, g_ao, g_au, g_ab, g_ar⟩, ⟨u_r0_ah, u_r0_ao, u_r0_au, u_r0_ab, u_r0_ar, u_ah_ao, u_ah_au, u_ah_ab, u_ah_ar, u_ao_au, u_ao_ab, u_ao_ar, u_au_ab, u_au_ar, u_ab_ar⟩⟩⟩
  | succ k ih =>
    intro T locs u X N E hu
    have hsu := hs u (by omega)
    show Go p.tables e below G (T.setTop (mkF m 16 #[rv r0, iv p1, rv hd, iv p3, lv q4, sd, lv q5, sd, iv ((8 : Int32) - (1 : Int32)), iv (own_it (own_hm8 p1) ((8 : Int32) - (1 : Int32)) u)] []))
    refine zaloadN X hx (hb hby d34_16) rfl rfl ?_
    refine zgetF X hx hZ hown (wm hw 229 rfl) E t2 (hb hby d34_17) (fun T80 X80 e80 => ?_)
    refine ziload X80 hx (hb hby d34_20) rfl ?_
    refine zaal X80 hx hZ e80 i2 (own_tb8 p1 u) (hb hby d34_22) ?_
    rw [show (mkh hd (F ((own_it (own_hm8 p1) ((8 : Int32) - (1 : Int32)) u)).toNatClampNeg)) = Value.ref hd from mkh_t hsu]
    show Go p.tables e below G (T80.setTop (mkF m 23 #[rv r0, iv p1, rv hd, iv p3, lv q4, sd, lv q5, sd, iv ((8 : Int32) - (1 : Int32)), iv (own_it (own_hm8 p1) ((8 : Int32) - (1 : Int32)) u)] [(.ref hd)]))
    refine zifnullNo X80 hx (hb hby d34_23) ?_
    refine ziload X80 hx (hb hby d34_26) rfl ?_
    refine ziconst X80 hx (hb hby d34_28) (z := (1 : Int32)) rfl ?_
    refine ziadd X80 hx (hb hby d34_29) ?_
    refine ziload X80 hx (hb hby d34_30) rfl ?_
    refine ziand X80 hx (hb hby d34_32) ?_
    refine zistore X80 hx (l' := #[rv r0, iv p1, rv hd, iv p3, lv q4, sd, lv q5, sd, iv ((8 : Int32) - (1 : Int32)), iv (((own_it (own_hm8 p1) ((8 : Int32) - (1 : Int32)) u) + (1 : Int32)) &&& ((8 : Int32) - (1 : Int32)))]) (hb hby d34_33) rfl ?_
    refine zgoto X80 hx (pc' := 16) (hb hby d34_35) (by decide) (by decide) ?_
    exact ih _ _ (u + 1) X80 N e80 (by omega)
theorem d41_0 : decode cn32 0 = .ok (.aload_n 0, 1) := by decide +kernel
theorem d41_1 : decode cn32 1 = .ok (.getfield 39, 3) := by decide +kernel
theorem d41_4 : decode cn32 4 = .ok (.astore_n 2, 1) := by decide +kernel
theorem d41_5 : decode cn32 5 = .ok (.aload_n 0, 1) := by decide +kernel
theorem d41_6 : decode cn32 6 = .ok (.getfield 17, 3) := by decide +kernel
theorem d41_9 : decode cn32 9 = .ok (.astore_n 3, 1) := by decide +kernel
theorem d41_10 : decode cn32 10 = .ok (.aload_n 0, 1) := by decide +kernel
theorem d41_11 : decode cn32 11 = .ok (.getfield 28, 3) := by decide +kernel
theorem d41_14 : decode cn32 14 = .ok (.astore 4, 2) := by decide +kernel
theorem d41_16 : decode cn32 16 = .ok (.aload_n 0, 1) := by decide +kernel
theorem d41_17 : decode cn32 17 = .ok (.getfield 32, 3) := by decide +kernel
theorem d41_20 : decode cn32 20 = .ok (.astore 5, 2) := by decide +kernel
theorem d41_22 : decode cn32 22 = .ok (.aload_n 0, 1) := by decide +kernel
theorem d41_23 : decode cn32 23 = .ok (.getfield 36, 3) := by decide +kernel
theorem d41_26 : decode cn32 26 = .ok (.astore 6, 2) := by decide +kernel
theorem d41_28 : decode cn32 28 = .ok (.aload_n 0, 1) := by decide +kernel
theorem d41_29 : decode cn32 29 = .ok (.iload_n 1, 1) := by decide +kernel
theorem d41_30 : decode cn32 30 = .ok (.invokevirtual 90, 3) := by decide +kernel
theorem d41_33 : decode cn32 33 = .ok (.iconst 0, 1) := by decide +kernel
theorem d41_34 : decode cn32 34 = .ok (.istore 7, 2) := by decide +kernel
theorem d41_36 : decode cn32 36 = .ok (.iload 7, 2) := by decide +kernel
theorem d41_38 : decode cn32 38 = .ok (.aload_n 3, 1) := by decide +kernel
theorem d41_39 : decode cn32 39 = .ok (.arraylength, 1) := by decide +kernel
theorem d41_40 : decode cn32 40 = .ok (.if_icmp .ge 44, 3) := by decide +kernel
theorem d41_43 : decode cn32 43 = .ok (.aload_n 3, 1) := by decide +kernel
theorem d41_44 : decode cn32 44 = .ok (.iload 7, 2) := by decide +kernel
theorem d41_46 : decode cn32 46 = .ok (.aaload, 1) := by decide +kernel
theorem d41_47 : decode cn32 47 = .ok (.ifnull 31, 3) := by decide +kernel
theorem d41_50 : decode cn32 50 = .ok (.aload_n 0, 1) := by decide +kernel
theorem d41_51 : decode cn32 51 = .ok (.aload_n 2, 1) := by decide +kernel
theorem d41_52 : decode cn32 52 = .ok (.iload 7, 2) := by decide +kernel
theorem d41_54 : decode cn32 54 = .ok (.iaload, 1) := by decide +kernel
theorem d41_55 : decode cn32 55 = .ok (.aload_n 3, 1) := by decide +kernel
theorem d41_56 : decode cn32 56 = .ok (.iload 7, 2) := by decide +kernel
theorem d41_58 : decode cn32 58 = .ok (.aaload, 1) := by decide +kernel
theorem d41_59 : decode cn32 59 = .ok (.aload 4, 2) := by decide +kernel
theorem d41_61 : decode cn32 61 = .ok (.iload 7, 2) := by decide +kernel
theorem d41_63 : decode cn32 63 = .ok (.iaload, 1) := by decide +kernel
theorem d41_64 : decode cn32 64 = .ok (.aload 5, 2) := by decide +kernel
theorem d41_66 : decode cn32 66 = .ok (.iload 7, 2) := by decide +kernel
theorem d41_68 : decode cn32 68 = .ok (.laload, 1) := by decide +kernel
theorem d41_69 : decode cn32 69 = .ok (.aload 6, 2) := by decide +kernel
theorem d41_71 : decode cn32 71 = .ok (.iload 7, 2) := by decide +kernel
theorem d41_73 : decode cn32 73 = .ok (.laload, 1) := by decide +kernel
theorem d41_74 : decode cn32 74 = .ok (.invokevirtual 24, 3) := by decide +kernel
theorem d41_77 : decode cn32 77 = .ok (.pop, 1) := by decide +kernel
theorem d41_78 : decode cn32 78 = .ok (.iinc 7 1, 3) := by decide +kernel
theorem d41_81 : decode cn32 81 = .ok (.goto (-45), 3) := by decide +kernel
theorem d41_84 : decode cn32 84 = .ok (.return_, 1) := by decide +kernel
theorem ef_41_8 (m : MethodId) (r0 : Addr) : entryFrame m #[(.ref r0), (.int (8 : Int32))] 8 = mkF m 0 #[rv r0, iv (8 : Int32), un, un, un, un, un, un] [] := by first | (simp [entryFrame, mkF, argsToLocals, Value.category, iv, rv, lv, un, sd]; done) | rfl
def Q41_8 (Z : State) (r0 : Addr) (hd : Addr) (F : Nat → Bool) (K : Nat → Int32) (sz : Int32) (ah : Addr) (ao : Addr) (au : Addr) (ab : Addr) (ar : Addr) (h0 : Heap) (n0 : Nat) (v : Option Value) (h : Heap) (L : List Loc) : Prop := v = none ∧ Fr n0 L ∧ Keep h0 h [r0] ∧ ∃ (F' : Nat → Bool) (K' : Nat → Int32) (bh bo bu bb br : Addr), Tb Z h n0 r0 hd 8 F' K' sz bh bo bu bb br ∧ h0.size ≤ bh ∧ h0.size ≤ bo ∧ h0.size ≤ bu ∧ h0.size ≤ bb ∧ h0.size ≤ br ∧ Rz own_P8 F K 4 F' K'
set_option maxRecDepth 65536 in
set_option maxHeartbeats 40000000 in
theorem rm41_8 (l : Launch) (Z : State) (a0 : Array Value) (hw : ∀ d ∈ tables_1, d.before a0 Z = true) (ws : List Jvm.Cond) (r0 : Addr) (hd : Addr) (F : Nat → Bool) (K : Nat → Int32) (sz : Int32) (ah : Addr) (ao : Addr) (au : Addr) (ab : Addr) (ar : Addr) (h0 : Heap) (n0 : Nat) (Z0 : n0 ≤ h0.size) (TB : Tb Z h0 n0 r0 hd 4 F K sz ah ao au ab ar) (hc : cntF F 4 < 8) :
    Mzz l yn32 cn32 8 none ws (rk 3 5 40 48) #[(.ref r0), (.int (8 : Int32))] Z h0 (Q41_8 Z r0 hd F K sz ah ao au ab ar h0 n0) := by
  refine Mzz.go (own := sn1) (nm := "resize") (L0 := #[rv r0, iv (8 : Int32), un, un, un, un, un, un]) (plainFor_of_name pn_29) rfl rfl (fun m => ef_41_8 m r0) ?_
  intro p e s m below meth c s₁ hx hby hml hown hnm X0 e0 hZ hrt hlk G hG
  have N0 := Fr.nil n0
  have K0 := Keep.refl h0 [r0]
  obtain ⟨tE, tH, t1, t2, t3, t4, t5, tS, i1, i2, ⟨fu, i3⟩, ⟨fb, i4⟩, ⟨fr, i5⟩, ⟨g_r0, g_ah, g_ao, g_au, g_ab, g_ar⟩, ⟨u_r0_ah, u_r0_ao, u_r0_au, u_r0_ab, u_r0_ar, u_ah_ao, u_ah_au, u_ah_ab, u_ah_ar, u_ao_au, u_ao_ab, u_ao_ar, u_au_ab, u_au_ar, u_ab_ar⟩⟩ := id TB
  show Go p.tables e below G (s₁.setTop (mkF m 0 #[rv r0, iv (8 : Int32), un, un, un, un, un, un] []))
  refine zaloadN X0 hx (hb hby d41_0) rfl rfl ?_
  refine zgetF X0 hx hZ hown (wm hw 240 rfl) e0 t1 (hb hby d41_1) (fun T1 X1 e1 => ?_)
  refine zastoreN X1 hx (l' := #[rv r0, iv (8 : Int32), rv ah, un, un, un, un, un]) (hb hby d41_4) rfl rfl ?_
  refine zaloadN X1 hx (hb hby d41_5) rfl rfl ?_
  refine zgetF X1 hx hZ hown (wm hw 229 rfl) e1 t2 (hb hby d41_6) (fun T2 X2 e2 => ?_)
  refine zastoreN X2 hx (l' := #[rv r0, iv (8 : Int32), rv ah, rv ao, un, un, un, un]) (hb hby d41_9) rfl rfl ?_
  refine zaloadN X2 hx (hb hby d41_10) rfl rfl ?_
  refine zgetF X2 hx hZ hown (wm hw 244 rfl) e2 t3 (hb hby d41_11) (fun T3 X3 e3 => ?_)
  refine zastore X3 hx (l' := #[rv r0, iv (8 : Int32), rv ah, rv ao, rv au, un, un, un]) (hb hby d41_14) rfl rfl ?_
  refine zaloadN X3 hx (hb hby d41_16) rfl rfl ?_
  refine zgetF X3 hx hZ hown (wm hw 247 rfl) e3 t4 (hb hby d41_17) (fun T4 X4 e4 => ?_)
  refine zastore X4 hx (l' := #[rv r0, iv (8 : Int32), rv ah, rv ao, rv au, rv ab, un, un]) (hb hby d41_20) rfl rfl ?_
  refine zaloadN X4 hx (hb hby d41_22) rfl rfl ?_
  refine zgetF X4 hx hZ hown (wm hw 249 rfl) e4 t5 (hb hby d41_23) (fun T5 X5 e5 => ?_)
  refine zastore X5 hx (l' := #[rv r0, iv (8 : Int32), rv ah, rv ao, rv au, rv ab, rv ar, un]) (hb hby d41_26) rfl rfl ?_
  refine zaloadN X5 hx (hb hby d41_28) rfl rfl ?_
  refine ziloadN X5 hx (hb hby d41_29) rfl ?_
  obtain ⟨cq6, qq6, qq6'⟩ := tE.cell
  obtain ⟨_, _, ⟨T6, L6, k6, n6⟩, -, X6, ⟨Lc6, hQ6, l6, y6, z6⟩, st6⟩ := X5.privateBack hx (y := yn30) hown (mvT hZ (wm hw 235 rfl)) (mvT hZ (wm hw 236 rfl)) (sel_priv (mvT hZ (wm hw 214 rfl)) (Cond.privateMethod_at (mvP hZ (wm hw 237 rfl) (args := #[]))) (mvT hZ (wm hw 236 rfl)) (by decide)) (Cond.privateMethod_at (mvP hZ (wm hw 237 rfl) (args := #[]))) (mvT hZ (wm hw 238 rfl)) (by decide) (backOf (W := 0) (rm33_8 l Z a0 hw [] r0 hd sz (.ref ah) (.ref ao) (.ref au) (.ref ab) (.ref ar) h0 n0 Z0 tE tH t1 t2 t3 t4 t5 tS g_r0) hZ (wm hw 238 rfl) (wm hw 215 rfl) (by decide) (by decide)) (g := (mkF m 30 #[rv r0, iv (8 : Int32), rv ah, rv ao, rv au, rv ab, rv ar, un] [(.int (8 : Int32)), (.ref r0)])) rfl (by rw [hml]; rfl) (Steps.refl _) (a := r0) (by rw [e5]; exact qq6) qq6' (argsL := [(.int (8 : Int32))]) (rest := []) (lenOf pd_20 rfl) rfl (by show 2 * 0 + _ ≤ _; exact Nat.le_of_eq rfl) (hb hby d41_30) (fun _ _ => ⟨rfl, e5, (by decide : 0 + 5 ≤ _), (by decide : 0 + 40 ≤ _)⟩)
  dsimp only [Pt.U, Pt.locs, Pt.cells, Pt.slots] at X6 l6 y6 z6 st6 hQ6
  subst l6 y6 z6
  obtain ⟨rfl, Nq6, Kc6, bh, bo, bu, bb, br, TB6, sz_bh, sz_bo, sz_bu, sz_bb, sz_br⟩ := hQ6
  have N6 := Fr.app N0 Nq6
  have u_ah_bh : ah ≠ bh := Nat.ne_of_lt (Nat.lt_of_lt_of_le i1.lt sz_bh)
  have u_ah_bo : ah ≠ bo := Nat.ne_of_lt (Nat.lt_of_lt_of_le i1.lt sz_bo)
  have u_ah_bu : ah ≠ bu := Nat.ne_of_lt (Nat.lt_of_lt_of_le i1.lt sz_bu)
  have u_ah_bb : ah ≠ bb := Nat.ne_of_lt (Nat.lt_of_lt_of_le i1.lt sz_bb)
  have u_ah_br : ah ≠ br := Nat.ne_of_lt (Nat.lt_of_lt_of_le i1.lt sz_br)
  have u_ao_bh : ao ≠ bh := Nat.ne_of_lt (Nat.lt_of_lt_of_le i2.lt sz_bh)
  have u_ao_bo : ao ≠ bo := Nat.ne_of_lt (Nat.lt_of_lt_of_le i2.lt sz_bo)
  have u_ao_bu : ao ≠ bu := Nat.ne_of_lt (Nat.lt_of_lt_of_le i2.lt sz_bu)
  have u_ao_bb : ao ≠ bb := Nat.ne_of_lt (Nat.lt_of_lt_of_le i2.lt sz_bb)
  have u_ao_br : ao ≠ br := Nat.ne_of_lt (Nat.lt_of_lt_of_le i2.lt sz_br)
  have u_au_bh : au ≠ bh := Nat.ne_of_lt (Nat.lt_of_lt_of_le i3.lt sz_bh)
  have u_au_bo : au ≠ bo := Nat.ne_of_lt (Nat.lt_of_lt_of_le i3.lt sz_bo)
  have u_au_bu : au ≠ bu := Nat.ne_of_lt (Nat.lt_of_lt_of_le i3.lt sz_bu)
  have u_au_bb : au ≠ bb := Nat.ne_of_lt (Nat.lt_of_lt_of_le i3.lt sz_bb)
  have u_au_br : au ≠ br := Nat.ne_of_lt (Nat.lt_of_lt_of_le i3.lt sz_br)
  have u_ab_bh : ab ≠ bh := Nat.ne_of_lt (Nat.lt_of_lt_of_le i4.lt sz_bh)
  have u_ab_bo : ab ≠ bo := Nat.ne_of_lt (Nat.lt_of_lt_of_le i4.lt sz_bo)
  have u_ab_bu : ab ≠ bu := Nat.ne_of_lt (Nat.lt_of_lt_of_le i4.lt sz_bu)
  have u_ab_bb : ab ≠ bb := Nat.ne_of_lt (Nat.lt_of_lt_of_le i4.lt sz_bb)
  have u_ab_br : ab ≠ br := Nat.ne_of_lt (Nat.lt_of_lt_of_le i4.lt sz_br)
  have u_ar_bh : ar ≠ bh := Nat.ne_of_lt (Nat.lt_of_lt_of_le i5.lt sz_bh)
  have u_ar_bo : ar ≠ bo := Nat.ne_of_lt (Nat.lt_of_lt_of_le i5.lt sz_bo)
  have u_ar_bu : ar ≠ bu := Nat.ne_of_lt (Nat.lt_of_lt_of_le i5.lt sz_bu)
  have u_ar_bb : ar ≠ bb := Nat.ne_of_lt (Nat.lt_of_lt_of_le i5.lt sz_bb)
  have u_ar_br : ar ≠ br := Nat.ne_of_lt (Nat.lt_of_lt_of_le i5.lt sz_br)
  have f7 := tE.keep Kc6
  have f8 := tH.keep Kc6
  have f9 := i1.keep Kc6 (fun q => by simp only [List.mem_cons, List.not_mem_nil, or_false] at q; exact (Ne.symm u_r0_ah) q)
  have f10 := i2.keep Kc6 (fun q => by simp only [List.mem_cons, List.not_mem_nil, or_false] at q; exact (Ne.symm u_r0_ao) q)
  have f11 := i3.keep Kc6 (fun q => by simp only [List.mem_cons, List.not_mem_nil, or_false] at q; exact (Ne.symm u_r0_au) q)
  have f12 := i4.keep Kc6 (fun q => by simp only [List.mem_cons, List.not_mem_nil, or_false] at q; exact (Ne.symm u_r0_ab) q)
  have f13 := i5.keep Kc6 (fun q => by simp only [List.mem_cons, List.not_mem_nil, or_false] at q; exact (Ne.symm u_r0_ar) q)
  have Z6 : n0 ≤ T6.heap.size := Nat.le_trans Z0 Kc6.1
  have K6 := K0.trans Kc6 (fun x q => by
      simp only [List.mem_cons, List.not_mem_nil, or_false] at q
      rw [q]; exact (Or.inl (List.mem_of_getElem? (i := 0) rfl)))
  obtain ⟨tE6, tH6, t16, t26, t36, t46, t56, tS6, i16, i26, ⟨fu6, i36⟩, ⟨fb6, i46⟩, ⟨fr6, i56⟩, ⟨g_r0, g_bh, g_bo, g_bu, g_bb, g_br⟩, ⟨u_r0_bh, u_r0_bo, u_r0_bu, u_r0_bb, u_r0_br, u_bh_bo, u_bh_bu, u_bh_bb, u_bh_br, u_bo_bu, u_bo_bb, u_bo_br, u_bu_bb, u_bu_br, u_bb_br⟩⟩ := id TB6
  refine Go.stp (fun t_ k_ => st6.trans k_) ?_
  show Go p.tables e below G (T6.setTop (mkF m 33 #[rv r0, iv (8 : Int32), rv ah, rv ao, rv au, rv ab, rv ar, un] []))
  refine ziconst X6 hx (hb hby d41_33) (z := (0 : Int32)) rfl ?_
  refine zistore X6 hx (l' := #[rv r0, iv (8 : Int32), rv ah, rv ao, rv au, rv ab, rv ar, iv (0 : Int32)]) (hb hby d41_34) rfl ?_
  show Go p.tables e below G (T6.setTop (mkF m 36 #[rv r0, iv (8 : Int32), rv ah, rv ao, rv au, rv ab, rv ar, iv (own_i 0)] []))
  suffices LP : ∀ (k : Nat) (T : State) (locs : List Loc) (h : Heap) (u : Nat) (F' : Nat → Bool) (K' : Nat → Int32), Stand p l e (rk 3 5 40 48) s m #[(.ref r0), (.int (8 : Int32))] below meth c T locs 5 40 → Fr n0 locs → T.heap = h → n0 ≤ h.size → Keep h0 h [r0] → (Tb Z h n0 r0 hd 8 F' K' sz bh bo bu bb br) → (Ia Z h ah .int 4 Value.int K) → (Ho Z h ao 4 hd F) → (Ia Z h au .int 4 Value.int fu) → (Ia Z h ab .long 4 Value.long fb) → (Ia Z h ar .long 4 Value.long fr) → (u + k = 4) → (Rz own_P8 F K u F' K') → Go p.tables e below G (T.setTop (mkF m 36 #[rv r0, iv (8 : Int32), rv ah, rv ao, rv au, rv ab, rv ar, iv (own_i u)] [])) from LP (4) _ _ _ (0) ((fun _ => false)) ((fun _ => (0 : Int32))) X6 N6 rfl Z6 K6 ⟨tE6, tH6, t16, t26, t36, t46, t56, tS6, i16, i26, ⟨_, i36⟩, ⟨_, i46⟩, ⟨_, i56⟩, ⟨g_r0, g_bh, g_bo, g_bu, g_bb, g_br⟩, ⟨u_r0_bh, u_r0_bo, u_r0_bu, u_r0_bb, u_r0_br, u_bh_bo, u_bh_bu, u_bh_bb, u_bh_br, u_bo_bu, u_bo_bb, u_bo_br, u_bu_bb, u_bu_br, u_bb_br⟩⟩ f9 f10 f11 f12 f13 rfl rfl
  intro k
  induction k with
  | zero =>
    intro T locs h u F' K' X N E Zh Kh TBv o1 o2 o3 o4 o5 hu rz
    obtain rfl : u = 4 := by omega
    obtain ⟨tEv, tHv, t1v, t2v, t3v, t4v, t5v, tSv, i1v, i2v, ⟨fuv, i3v⟩, ⟨fbv, i4v⟩, ⟨frv, i5v⟩, -, -⟩ := id TBv
    show Go p.tables e below G (T.setTop (mkF m 36 #[rv r0, iv (8 : Int32), rv ah, rv ao, rv au, rv ab, rv ar, iv (own_i 4)] []))
    refine ziload X hx (hb hby d41_36) rfl ?_
    refine zaloadN X hx (hb hby d41_38) rfl rfl ?_
    obtain ⟨cl14, Ar14, Sz14, -, -⟩ := id o2
    refine zlen X hx hZ E Ar14 Sz14 (z := (4 : Int32)) rfl (hb hby d41_39) ?_
    have hd40 : ¬ ((own_i 4) < (4 : Int32)) := (by decide)
    refine zicmpYes X hx (pc' := 84) (hb hby d41_40) (flt hd40).2.1 (by decide) (by decide) ?_
    refine zretV X hx hrt hlk (hb hby d41_84) E hG (by decide) (by decide) ?_
    exact ⟨rfl, N, Kh, _, _, bh, bo, bu, bb, br, TBv, sz_bh, sz_bo, sz_bu, sz_bb, sz_br, rz⟩
  | succ k ih =>
    intro T locs h u F' K' X N E Zh Kh TBv o1 o2 o3 o4 o5 hu rz
    obtain ⟨tEv, tHv, t1v, t2v, t3v, t4v, t5v, tSv, i1v, i2v, ⟨fuv, i3v⟩, ⟨fbv, i4v⟩, ⟨frv, i5v⟩, -, -⟩ := id TBv
    have hin := own_in u (by omega)
    show Go p.tables e below G (T.setTop (mkF m 36 #[rv r0, iv (8 : Int32), rv ah, rv ao, rv au, rv ab, rv ar, iv (own_i u)] []))
    refine ziload X hx (hb hby d41_36) rfl ?_
    refine zaloadN X hx (hb hby d41_38) rfl rfl ?_
    obtain ⟨cl15, Ar15, Sz15, -, -⟩ := id o2
    refine zlen X hx hZ E Ar15 Sz15 (z := (4 : Int32)) rfl (hb hby d41_39) ?_
    have hd40 : (own_i u) < (4 : Int32) := (by rw [Int32.lt_iff_toInt_lt, own_iv u (by omega), show (4 : Int32).toInt = 4 by decide]; omega)
    refine zicmpNo X hx (hb hby d41_40) (tlt hd40).2.1 ?_
    refine zaloadN X hx (hb hby d41_43) rfl rfl ?_
    refine ziload X hx (hb hby d41_44) rfl ?_
    refine zaal X hx hZ E o2 (by rw [own_iv u (by omega)]; omega) (hb hby d41_46) ?_
    by_cases hc47 : (F ((own_i u)).toNatClampNeg) = true
    · rw [show (mkh hd (F ((own_i u)).toNatClampNeg)) = Value.ref hd from mkh_t hc47]
      show Go p.tables e below G (T.setTop (mkF m 47 #[rv r0, iv (8 : Int32), rv ah, rv ao, rv au, rv ab, rv ar, iv (own_i u)] [(.ref hd)]))
      refine zifnullNo X hx (hb hby d41_47) ?_
      refine zaloadN X hx (hb hby d41_50) rfl rfl ?_
      refine zaloadN X hx (hb hby d41_51) rfl rfl ?_
      refine ziload X hx (hb hby d41_52) rfl ?_
      refine zial X hx hZ E o1 (by rw [own_iv u (by omega)]; omega) (hb hby d41_54) ?_
      refine zaloadN X hx (hb hby d41_55) rfl rfl ?_
      refine ziload X hx (hb hby d41_56) rfl ?_
      refine zaal X hx hZ E o2 (by rw [own_iv u (by omega)]; omega) (hb hby d41_58) ?_
      rw [show (mkh hd (F ((own_i u)).toNatClampNeg)) = Value.ref hd from mkh_t hc47]
      show Go p.tables e below G (T.setTop (mkF m 59 #[rv r0, iv (8 : Int32), rv ah, rv ao, rv au, rv ab, rv ar, iv (own_i u)] [(.ref hd), (.int (K ((own_i u)).toNatClampNeg)), (.ref r0)]))
      refine zaload X hx (hb hby d41_59) rfl rfl ?_
      refine ziload X hx (hb hby d41_61) rfl ?_
      refine zial X hx hZ E o3 (by rw [own_iv u (by omega)]; omega) (hb hby d41_63) ?_
      refine zaload X hx (hb hby d41_64) rfl rfl ?_
      refine ziload X hx (hb hby d41_66) rfl ?_
      refine zlal X hx hZ E o4 (by rw [own_iv u (by omega)]; omega) (hb hby d41_68) ?_
      refine zaload X hx (hb hby d41_69) rfl rfl ?_
      refine ziload X hx (hb hby d41_71) rfl ?_
      refine zlal X hx hZ E o5 (by rw [own_iv u (by omega)]; omega) (hb hby d41_73) ?_
      obtain ⟨Lq, l1, l2⟩ := rz_list (N := 8) u F' K' rz
      obtain ⟨t, ht, hs, he⟩ := row_free (p := own_P8 (K (own_i u).toNatClampNeg)) l2 (own_Pl8 _) (own_Pi8 _) (by have := cnt_mono F u 4 (by omega); omega)
      obtain ⟨cq16, qq16, qq16'⟩ := tEv.cell
      obtain ⟨_, _, ⟨T16, L16, k16, n16⟩, -, X16, ⟨Lc16, hQ16, l16, y16, z16⟩, st16⟩ := X.privateBack hx (y := yn31) hown (mvT hZ (wm hw 251 rfl)) (mvT hZ (wm hw 252 rfl)) (sel_priv (mvT hZ (wm hw 214 rfl)) (Cond.privateMethod_at (mvP hZ (wm hw 253 rfl) (args := #[]))) (mvT hZ (wm hw 252 rfl)) (by decide)) (Cond.privateMethod_at (mvP hZ (wm hw 253 rfl) (args := #[]))) (mvT hZ (wm hw 254 rfl)) (by decide) (backOf (W := 0) (rm34_8 l Z a0 hw [] r0 (K ((own_i u)).toNatClampNeg) hd (fu ((own_i u)).toNatClampNeg) (fb ((own_i u)).toNatClampNeg) (fr ((own_i u)).toNatClampNeg) F' K' sz bh bo bu bb br t h n0 Zh ⟨tEv, tHv, t1v, t2v, t3v, t4v, t5v, tSv, i1v, i2v, ⟨_, i3v⟩, ⟨_, i4v⟩, ⟨_, i5v⟩, ⟨g_r0, g_bh, g_bo, g_bu, g_bb, g_br⟩, ⟨u_r0_bh, u_r0_bo, u_r0_bu, u_r0_bb, u_r0_br, u_bh_bo, u_bh_bu, u_bh_bb, u_bh_br, u_bo_bu, u_bo_bb, u_bo_br, u_bu_bb, u_bu_br, u_bb_br⟩⟩ hs he) hZ (wm hw 254 rfl) (wm hw 215 rfl) (by decide) (by decide)) (g := (mkF m 74 #[rv r0, iv (8 : Int32), rv ah, rv ao, rv au, rv ab, rv ar, iv (own_i u)] [(.long (fr ((own_i u)).toNatClampNeg)), (.long (fb ((own_i u)).toNatClampNeg)), (.int (fu ((own_i u)).toNatClampNeg)), (.ref hd), (.int (K ((own_i u)).toNatClampNeg)), (.ref r0)])) rfl (by rw [hml]; rfl) (Steps.refl _) (a := r0) (by rw [E]; exact qq16) qq16' (argsL := [(.int (K ((own_i u)).toNatClampNeg)), (.ref hd), (.int (fu ((own_i u)).toNatClampNeg)), (.long (fb ((own_i u)).toNatClampNeg)), (.long (fr ((own_i u)).toNatClampNeg))]) (rest := []) (lenOf pd_21 rfl) rfl (by show 2 * 0 + _ ≤ _; exact Nat.le_of_eq rfl) (hb hby d41_74) (fun _ _ => ⟨rfl, E, (by decide : 5 + 0 ≤ _), (by decide : 40 + 0 ≤ _)⟩)
      dsimp only [Pt.U, Pt.locs, Pt.cells, Pt.slots] at X16 l16 y16 z16 st16 hQ16
      subst l16 y16 z16
      obtain ⟨rfl, Nq16, Kc16, TB16⟩ := hQ16
      have N16 := Fr.app N Nq16
      have f17 := o1.keep Kc16 (fun q => by simp only [List.mem_cons, List.not_mem_nil, or_false] at q; exact q.elim (fun q => u_ah_bh q) (fun q => q.elim (fun q => u_ah_bo q) (fun q => q.elim (fun q => u_ah_bu q) (fun q => q.elim (fun q => u_ah_bb q) (fun q => u_ah_br q)))))
      have f18 := o2.keep Kc16 (fun q => by simp only [List.mem_cons, List.not_mem_nil, or_false] at q; exact q.elim (fun q => u_ao_bh q) (fun q => q.elim (fun q => u_ao_bo q) (fun q => q.elim (fun q => u_ao_bu q) (fun q => q.elim (fun q => u_ao_bb q) (fun q => u_ao_br q)))))
      have f19 := o3.keep Kc16 (fun q => by simp only [List.mem_cons, List.not_mem_nil, or_false] at q; exact q.elim (fun q => u_au_bh q) (fun q => q.elim (fun q => u_au_bo q) (fun q => q.elim (fun q => u_au_bu q) (fun q => q.elim (fun q => u_au_bb q) (fun q => u_au_br q)))))
      have f20 := o4.keep Kc16 (fun q => by simp only [List.mem_cons, List.not_mem_nil, or_false] at q; exact q.elim (fun q => u_ab_bh q) (fun q => q.elim (fun q => u_ab_bo q) (fun q => q.elim (fun q => u_ab_bu q) (fun q => q.elim (fun q => u_ab_bb q) (fun q => u_ab_br q)))))
      have f21 := o5.keep Kc16 (fun q => by simp only [List.mem_cons, List.not_mem_nil, or_false] at q; exact q.elim (fun q => u_ar_bh q) (fun q => q.elim (fun q => u_ar_bo q) (fun q => q.elim (fun q => u_ar_bu q) (fun q => q.elim (fun q => u_ar_bb q) (fun q => u_ar_br q)))))
      have f22 := tEv.keep Kc16
      have f23 := tHv.keep Kc16
      have f24 := t1v.keep Kc16 (fun q => by simp only [List.mem_cons, List.not_mem_nil, or_false] at q; exact q.elim (fun q => u_r0_bh q) (fun q => q.elim (fun q => u_r0_bo q) (fun q => q.elim (fun q => u_r0_bu q) (fun q => q.elim (fun q => u_r0_bb q) (fun q => u_r0_br q)))))
      have f25 := t2v.keep Kc16 (fun q => by simp only [List.mem_cons, List.not_mem_nil, or_false] at q; exact q.elim (fun q => u_r0_bh q) (fun q => q.elim (fun q => u_r0_bo q) (fun q => q.elim (fun q => u_r0_bu q) (fun q => q.elim (fun q => u_r0_bb q) (fun q => u_r0_br q)))))
      have f26 := t3v.keep Kc16 (fun q => by simp only [List.mem_cons, List.not_mem_nil, or_false] at q; exact q.elim (fun q => u_r0_bh q) (fun q => q.elim (fun q => u_r0_bo q) (fun q => q.elim (fun q => u_r0_bu q) (fun q => q.elim (fun q => u_r0_bb q) (fun q => u_r0_br q)))))
      have f27 := t4v.keep Kc16 (fun q => by simp only [List.mem_cons, List.not_mem_nil, or_false] at q; exact q.elim (fun q => u_r0_bh q) (fun q => q.elim (fun q => u_r0_bo q) (fun q => q.elim (fun q => u_r0_bu q) (fun q => q.elim (fun q => u_r0_bb q) (fun q => u_r0_br q)))))
      have f28 := t5v.keep Kc16 (fun q => by simp only [List.mem_cons, List.not_mem_nil, or_false] at q; exact q.elim (fun q => u_r0_bh q) (fun q => q.elim (fun q => u_r0_bo q) (fun q => q.elim (fun q => u_r0_bu q) (fun q => q.elim (fun q => u_r0_bb q) (fun q => u_r0_br q)))))
      have f29 := tSv.keep Kc16 (fun q => by simp only [List.mem_cons, List.not_mem_nil, or_false] at q; exact q.elim (fun q => u_r0_bh q) (fun q => q.elim (fun q => u_r0_bo q) (fun q => q.elim (fun q => u_r0_bu q) (fun q => q.elim (fun q => u_r0_bb q) (fun q => u_r0_br q)))))
      have Z16 : n0 ≤ T16.heap.size := Nat.le_trans Zh Kc16.1
      have K16 := Kh.trans Kc16 (fun x q => by
          simp only [List.mem_cons, List.not_mem_nil, or_false] at q
          rcases q with rfl | rfl | rfl | rfl | rfl
          · exact (Or.inr sz_bh)
          · exact (Or.inr sz_bo)
          · exact (Or.inr sz_bu)
          · exact (Or.inr sz_bb)
          · exact (Or.inr sz_br))
      obtain ⟨tE16, tH16, t116, t216, t316, t416, t516, tS16, i116, i216, ⟨fu16, i316⟩, ⟨fb16, i416⟩, ⟨fr16, i516⟩, -, -⟩ := id TB16
      refine Go.stp (fun t_ k_ => st16.trans k_) ?_
      show Go p.tables e below G (T16.setTop (mkF m 77 #[rv r0, iv (8 : Int32), rv ah, rv ao, rv au, rv ab, rv ar, iv (own_i u)] [(.int (own_it (own_hm8 (K ((own_i u)).toNatClampNeg)) ((8 : Int32) - (1 : Int32)) t))]))
      refine zpop X16 hx (hb hby d41_77) rfl ?_
      refine ziinc X16 hx (l' := #[rv r0, iv (8 : Int32), rv ah, rv ao, rv au, rv ab, rv ar, iv ((own_i u) + (1 : Int32))]) (hb hby d41_78) rfl rfl ?_
      refine zgoto X16 hx (pc' := 36) (hb hby d41_81) (by decide) (by decide) ?_
      exact ih _ _ _ (u + 1) _ _ X16 N16 rfl Z16 K16 TB16 f17 f18 f19 f20 f21 (by omega) (rz_step hin rz hc47 hs he)
    · rw [show (mkh hd (F ((own_i u)).toNatClampNeg)) = Value.null from mkh_f (by simpa using hc47)]
      show Go p.tables e below G (T.setTop (mkF m 47 #[rv r0, iv (8 : Int32), rv ah, rv ao, rv au, rv ab, rv ar, iv (own_i u)] [.null]))
      refine zifnullYes X hx (pc' := 78) (hb hby d41_47) (by decide) (by decide) ?_
      refine ziinc X hx (l' := #[rv r0, iv (8 : Int32), rv ah, rv ao, rv au, rv ab, rv ar, iv ((own_i u) + (1 : Int32))]) (hb hby d41_78) rfl rfl ?_
      refine zgoto X hx (pc' := 36) (hb hby d41_81) (by decide) (by decide) ?_
      exact ih _ _ _ (u + 1) _ _ X N E Zh Kh TBv o1 o2 o3 o4 o5 (by omega) (rz_skip hin rz hc47)
theorem ef_41_4 (m : MethodId) (r0 : Addr) : entryFrame m #[(.ref r0), (.int (4 : Int32))] 8 = mkF m 0 #[rv r0, iv (4 : Int32), un, un, un, un, un, un] [] := by first | (simp [entryFrame, mkF, argsToLocals, Value.category, iv, rv, lv, un, sd]; done) | rfl
def Q41_4 (Z : State) (r0 : Addr) (hd : Addr) (F : Nat → Bool) (K : Nat → Int32) (sz : Int32) (ah : Addr) (ao : Addr) (au : Addr) (ab : Addr) (ar : Addr) (h0 : Heap) (n0 : Nat) (v : Option Value) (h : Heap) (L : List Loc) : Prop := v = none ∧ Fr n0 L ∧ Keep h0 h [r0] ∧ ∃ (F' : Nat → Bool) (K' : Nat → Int32) (bh bo bu bb br : Addr), Tb Z h n0 r0 hd 4 F' K' sz bh bo bu bb br ∧ h0.size ≤ bh ∧ h0.size ≤ bo ∧ h0.size ≤ bu ∧ h0.size ≤ bb ∧ h0.size ≤ br ∧ Rz own_P4 F K 8 F' K'
set_option maxRecDepth 65536 in
set_option maxHeartbeats 40000000 in
theorem rm41_4 (l : Launch) (Z : State) (a0 : Array Value) (hw : ∀ d ∈ tables_1, d.before a0 Z = true) (ws : List Jvm.Cond) (r0 : Addr) (hd : Addr) (F : Nat → Bool) (K : Nat → Int32) (sz : Int32) (ah : Addr) (ao : Addr) (au : Addr) (ab : Addr) (ar : Addr) (h0 : Heap) (n0 : Nat) (Z0 : n0 ≤ h0.size) (TB : Tb Z h0 n0 r0 hd 8 F K sz ah ao au ab ar) (hc : cntF F 8 < 4) :
    Mzz l yn32 cn32 8 none ws (rk 3 5 20 48) #[(.ref r0), (.int (4 : Int32))] Z h0 (Q41_4 Z r0 hd F K sz ah ao au ab ar h0 n0) := by
  refine Mzz.go (own := sn1) (nm := "resize") (L0 := #[rv r0, iv (4 : Int32), un, un, un, un, un, un]) (plainFor_of_name pn_29) rfl rfl (fun m => ef_41_4 m r0) ?_
  intro p e s m below meth c s₁ hx hby hml hown hnm X0 e0 hZ hrt hlk G hG
  have N0 := Fr.nil n0
  have K0 := Keep.refl h0 [r0]
  obtain ⟨tE, tH, t1, t2, t3, t4, t5, tS, i1, i2, ⟨fu, i3⟩, ⟨fb, i4⟩, ⟨fr, i5⟩, ⟨g_r0, g_ah, g_ao, g_au, g_ab, g_ar⟩, ⟨u_r0_ah, u_r0_ao, u_r0_au, u_r0_ab, u_r0_ar, u_ah_ao, u_ah_au, u_ah_ab, u_ah_ar, u_ao_au, u_ao_ab, u_ao_ar, u_au_ab, u_au_ar, u_ab_ar⟩⟩ := id TB
  show Go p.tables e below G (s₁.setTop (mkF m 0 #[rv r0, iv (4 : Int32), un, un, un, un, un, un] []))
  refine zaloadN X0 hx (hb hby d41_0) rfl rfl ?_
  refine zgetF X0 hx hZ hown (wm hw 240 rfl) e0 t1 (hb hby d41_1) (fun T1 X1 e1 => ?_)
  refine zastoreN X1 hx (l' := #[rv r0, iv (4 : Int32), rv ah, un, un, un, un, un]) (hb hby d41_4) rfl rfl ?_
  refine zaloadN X1 hx (hb hby d41_5) rfl rfl ?_
  refine zgetF X1 hx hZ hown (wm hw 229 rfl) e1 t2 (hb hby d41_6) (fun T2 X2 e2 => ?_)
  refine zastoreN X2 hx (l' := #[rv r0, iv (4 : Int32), rv ah, rv ao, un, un, un, un]) (hb hby d41_9) rfl rfl ?_
  refine zaloadN X2 hx (hb hby d41_10) rfl rfl ?_
  refine zgetF X2 hx hZ hown (wm hw 244 rfl) e2 t3 (hb hby d41_11) (fun T3 X3 e3 => ?_)
  refine zastore X3 hx (l' := #[rv r0, iv (4 : Int32), rv ah, rv ao, rv au, un, un, un]) (hb hby d41_14) rfl rfl ?_
  refine zaloadN X3 hx (hb hby d41_16) rfl rfl ?_
  refine zgetF X3 hx hZ hown (wm hw 247 rfl) e3 t4 (hb hby d41_17) (fun T4 X4 e4 => ?_)
  refine zastore X4 hx (l' := #[rv r0, iv (4 : Int32), rv ah, rv ao, rv au, rv ab, un, un]) (hb hby d41_20) rfl rfl ?_
  refine zaloadN X4 hx (hb hby d41_22) rfl rfl ?_
  refine zgetF X4 hx hZ hown (wm hw 249 rfl) e4 t5 (hb hby d41_23) (fun T5 X5 e5 => ?_)
  refine zastore X5 hx (l' := #[rv r0, iv (4 : Int32), rv ah, rv ao, rv au, rv ab, rv ar, un]) (hb hby d41_26) rfl rfl ?_
  refine zaloadN X5 hx (hb hby d41_28) rfl rfl ?_
  refine ziloadN X5 hx (hb hby d41_29) rfl ?_
  obtain ⟨cq6, qq6, qq6'⟩ := tE.cell
  obtain ⟨_, _, ⟨T6, L6, k6, n6⟩, -, X6, ⟨Lc6, hQ6, l6, y6, z6⟩, st6⟩ := X5.privateBack hx (y := yn30) hown (mvT hZ (wm hw 235 rfl)) (mvT hZ (wm hw 236 rfl)) (sel_priv (mvT hZ (wm hw 214 rfl)) (Cond.privateMethod_at (mvP hZ (wm hw 237 rfl) (args := #[]))) (mvT hZ (wm hw 236 rfl)) (by decide)) (Cond.privateMethod_at (mvP hZ (wm hw 237 rfl) (args := #[]))) (mvT hZ (wm hw 238 rfl)) (by decide) (backOf (W := 0) (rm33_4 l Z a0 hw [] r0 hd sz (.ref ah) (.ref ao) (.ref au) (.ref ab) (.ref ar) h0 n0 Z0 tE tH t1 t2 t3 t4 t5 tS g_r0) hZ (wm hw 238 rfl) (wm hw 215 rfl) (by decide) (by decide)) (g := (mkF m 30 #[rv r0, iv (4 : Int32), rv ah, rv ao, rv au, rv ab, rv ar, un] [(.int (4 : Int32)), (.ref r0)])) rfl (by rw [hml]; rfl) (Steps.refl _) (a := r0) (by rw [e5]; exact qq6) qq6' (argsL := [(.int (4 : Int32))]) (rest := []) (lenOf pd_20 rfl) rfl (by show 2 * 0 + _ ≤ _; exact Nat.le_of_eq rfl) (hb hby d41_30) (fun _ _ => ⟨rfl, e5, (by decide : 0 + 5 ≤ _), (by decide : 0 + 20 ≤ _)⟩)
  dsimp only [Pt.U, Pt.locs, Pt.cells, Pt.slots] at X6 l6 y6 z6 st6 hQ6
  subst l6 y6 z6
  obtain ⟨rfl, Nq6, Kc6, bh, bo, bu, bb, br, TB6, sz_bh, sz_bo, sz_bu, sz_bb, sz_br⟩ := hQ6
  have N6 := Fr.app N0 Nq6
  have u_ah_bh : ah ≠ bh := Nat.ne_of_lt (Nat.lt_of_lt_of_le i1.lt sz_bh)
  have u_ah_bo : ah ≠ bo := Nat.ne_of_lt (Nat.lt_of_lt_of_le i1.lt sz_bo)
  have u_ah_bu : ah ≠ bu := Nat.ne_of_lt (Nat.lt_of_lt_of_le i1.lt sz_bu)
  have u_ah_bb : ah ≠ bb := Nat.ne_of_lt (Nat.lt_of_lt_of_le i1.lt sz_bb)
  have u_ah_br : ah ≠ br := Nat.ne_of_lt (Nat.lt_of_lt_of_le i1.lt sz_br)
  have u_ao_bh : ao ≠ bh := Nat.ne_of_lt (Nat.lt_of_lt_of_le i2.lt sz_bh)
  have u_ao_bo : ao ≠ bo := Nat.ne_of_lt (Nat.lt_of_lt_of_le i2.lt sz_bo)
  have u_ao_bu : ao ≠ bu := Nat.ne_of_lt (Nat.lt_of_lt_of_le i2.lt sz_bu)
  have u_ao_bb : ao ≠ bb := Nat.ne_of_lt (Nat.lt_of_lt_of_le i2.lt sz_bb)
  have u_ao_br : ao ≠ br := Nat.ne_of_lt (Nat.lt_of_lt_of_le i2.lt sz_br)
  have u_au_bh : au ≠ bh := Nat.ne_of_lt (Nat.lt_of_lt_of_le i3.lt sz_bh)
  have u_au_bo : au ≠ bo := Nat.ne_of_lt (Nat.lt_of_lt_of_le i3.lt sz_bo)
  have u_au_bu : au ≠ bu := Nat.ne_of_lt (Nat.lt_of_lt_of_le i3.lt sz_bu)
  have u_au_bb : au ≠ bb := Nat.ne_of_lt (Nat.lt_of_lt_of_le i3.lt sz_bb)
  have u_au_br : au ≠ br := Nat.ne_of_lt (Nat.lt_of_lt_of_le i3.lt sz_br)
  have u_ab_bh : ab ≠ bh := Nat.ne_of_lt (Nat.lt_of_lt_of_le i4.lt sz_bh)
  have u_ab_bo : ab ≠ bo := Nat.ne_of_lt (Nat.lt_of_lt_of_le i4.lt sz_bo)
  have u_ab_bu : ab ≠ bu := Nat.ne_of_lt (Nat.lt_of_lt_of_le i4.lt sz_bu)
  have u_ab_bb : ab ≠ bb := Nat.ne_of_lt (Nat.lt_of_lt_of_le i4.lt sz_bb)
  have u_ab_br : ab ≠ br := Nat.ne_of_lt (Nat.lt_of_lt_of_le i4.lt sz_br)
  have u_ar_bh : ar ≠ bh := Nat.ne_of_lt (Nat.lt_of_lt_of_le i5.lt sz_bh)
  have u_ar_bo : ar ≠ bo := Nat.ne_of_lt (Nat.lt_of_lt_of_le i5.lt sz_bo)
  have u_ar_bu : ar ≠ bu := Nat.ne_of_lt (Nat.lt_of_lt_of_le i5.lt sz_bu)
  have u_ar_bb : ar ≠ bb := Nat.ne_of_lt (Nat.lt_of_lt_of_le i5.lt sz_bb)
  have u_ar_br : ar ≠ br := Nat.ne_of_lt (Nat.lt_of_lt_of_le i5.lt sz_br)
  have f7 := tE.keep Kc6
  have f8 := tH.keep Kc6
  have f9 := i1.keep Kc6 (fun q => by simp only [List.mem_cons, List.not_mem_nil, or_false] at q; exact (Ne.symm u_r0_ah) q)
  have f10 := i2.keep Kc6 (fun q => by simp only [List.mem_cons, List.not_mem_nil, or_false] at q; exact (Ne.symm u_r0_ao) q)
  have f11 := i3.keep Kc6 (fun q => by simp only [List.mem_cons, List.not_mem_nil, or_false] at q; exact (Ne.symm u_r0_au) q)
  have f12 := i4.keep Kc6 (fun q => by simp only [List.mem_cons, List.not_mem_nil, or_false] at q; exact (Ne.symm u_r0_ab) q)
  have f13 := i5.keep Kc6 (fun q => by simp only [List.mem_cons, List.not_mem_nil, or_false] at q; exact (Ne.symm u_r0_ar) q)
  have Z6 : n0 ≤ T6.heap.size := Nat.le_trans Z0 Kc6.1
  have K6 := K0.trans Kc6 (fun x q => by
      simp only [List.mem_cons, List.not_mem_nil, or_false] at q
      rw [q]; exact (Or.inl (List.mem_of_getElem? (i := 0) rfl)))
  obtain ⟨tE6, tH6, t16, t26, t36, t46, t56, tS6, i16, i26, ⟨fu6, i36⟩, ⟨fb6, i46⟩, ⟨fr6, i56⟩, ⟨g_r0, g_bh, g_bo, g_bu, g_bb, g_br⟩, ⟨u_r0_bh, u_r0_bo, u_r0_bu, u_r0_bb, u_r0_br, u_bh_bo, u_bh_bu, u_bh_bb, u_bh_br, u_bo_bu, u_bo_bb, u_bo_br, u_bu_bb, u_bu_br, u_bb_br⟩⟩ := id TB6
  refine Go.stp (fun t_ k_ => st6.trans k_) ?_
  show Go p.tables e below G (T6.setTop (mkF m 33 #[rv r0, iv (4 : Int32), rv ah, rv ao, rv au, rv ab, rv ar, un] []))
  refine ziconst X6 hx (hb hby d41_33) (z := (0 : Int32)) rfl ?_
  refine zistore X6 hx (l' := #[rv r0, iv (4 : Int32), rv ah, rv ao, rv au, rv ab, rv ar, iv (0 : Int32)]) (hb hby d41_34) rfl ?_
  show Go p.tables e below G (T6.setTop (mkF m 36 #[rv r0, iv (4 : Int32), rv ah, rv ao, rv au, rv ab, rv ar, iv (own_i 0)] []))
  suffices LP : ∀ (k : Nat) (T : State) (locs : List Loc) (h : Heap) (u : Nat) (F' : Nat → Bool) (K' : Nat → Int32), Stand p l e (rk 3 5 20 48) s m #[(.ref r0), (.int (4 : Int32))] below meth c T locs 5 20 → Fr n0 locs → T.heap = h → n0 ≤ h.size → Keep h0 h [r0] → (Tb Z h n0 r0 hd 4 F' K' sz bh bo bu bb br) → (Ia Z h ah .int 8 Value.int K) → (Ho Z h ao 8 hd F) → (Ia Z h au .int 8 Value.int fu) → (Ia Z h ab .long 8 Value.long fb) → (Ia Z h ar .long 8 Value.long fr) → (u + k = 8) → (Rz own_P4 F K u F' K') → Go p.tables e below G (T.setTop (mkF m 36 #[rv r0, iv (4 : Int32), rv ah, rv ao, rv au, rv ab, rv ar, iv (own_i u)] [])) from LP (8) _ _ _ (0) ((fun _ => false)) ((fun _ => (0 : Int32))) X6 N6 rfl Z6 K6 ⟨tE6, tH6, t16, t26, t36, t46, t56, tS6, i16, i26, ⟨_, i36⟩, ⟨_, i46⟩, ⟨_, i56⟩, ⟨g_r0, g_bh, g_bo, g_bu, g_bb, g_br⟩, ⟨u_r0_bh, u_r0_bo, u_r0_bu, u_r0_bb, u_r0_br, u_bh_bo, u_bh_bu, u_bh_bb, u_bh_br, u_bo_bu, u_bo_bb, u_bo_br, u_bu_bb, u_bu_br, u_bb_br⟩⟩ f9 f10 f11 f12 f13 rfl rfl
  intro k
  induction k with
  | zero =>
    intro T locs h u F' K' X N E Zh Kh TBv o1 o2 o3 o4 o5 hu rz
    obtain rfl : u = 8 := by omega
    obtain ⟨tEv, tHv, t1v, t2v, t3v, t4v, t5v, tSv, i1v, i2v, ⟨fuv, i3v⟩, ⟨fbv, i4v⟩, ⟨frv, i5v⟩, -, -⟩ := id TBv
    show Go p.tables e below G (T.setTop (mkF m 36 #[rv r0, iv (4 : Int32), rv ah, rv ao, rv au, rv ab, rv ar, iv (own_i 8)] []))
    refine ziload X hx (hb hby d41_36) rfl ?_
    refine zaloadN X hx (hb hby d41_38) rfl rfl ?_
    obtain ⟨cl14, Ar14, Sz14, -, -⟩ := id o2
    refine zlen X hx hZ E Ar14 Sz14 (z := (8 : Int32)) rfl (hb hby d41_39) ?_
    have hd40 : ¬ ((own_i 8) < (8 : Int32)) := (by decide)
    refine zicmpYes X hx (pc' := 84) (hb hby d41_40) (flt hd40).2.1 (by decide) (by decide) ?_
    refine zretV X hx hrt hlk (hb hby d41_84) E hG (by decide) (by decide) ?_
    exact ⟨rfl, N, Kh, _, _, bh, bo, bu, bb, br, TBv, sz_bh, sz_bo, sz_bu, sz_bb, sz_br, rz⟩
  | succ k ih =>
    intro T locs h u F' K' X N E Zh Kh TBv o1 o2 o3 o4 o5 hu rz
    obtain ⟨tEv, tHv, t1v, t2v, t3v, t4v, t5v, tSv, i1v, i2v, ⟨fuv, i3v⟩, ⟨fbv, i4v⟩, ⟨frv, i5v⟩, -, -⟩ := id TBv
    have hin := own_in u (by omega)
    show Go p.tables e below G (T.setTop (mkF m 36 #[rv r0, iv (4 : Int32), rv ah, rv ao, rv au, rv ab, rv ar, iv (own_i u)] []))
    refine ziload X hx (hb hby d41_36) rfl ?_
    refine zaloadN X hx (hb hby d41_38) rfl rfl ?_
    obtain ⟨cl15, Ar15, Sz15, -, -⟩ := id o2
    refine zlen X hx hZ E Ar15 Sz15 (z := (8 : Int32)) rfl (hb hby d41_39) ?_
    have hd40 : (own_i u) < (8 : Int32) := (by rw [Int32.lt_iff_toInt_lt, own_iv u (by omega), show (8 : Int32).toInt = 8 by decide]; omega)
    refine zicmpNo X hx (hb hby d41_40) (tlt hd40).2.1 ?_
    refine zaloadN X hx (hb hby d41_43) rfl rfl ?_
    refine ziload X hx (hb hby d41_44) rfl ?_
    refine zaal X hx hZ E o2 (by rw [own_iv u (by omega)]; omega) (hb hby d41_46) ?_
    by_cases hc47 : (F ((own_i u)).toNatClampNeg) = true
    · rw [show (mkh hd (F ((own_i u)).toNatClampNeg)) = Value.ref hd from mkh_t hc47]
      show Go p.tables e below G (T.setTop (mkF m 47 #[rv r0, iv (4 : Int32), rv ah, rv ao, rv au, rv ab, rv ar, iv (own_i u)] [(.ref hd)]))
      refine zifnullNo X hx (hb hby d41_47) ?_
      refine zaloadN X hx (hb hby d41_50) rfl rfl ?_
      refine zaloadN X hx (hb hby d41_51) rfl rfl ?_
      refine ziload X hx (hb hby d41_52) rfl ?_
      refine zial X hx hZ E o1 (by rw [own_iv u (by omega)]; omega) (hb hby d41_54) ?_
      refine zaloadN X hx (hb hby d41_55) rfl rfl ?_
      refine ziload X hx (hb hby d41_56) rfl ?_
      refine zaal X hx hZ E o2 (by rw [own_iv u (by omega)]; omega) (hb hby d41_58) ?_
      rw [show (mkh hd (F ((own_i u)).toNatClampNeg)) = Value.ref hd from mkh_t hc47]
      show Go p.tables e below G (T.setTop (mkF m 59 #[rv r0, iv (4 : Int32), rv ah, rv ao, rv au, rv ab, rv ar, iv (own_i u)] [(.ref hd), (.int (K ((own_i u)).toNatClampNeg)), (.ref r0)]))
      refine zaload X hx (hb hby d41_59) rfl rfl ?_
      refine ziload X hx (hb hby d41_61) rfl ?_
      refine zial X hx hZ E o3 (by rw [own_iv u (by omega)]; omega) (hb hby d41_63) ?_
      refine zaload X hx (hb hby d41_64) rfl rfl ?_
      refine ziload X hx (hb hby d41_66) rfl ?_
      refine zlal X hx hZ E o4 (by rw [own_iv u (by omega)]; omega) (hb hby d41_68) ?_
      refine zaload X hx (hb hby d41_69) rfl rfl ?_
      refine ziload X hx (hb hby d41_71) rfl ?_
      refine zlal X hx hZ E o5 (by rw [own_iv u (by omega)]; omega) (hb hby d41_73) ?_
      obtain ⟨Lq, l1, l2⟩ := rz_list (N := 4) u F' K' rz
      obtain ⟨t, ht, hs, he⟩ := row_free (p := own_P4 (K (own_i u).toNatClampNeg)) l2 (own_Pl4 _) (own_Pi4 _) (by have := cnt_mono F u 8 (by omega); omega)
      obtain ⟨cq16, qq16, qq16'⟩ := tEv.cell
      obtain ⟨_, _, ⟨T16, L16, k16, n16⟩, -, X16, ⟨Lc16, hQ16, l16, y16, z16⟩, st16⟩ := X.privateBack hx (y := yn31) hown (mvT hZ (wm hw 251 rfl)) (mvT hZ (wm hw 252 rfl)) (sel_priv (mvT hZ (wm hw 214 rfl)) (Cond.privateMethod_at (mvP hZ (wm hw 253 rfl) (args := #[]))) (mvT hZ (wm hw 252 rfl)) (by decide)) (Cond.privateMethod_at (mvP hZ (wm hw 253 rfl) (args := #[]))) (mvT hZ (wm hw 254 rfl)) (by decide) (backOf (W := 0) (rm34_4 l Z a0 hw [] r0 (K ((own_i u)).toNatClampNeg) hd (fu ((own_i u)).toNatClampNeg) (fb ((own_i u)).toNatClampNeg) (fr ((own_i u)).toNatClampNeg) F' K' sz bh bo bu bb br t h n0 Zh ⟨tEv, tHv, t1v, t2v, t3v, t4v, t5v, tSv, i1v, i2v, ⟨_, i3v⟩, ⟨_, i4v⟩, ⟨_, i5v⟩, ⟨g_r0, g_bh, g_bo, g_bu, g_bb, g_br⟩, ⟨u_r0_bh, u_r0_bo, u_r0_bu, u_r0_bb, u_r0_br, u_bh_bo, u_bh_bu, u_bh_bb, u_bh_br, u_bo_bu, u_bo_bb, u_bo_br, u_bu_bb, u_bu_br, u_bb_br⟩⟩ hs he) hZ (wm hw 254 rfl) (wm hw 215 rfl) (by decide) (by decide)) (g := (mkF m 74 #[rv r0, iv (4 : Int32), rv ah, rv ao, rv au, rv ab, rv ar, iv (own_i u)] [(.long (fr ((own_i u)).toNatClampNeg)), (.long (fb ((own_i u)).toNatClampNeg)), (.int (fu ((own_i u)).toNatClampNeg)), (.ref hd), (.int (K ((own_i u)).toNatClampNeg)), (.ref r0)])) rfl (by rw [hml]; rfl) (Steps.refl _) (a := r0) (by rw [E]; exact qq16) qq16' (argsL := [(.int (K ((own_i u)).toNatClampNeg)), (.ref hd), (.int (fu ((own_i u)).toNatClampNeg)), (.long (fb ((own_i u)).toNatClampNeg)), (.long (fr ((own_i u)).toNatClampNeg))]) (rest := []) (lenOf pd_21 rfl) rfl (by show 2 * 0 + _ ≤ _; exact Nat.le_of_eq rfl) (hb hby d41_74) (fun _ _ => ⟨rfl, E, (by decide : 5 + 0 ≤ _), (by decide : 20 + 0 ≤ _)⟩)
      dsimp only [Pt.U, Pt.locs, Pt.cells, Pt.slots] at X16 l16 y16 z16 st16 hQ16
      subst l16 y16 z16
      obtain ⟨rfl, Nq16, Kc16, TB16⟩ := hQ16
      have N16 := Fr.app N Nq16
      have f17 := o1.keep Kc16 (fun q => by simp only [List.mem_cons, List.not_mem_nil, or_false] at q; exact q.elim (fun q => u_ah_bh q) (fun q => q.elim (fun q => u_ah_bo q) (fun q => q.elim (fun q => u_ah_bu q) (fun q => q.elim (fun q => u_ah_bb q) (fun q => u_ah_br q)))))
      have f18 := o2.keep Kc16 (fun q => by simp only [List.mem_cons, List.not_mem_nil, or_false] at q; exact q.elim (fun q => u_ao_bh q) (fun q => q.elim (fun q => u_ao_bo q) (fun q => q.elim (fun q => u_ao_bu q) (fun q => q.elim (fun q => u_ao_bb q) (fun q => u_ao_br q)))))
      have f19 := o3.keep Kc16 (fun q => by simp only [List.mem_cons, List.not_mem_nil, or_false] at q; exact q.elim (fun q => u_au_bh q) (fun q => q.elim (fun q => u_au_bo q) (fun q => q.elim (fun q => u_au_bu q) (fun q => q.elim (fun q => u_au_bb q) (fun q => u_au_br q)))))
      have f20 := o4.keep Kc16 (fun q => by simp only [List.mem_cons, List.not_mem_nil, or_false] at q; exact q.elim (fun q => u_ab_bh q) (fun q => q.elim (fun q => u_ab_bo q) (fun q => q.elim (fun q => u_ab_bu q) (fun q => q.elim (fun q => u_ab_bb q) (fun q => u_ab_br q)))))
      have f21 := o5.keep Kc16 (fun q => by simp only [List.mem_cons, List.not_mem_nil, or_false] at q; exact q.elim (fun q => u_ar_bh q) (fun q => q.elim (fun q => u_ar_bo q) (fun q => q.elim (fun q => u_ar_bu q) (fun q => q.elim (fun q => u_ar_bb q) (fun q => u_ar_br q)))))
      have f22 := tEv.keep Kc16
      have f23 := tHv.keep Kc16
      have f24 := t1v.keep Kc16 (fun q => by simp only [List.mem_cons, List.not_mem_nil, or_false] at q; exact q.elim (fun q => u_r0_bh q) (fun q => q.elim (fun q => u_r0_bo q) (fun q => q.elim (fun q => u_r0_bu q) (fun q => q.elim (fun q => u_r0_bb q) (fun q => u_r0_br q)))))
      have f25 := t2v.keep Kc16 (fun q => by simp only [List.mem_cons, List.not_mem_nil, or_false] at q; exact q.elim (fun q => u_r0_bh q) (fun q => q.elim (fun q => u_r0_bo q) (fun q => q.elim (fun q => u_r0_bu q) (fun q => q.elim (fun q => u_r0_bb q) (fun q => u_r0_br q)))))
      have f26 := t3v.keep Kc16 (fun q => by simp only [List.mem_cons, List.not_mem_nil, or_false] at q; exact q.elim (fun q => u_r0_bh q) (fun q => q.elim (fun q => u_r0_bo q) (fun q => q.elim (fun q => u_r0_bu q) (fun q => q.elim (fun q => u_r0_bb q) (fun q => u_r0_br q)))))
      have f27 := t4v.keep Kc16 (fun q => by simp only [List.mem_cons, List.not_mem_nil, or_false] at q; exact q.elim (fun q => u_r0_bh q) (fun q => q.elim (fun q => u_r0_bo q) (fun q => q.elim (fun q => u_r0_bu q) (fun q => q.elim (fun q => u_r0_bb q) (fun q => u_r0_br q)))))
      have f28 := t5v.keep Kc16 (fun q => by simp only [List.mem_cons, List.not_mem_nil, or_false] at q; exact q.elim (fun q => u_r0_bh q) (fun q => q.elim (fun q => u_r0_bo q) (fun q => q.elim (fun q => u_r0_bu q) (fun q => q.elim (fun q => u_r0_bb q) (fun q => u_r0_br q)))))
      have f29 := tSv.keep Kc16 (fun q => by simp only [List.mem_cons, List.not_mem_nil, or_false] at q; exact q.elim (fun q => u_r0_bh q) (fun q => q.elim (fun q => u_r0_bo q) (fun q => q.elim (fun q => u_r0_bu q) (fun q => q.elim (fun q => u_r0_bb q) (fun q => u_r0_br q)))))
      have Z16 : n0 ≤ T16.heap.size := Nat.le_trans Zh Kc16.1
      have K16 := Kh.trans Kc16 (fun x q => by
          simp only [List.mem_cons, List.not_mem_nil, or_false] at q
          rcases q with rfl | rfl | rfl | rfl | rfl
          · exact (Or.inr sz_bh)
          · exact (Or.inr sz_bo)
          · exact (Or.inr sz_bu)
          · exact (Or.inr sz_bb)
          · exact (Or.inr sz_br))
      obtain ⟨tE16, tH16, t116, t216, t316, t416, t516, tS16, i116, i216, ⟨fu16, i316⟩, ⟨fb16, i416⟩, ⟨fr16, i516⟩, -, -⟩ := id TB16
      refine Go.stp (fun t_ k_ => st16.trans k_) ?_
      show Go p.tables e below G (T16.setTop (mkF m 77 #[rv r0, iv (4 : Int32), rv ah, rv ao, rv au, rv ab, rv ar, iv (own_i u)] [(.int (own_it (own_hm4 (K ((own_i u)).toNatClampNeg)) ((4 : Int32) - (1 : Int32)) t))]))
      refine zpop X16 hx (hb hby d41_77) rfl ?_
      refine ziinc X16 hx (l' := #[rv r0, iv (4 : Int32), rv ah, rv ao, rv au, rv ab, rv ar, iv ((own_i u) + (1 : Int32))]) (hb hby d41_78) rfl rfl ?_
      refine zgoto X16 hx (pc' := 36) (hb hby d41_81) (by decide) (by decide) ?_
      exact ih _ _ _ (u + 1) _ _ X16 N16 rfl Z16 K16 TB16 f17 f18 f19 f20 f21 (by omega) (rz_step hin rz hc47 hs he)
    · rw [show (mkh hd (F ((own_i u)).toNatClampNeg)) = Value.null from mkh_f (by simpa using hc47)]
      show Go p.tables e below G (T.setTop (mkF m 47 #[rv r0, iv (4 : Int32), rv ah, rv ao, rv au, rv ab, rv ar, iv (own_i u)] [.null]))
      refine zifnullYes X hx (pc' := 78) (hb hby d41_47) (by decide) (by decide) ?_
      refine ziinc X hx (l' := #[rv r0, iv (4 : Int32), rv ah, rv ao, rv au, rv ab, rv ar, iv ((own_i u) + (1 : Int32))]) (hb hby d41_78) rfl rfl ?_
      refine zgoto X hx (pc' := 36) (hb hby d41_81) (by decide) (by decide) ?_
      exact ih _ _ _ (u + 1) _ _ X N E Zh Kh TBv o1 o2 o3 o4 o5 (by omega) (rz_skip hin rz hc47)
theorem d39_0 : decode cn33 0 = .ok (.aload_n 0, 1) := by decide +kernel
theorem d39_1 : decode cn33 1 = .ok (.getfield 39, 3) := by decide +kernel
theorem d39_4 : decode cn33 4 = .ok (.iload_n 2, 1) := by decide +kernel
theorem d39_5 : decode cn33 5 = .ok (.aload_n 0, 1) := by decide +kernel
theorem d39_6 : decode cn33 6 = .ok (.getfield 39, 3) := by decide +kernel
theorem d39_9 : decode cn33 9 = .ok (.iload_n 1, 1) := by decide +kernel
theorem d39_10 : decode cn33 10 = .ok (.iaload, 1) := by decide +kernel
theorem d39_11 : decode cn33 11 = .ok (.iastore, 1) := by decide +kernel
theorem d39_12 : decode cn33 12 = .ok (.aload_n 0, 1) := by decide +kernel
theorem d39_13 : decode cn33 13 = .ok (.getfield 17, 3) := by decide +kernel
theorem d39_16 : decode cn33 16 = .ok (.iload_n 2, 1) := by decide +kernel
theorem d39_17 : decode cn33 17 = .ok (.aload_n 0, 1) := by decide +kernel
theorem d39_18 : decode cn33 18 = .ok (.getfield 17, 3) := by decide +kernel
theorem d39_21 : decode cn33 21 = .ok (.iload_n 1, 1) := by decide +kernel
theorem d39_22 : decode cn33 22 = .ok (.aaload, 1) := by decide +kernel
theorem d39_23 : decode cn33 23 = .ok (.aastore, 1) := by decide +kernel
theorem d39_24 : decode cn33 24 = .ok (.aload_n 0, 1) := by decide +kernel
theorem d39_25 : decode cn33 25 = .ok (.getfield 28, 3) := by decide +kernel
theorem d39_28 : decode cn33 28 = .ok (.iload_n 2, 1) := by decide +kernel
theorem d39_29 : decode cn33 29 = .ok (.aload_n 0, 1) := by decide +kernel
theorem d39_30 : decode cn33 30 = .ok (.getfield 28, 3) := by decide +kernel
theorem d39_33 : decode cn33 33 = .ok (.iload_n 1, 1) := by decide +kernel
theorem d39_34 : decode cn33 34 = .ok (.iaload, 1) := by decide +kernel
theorem d39_35 : decode cn33 35 = .ok (.iastore, 1) := by decide +kernel
theorem d39_36 : decode cn33 36 = .ok (.aload_n 0, 1) := by decide +kernel
theorem d39_37 : decode cn33 37 = .ok (.getfield 32, 3) := by decide +kernel
theorem d39_40 : decode cn33 40 = .ok (.iload_n 2, 1) := by decide +kernel
theorem d39_41 : decode cn33 41 = .ok (.aload_n 0, 1) := by decide +kernel
theorem d39_42 : decode cn33 42 = .ok (.getfield 32, 3) := by decide +kernel
theorem d39_45 : decode cn33 45 = .ok (.iload_n 1, 1) := by decide +kernel
theorem d39_46 : decode cn33 46 = .ok (.laload, 1) := by decide +kernel
theorem d39_47 : decode cn33 47 = .ok (.lastore, 1) := by decide +kernel
theorem d39_48 : decode cn33 48 = .ok (.aload_n 0, 1) := by decide +kernel
theorem d39_49 : decode cn33 49 = .ok (.getfield 36, 3) := by decide +kernel
theorem d39_52 : decode cn33 52 = .ok (.iload_n 2, 1) := by decide +kernel
theorem d39_53 : decode cn33 53 = .ok (.aload_n 0, 1) := by decide +kernel
theorem d39_54 : decode cn33 54 = .ok (.getfield 36, 3) := by decide +kernel
theorem d39_57 : decode cn33 57 = .ok (.iload_n 1, 1) := by decide +kernel
theorem d39_58 : decode cn33 58 = .ok (.laload, 1) := by decide +kernel
theorem d39_59 : decode cn33 59 = .ok (.lastore, 1) := by decide +kernel
theorem d39_60 : decode cn33 60 = .ok (.return_, 1) := by decide +kernel
theorem ef_39_4 (m : MethodId) (r0 : Addr) (p1 : Int32) (p2 : Int32) : entryFrame m #[(.ref r0), (.int p1), (.int p2)] 3 = mkF m 0 #[rv r0, iv p1, iv p2] [] := by first | (simp [entryFrame, mkF, argsToLocals, Value.category, iv, rv, lv, un, sd]; done) | rfl
def Q39_4 (Z : State) (r0 : Addr) (p1 : Int32) (p2 : Int32) (hd : Addr) (F : Nat → Bool) (K : Nat → Int32) (sz : Int32) (ah : Addr) (ao : Addr) (au : Addr) (ab : Addr) (ar : Addr) (h0 : Heap) (n0 : Nat) (v : Option Value) (h : Heap) (L : List Loc) : Prop := v = none ∧ Fr n0 L ∧ Keep h0 h [ah, ao, au, ab, ar] ∧ ∃ K' : Nat → Int32, Tb Z h n0 r0 hd 4 F K' sz ah ao au ab ar
set_option maxRecDepth 65536 in
set_option maxHeartbeats 40000000 in
theorem rm39_4 (l : Launch) (Z : State) (a0 : Array Value) (hw : ∀ d ∈ tables_1, d.before a0 Z = true) (ws : List Jvm.Cond) (r0 : Addr) (p1 : Int32) (p2 : Int32) (hd : Addr) (F : Nat → Bool) (K : Nat → Int32) (sz : Int32) (ah : Addr) (ao : Addr) (au : Addr) (ab : Addr) (ar : Addr) (h0 : Heap) (n0 : Nat) (Z0 : n0 ≤ h0.size) (TB : Tb Z h0 n0 r0 hd 4 F K sz ah ao au ab ar) (hb1 : 0 ≤ (p1).toInt ∧ (p1).toInt < ((4 : Nat) : Int)) (hb2 : 0 ≤ (p2).toInt ∧ (p2).toInt < ((4 : Nat) : Int)) (hf : F (p1).toNatClampNeg = true) (ht : F (p2).toNatClampNeg = true) :
    Mzz l yn33 cn33 3 none ws (rk 0 0 0 0) #[(.ref r0), (.int p1), (.int p2)] Z h0 (Q39_4 Z r0 p1 p2 hd F K sz ah ao au ab ar h0 n0) := by
  refine Mzz.go (own := sn1) (nm := "move") (L0 := #[rv r0, iv p1, iv p2]) (plainFor_of_name pn_29) rfl rfl (fun m => ef_39_4 m r0 p1 p2) ?_
  intro p e s m below meth c s₁ hx hby hml hown hnm X0 e0 hZ hrt hlk G hG
  have N0 := Fr.nil n0
  have K0 := Keep.refl h0 [ah, ao, au, ab, ar]
  obtain ⟨tE, tH, t1, t2, t3, t4, t5, tS, i1, i2, ⟨fu, i3⟩, ⟨fb, i4⟩, ⟨fr, i5⟩, ⟨g_r0, g_ah, g_ao, g_au, g_ab, g_ar⟩, ⟨u_r0_ah, u_r0_ao, u_r0_au, u_r0_ab, u_r0_ar, u_ah_ao, u_ah_au, u_ah_ab, u_ah_ar, u_ao_au, u_ao_ab, u_ao_ar, u_au_ab, u_au_ar, u_ab_ar⟩⟩ := id TB
  show Go p.tables e below G (s₁.setTop (mkF m 0 #[rv r0, iv p1, iv p2] []))
  refine zaloadN X0 hx (hb hby d39_0) rfl rfl ?_
  refine zgetF X0 hx hZ hown (wm hw 240 rfl) e0 t1 (hb hby d39_1) (fun T1 X1 e1 => ?_)
  refine ziloadN X1 hx (hb hby d39_4) rfl ?_
  refine zaloadN X1 hx (hb hby d39_5) rfl rfl ?_
  refine zgetF X1 hx hZ hown (wm hw 240 rfl) e1 t1 (hb hby d39_6) (fun T2 X2 e2 => ?_)
  refine ziloadN X2 hx (hb hby d39_9) rfl ?_
  refine zial X2 hx hZ e2 i1 hb1 (hb hby d39_10) ?_
  refine zias X2 hx hZ e2 i1 hb2 (hb hby d39_11) (fun T3 h3 X3 e3 W3 f4 => ?_)
  have f5 := tE.wr W3
  have f6 := tH.wr W3
  have f7 := t1.other W3 (Or.inl u_r0_ah)
  have f8 := t2.other W3 (Or.inl u_r0_ah)
  have f9 := t3.other W3 (Or.inl u_r0_ah)
  have f10 := t4.other W3 (Or.inl u_r0_ah)
  have f11 := t5.other W3 (Or.inl u_r0_ah)
  have f12 := tS.other W3 (Or.inl u_r0_ah)
  have f13 := i2.other W3 (Ne.symm u_ah_ao)
  have f14 := i3.other W3 (Ne.symm u_ah_au)
  have f15 := i4.other W3 (Ne.symm u_ah_ab)
  have f16 := i5.other W3 (Ne.symm u_ah_ar)
  have N3 := Fr.snoc X3 N0 g_ah
  have K3 := K0.wr W3 (Or.inl (List.mem_of_getElem? (i := 0) rfl))
  have Z3 := Nat.le_trans Z0 (Keep.of_wr W3).1
  refine zaloadN X3 hx (hb hby d39_12) rfl rfl ?_
  refine zgetF X3 hx hZ hown (wm hw 229 rfl) e3 f8 (hb hby d39_13) (fun T17 X17 e17 => ?_)
  refine ziloadN X17 hx (hb hby d39_16) rfl ?_
  refine zaloadN X17 hx (hb hby d39_17) rfl rfl ?_
  refine zgetF X17 hx hZ hown (wm hw 229 rfl) e17 f8 (hb hby d39_18) (fun T18 X18 e18 => ?_)
  refine ziloadN X18 hx (hb hby d39_21) rfl ?_
  refine zaal X18 hx hZ e18 f13 hb1 (hb hby d39_22) ?_
  rw [show (mkh hd (F (p1).toNatClampNeg)) = Value.ref hd from mkh_t hf]
  show Go p.tables e below G (T18.setTop (mkF m 23 #[rv r0, iv p1, iv p2] [(.ref hd), (.int p2), (.ref ao)]))
  refine zaas (b := true) X18 hx hZ e18 f13 f6 hb2 (hb hby d39_23) (fun T19 h19 X19 e19 W19 f20 => ?_)
  have f21 := f5.wr W19
  have f22 := f6.wr W19
  have f23 := f7.other W19 (Or.inl u_r0_ao)
  have f24 := f8.other W19 (Or.inl u_r0_ao)
  have f25 := f9.other W19 (Or.inl u_r0_ao)
  have f26 := f10.other W19 (Or.inl u_r0_ao)
  have f27 := f11.other W19 (Or.inl u_r0_ao)
  have f28 := f12.other W19 (Or.inl u_r0_ao)
  have f29 := f14.other W19 (Ne.symm u_ao_au)
  have f30 := f15.other W19 (Ne.symm u_ao_ab)
  have f31 := f16.other W19 (Ne.symm u_ao_ar)
  have f32 := f4.other W19 u_ah_ao
  have N19 := Fr.snoc X19 N3 g_ao
  have K19 := K3.wr W19 (Or.inl (List.mem_of_getElem? (i := 1) rfl))
  have Z19 := Nat.le_trans Z3 (Keep.of_wr W19).1
  refine zaloadN X19 hx (hb hby d39_24) rfl rfl ?_
  refine zgetF X19 hx hZ hown (wm hw 244 rfl) e19 f25 (hb hby d39_25) (fun T33 X33 e33 => ?_)
  refine ziloadN X33 hx (hb hby d39_28) rfl ?_
  refine zaloadN X33 hx (hb hby d39_29) rfl rfl ?_
  refine zgetF X33 hx hZ hown (wm hw 244 rfl) e33 f25 (hb hby d39_30) (fun T34 X34 e34 => ?_)
  refine ziloadN X34 hx (hb hby d39_33) rfl ?_
  refine zial X34 hx hZ e34 f29 hb1 (hb hby d39_34) ?_
  refine zias X34 hx hZ e34 f29 hb2 (hb hby d39_35) (fun T35 h35 X35 e35 W35 f36 => ?_)
  have f37 := f21.wr W35
  have f38 := f22.wr W35
  have f39 := f23.other W35 (Or.inl u_r0_au)
  have f40 := f24.other W35 (Or.inl u_r0_au)
  have f41 := f25.other W35 (Or.inl u_r0_au)
  have f42 := f26.other W35 (Or.inl u_r0_au)
  have f43 := f27.other W35 (Or.inl u_r0_au)
  have f44 := f28.other W35 (Or.inl u_r0_au)
  have f45 := f30.other W35 (Ne.symm u_au_ab)
  have f46 := f31.other W35 (Ne.symm u_au_ar)
  have f47 := f32.other W35 u_ah_au
  have f48 := f20.other W35 u_ao_au
  have N35 := Fr.snoc X35 N19 g_au
  have K35 := K19.wr W35 (Or.inl (List.mem_of_getElem? (i := 2) rfl))
  have Z35 := Nat.le_trans Z19 (Keep.of_wr W35).1
  refine zaloadN X35 hx (hb hby d39_36) rfl rfl ?_
  refine zgetF X35 hx hZ hown (wm hw 247 rfl) e35 f42 (hb hby d39_37) (fun T49 X49 e49 => ?_)
  refine ziloadN X49 hx (hb hby d39_40) rfl ?_
  refine zaloadN X49 hx (hb hby d39_41) rfl rfl ?_
  refine zgetF X49 hx hZ hown (wm hw 247 rfl) e49 f42 (hb hby d39_42) (fun T50 X50 e50 => ?_)
  refine ziloadN X50 hx (hb hby d39_45) rfl ?_
  refine zlal X50 hx hZ e50 f45 hb1 (hb hby d39_46) ?_
  refine zlas X50 hx hZ e50 f45 hb2 (hb hby d39_47) (fun T51 h51 X51 e51 W51 f52 => ?_)
  have f53 := f37.wr W51
  have f54 := f38.wr W51
  have f55 := f39.other W51 (Or.inl u_r0_ab)
  have f56 := f40.other W51 (Or.inl u_r0_ab)
  have f57 := f41.other W51 (Or.inl u_r0_ab)
  have f58 := f42.other W51 (Or.inl u_r0_ab)
  have f59 := f43.other W51 (Or.inl u_r0_ab)
  have f60 := f44.other W51 (Or.inl u_r0_ab)
  have f61 := f46.other W51 (Ne.symm u_ab_ar)
  have f62 := f47.other W51 u_ah_ab
  have f63 := f48.other W51 u_ao_ab
  have f64 := f36.other W51 u_au_ab
  have N51 := Fr.snoc X51 N35 g_ab
  have K51 := K35.wr W51 (Or.inl (List.mem_of_getElem? (i := 3) rfl))
  have Z51 := Nat.le_trans Z35 (Keep.of_wr W51).1
  refine zaloadN X51 hx (hb hby d39_48) rfl rfl ?_
  refine zgetF X51 hx hZ hown (wm hw 249 rfl) e51 f59 (hb hby d39_49) (fun T65 X65 e65 => ?_)
  refine ziloadN X65 hx (hb hby d39_52) rfl ?_
  refine zaloadN X65 hx (hb hby d39_53) rfl rfl ?_
  refine zgetF X65 hx hZ hown (wm hw 249 rfl) e65 f59 (hb hby d39_54) (fun T66 X66 e66 => ?_)
  refine ziloadN X66 hx (hb hby d39_57) rfl ?_
  refine zlal X66 hx hZ e66 f61 hb1 (hb hby d39_58) ?_
  refine zlas X66 hx hZ e66 f61 hb2 (hb hby d39_59) (fun T67 h67 X67 e67 W67 f68 => ?_)
  have f69 := f53.wr W67
  have f70 := f54.wr W67
  have f71 := f55.other W67 (Or.inl u_r0_ar)
  have f72 := f56.other W67 (Or.inl u_r0_ar)
  have f73 := f57.other W67 (Or.inl u_r0_ar)
  have f74 := f58.other W67 (Or.inl u_r0_ar)
  have f75 := f59.other W67 (Or.inl u_r0_ar)
  have f76 := f60.other W67 (Or.inl u_r0_ar)
  have f77 := f62.other W67 u_ah_ar
  have f78 := f63.other W67 u_ao_ar
  have f79 := f64.other W67 u_au_ar
  have f80 := f52.other W67 u_ab_ar
  have N67 := Fr.snoc X67 N51 g_ar
  have K67 := K51.wr W67 (Or.inl (List.mem_of_getElem? (i := 4) rfl))
  have Z67 := Nat.le_trans Z51 (Keep.of_wr W67).1
  refine zretV X67 hx hrt hlk (hb hby d39_60) e67 hG (by decide) (by decide) ?_
  have iU : Ho Z h67 ao 4 hd F := (upf_true ht) ▸ f78
  exact ⟨rfl, N67, K67, _, ⟨f69, f70, f71, f72, f73, f74, f75, f76, f77, iU, ⟨_, f79⟩, ⟨_, f80⟩, ⟨_, f68⟩, ⟨g_r0, g_ah, g_ao, g_au, g_ab, g_ar⟩, ⟨u_r0_ah, u_r0_ao, u_r0_au, u_r0_ab, u_r0_ar, u_ah_ao, u_ah_au, u_ah_ab, u_ah_ar, u_ao_au, u_ao_ab, u_ao_ar, u_au_ab, u_au_ar, u_ab_ar⟩⟩⟩
theorem ef_39_8 (m : MethodId) (r0 : Addr) (p1 : Int32) (p2 : Int32) : entryFrame m #[(.ref r0), (.int p1), (.int p2)] 3 = mkF m 0 #[rv r0, iv p1, iv p2] [] := by first | (simp [entryFrame, mkF, argsToLocals, Value.category, iv, rv, lv, un, sd]; done) | rfl
def Q39_8 (Z : State) (r0 : Addr) (p1 : Int32) (p2 : Int32) (hd : Addr) (F : Nat → Bool) (K : Nat → Int32) (sz : Int32) (ah : Addr) (ao : Addr) (au : Addr) (ab : Addr) (ar : Addr) (h0 : Heap) (n0 : Nat) (v : Option Value) (h : Heap) (L : List Loc) : Prop := v = none ∧ Fr n0 L ∧ Keep h0 h [ah, ao, au, ab, ar] ∧ ∃ K' : Nat → Int32, Tb Z h n0 r0 hd 8 F K' sz ah ao au ab ar
set_option maxRecDepth 65536 in
set_option maxHeartbeats 40000000 in
theorem rm39_8 (l : Launch) (Z : State) (a0 : Array Value) (hw : ∀ d ∈ tables_1, d.before a0 Z = true) (ws : List Jvm.Cond) (r0 : Addr) (p1 : Int32) (p2 : Int32) (hd : Addr) (F : Nat → Bool) (K : Nat → Int32) (sz : Int32) (ah : Addr) (ao : Addr) (au : Addr) (ab : Addr) (ar : Addr) (h0 : Heap) (n0 : Nat) (Z0 : n0 ≤ h0.size) (TB : Tb Z h0 n0 r0 hd 8 F K sz ah ao au ab ar) (hb1 : 0 ≤ (p1).toInt ∧ (p1).toInt < ((8 : Nat) : Int)) (hb2 : 0 ≤ (p2).toInt ∧ (p2).toInt < ((8 : Nat) : Int)) (hf : F (p1).toNatClampNeg = true) (ht : F (p2).toNatClampNeg = true) :
    Mzz l yn33 cn33 3 none ws (rk 0 0 0 0) #[(.ref r0), (.int p1), (.int p2)] Z h0 (Q39_8 Z r0 p1 p2 hd F K sz ah ao au ab ar h0 n0) := by
  refine Mzz.go (own := sn1) (nm := "move") (L0 := #[rv r0, iv p1, iv p2]) (plainFor_of_name pn_29) rfl rfl (fun m => ef_39_8 m r0 p1 p2) ?_
  intro p e s m below meth c s₁ hx hby hml hown hnm X0 e0 hZ hrt hlk G hG
  have N0 := Fr.nil n0
  have K0 := Keep.refl h0 [ah, ao, au, ab, ar]
  obtain ⟨tE, tH, t1, t2, t3, t4, t5, tS, i1, i2, ⟨fu, i3⟩, ⟨fb, i4⟩, ⟨fr, i5⟩, ⟨g_r0, g_ah, g_ao, g_au, g_ab, g_ar⟩, ⟨u_r0_ah, u_r0_ao, u_r0_au, u_r0_ab, u_r0_ar, u_ah_ao, u_ah_au, u_ah_ab, u_ah_ar, u_ao_au, u_ao_ab, u_ao_ar, u_au_ab, u_au_ar, u_ab_ar⟩⟩ := id TB
  show Go p.tables e below G (s₁.setTop (mkF m 0 #[rv r0, iv p1, iv p2] []))
  refine zaloadN X0 hx (hb hby d39_0) rfl rfl ?_
  refine zgetF X0 hx hZ hown (wm hw 240 rfl) e0 t1 (hb hby d39_1) (fun T1 X1 e1 => ?_)
  refine ziloadN X1 hx (hb hby d39_4) rfl ?_
  refine zaloadN X1 hx (hb hby d39_5) rfl rfl ?_
  refine zgetF X1 hx hZ hown (wm hw 240 rfl) e1 t1 (hb hby d39_6) (fun T2 X2 e2 => ?_)
  refine ziloadN X2 hx (hb hby d39_9) rfl ?_
  refine zial X2 hx hZ e2 i1 hb1 (hb hby d39_10) ?_
  refine zias X2 hx hZ e2 i1 hb2 (hb hby d39_11) (fun T3 h3 X3 e3 W3 f4 => ?_)
  have f5 := tE.wr W3
  have f6 := tH.wr W3
  have f7 := t1.other W3 (Or.inl u_r0_ah)
  have f8 := t2.other W3 (Or.inl u_r0_ah)
  have f9 := t3.other W3 (Or.inl u_r0_ah)
  have f10 := t4.other W3 (Or.inl u_r0_ah)
  have f11 := t5.other W3 (Or.inl u_r0_ah)
  have f12 := tS.other W3 (Or.inl u_r0_ah)
  have f13 := i2.other W3 (Ne.symm u_ah_ao)
  have f14 := i3.other W3 (Ne.symm u_ah_au)
  have f15 := i4.other W3 (Ne.symm u_ah_ab)
  have f16 := i5.other W3 (Ne.symm u_ah_ar)
  have N3 := Fr.snoc X3 N0 g_ah
  have K3 := K0.wr W3 (Or.inl (List.mem_of_getElem? (i := 0) rfl))
  have Z3 := Nat.le_trans Z0 (Keep.of_wr W3).1
  refine zaloadN X3 hx (hb hby d39_12) rfl rfl ?_
  refine zgetF X3 hx hZ hown (wm hw 229 rfl) e3 f8 (hb hby d39_13) (fun T17 X17 e17 => ?_)
  refine ziloadN X17 hx (hb hby d39_16) rfl ?_
  refine zaloadN X17 hx (hb hby d39_17) rfl rfl ?_
  refine zgetF X17 hx hZ hown (wm hw 229 rfl) e17 f8 (hb hby d39_18) (fun T18 X18 e18 => ?_)
  refine ziloadN X18 hx (hb hby d39_21) rfl ?_
  refine zaal X18 hx hZ e18 f13 hb1 (hb hby d39_22) ?_
  rw [show (mkh hd (F (p1).toNatClampNeg)) = Value.ref hd from mkh_t hf]
  show Go p.tables e below G (T18.setTop (mkF m 23 #[rv r0, iv p1, iv p2] [(.ref hd), (.int p2), (.ref ao)]))
  refine zaas (b := true) X18 hx hZ e18 f13 f6 hb2 (hb hby d39_23) (fun T19 h19 X19 e19 W19 f20 => ?_)
  have f21 := f5.wr W19
  have f22 := f6.wr W19
  have f23 := f7.other W19 (Or.inl u_r0_ao)
  have f24 := f8.other W19 (Or.inl u_r0_ao)
  have f25 := f9.other W19 (Or.inl u_r0_ao)
  have f26 := f10.other W19 (Or.inl u_r0_ao)
  have f27 := f11.other W19 (Or.inl u_r0_ao)
  have f28 := f12.other W19 (Or.inl u_r0_ao)
  have f29 := f14.other W19 (Ne.symm u_ao_au)
  have f30 := f15.other W19 (Ne.symm u_ao_ab)
  have f31 := f16.other W19 (Ne.symm u_ao_ar)
  have f32 := f4.other W19 u_ah_ao
  have N19 := Fr.snoc X19 N3 g_ao
  have K19 := K3.wr W19 (Or.inl (List.mem_of_getElem? (i := 1) rfl))
  have Z19 := Nat.le_trans Z3 (Keep.of_wr W19).1
  refine zaloadN X19 hx (hb hby d39_24) rfl rfl ?_
  refine zgetF X19 hx hZ hown (wm hw 244 rfl) e19 f25 (hb hby d39_25) (fun T33 X33 e33 => ?_)
  refine ziloadN X33 hx (hb hby d39_28) rfl ?_
  refine zaloadN X33 hx (hb hby d39_29) rfl rfl ?_
  refine zgetF X33 hx hZ hown (wm hw 244 rfl) e33 f25 (hb hby d39_30) (fun T34 X34 e34 => ?_)
  refine ziloadN X34 hx (hb hby d39_33) rfl ?_
  refine zial X34 hx hZ e34 f29 hb1 (hb hby d39_34) ?_
  refine zias X34 hx hZ e34 f29 hb2 (hb hby d39_35) (fun T35 h35 X35 e35 W35 f36 => ?_)
  have f37 := f21.wr W35
  have f38 := f22.wr W35
  have f39 := f23.other W35 (Or.inl u_r0_au)
  have f40 := f24.other W35 (Or.inl u_r0_au)
  have f41 := f25.other W35 (Or.inl u_r0_au)
  have f42 := f26.other W35 (Or.inl u_r0_au)
  have f43 := f27.other W35 (Or.inl u_r0_au)
  have f44 := f28.other W35 (Or.inl u_r0_au)
  have f45 := f30.other W35 (Ne.symm u_au_ab)
  have f46 := f31.other W35 (Ne.symm u_au_ar)
  have f47 := f32.other W35 u_ah_au
  have f48 := f20.other W35 u_ao_au
  have N35 := Fr.snoc X35 N19 g_au
  have K35 := K19.wr W35 (Or.inl (List.mem_of_getElem? (i := 2) rfl))
  have Z35 := Nat.le_trans Z19 (Keep.of_wr W35).1
  refine zaloadN X35 hx (hb hby d39_36) rfl rfl ?_
  refine zgetF X35 hx hZ hown (wm hw 247 rfl) e35 f42 (hb hby d39_37) (fun T49 X49 e49 => ?_)
  refine ziloadN X49 hx (hb hby d39_40) rfl ?_
  refine zaloadN X49 hx (hb hby d39_41) rfl rfl ?_
  refine zgetF X49 hx hZ hown (wm hw 247 rfl) e49 f42 (hb hby d39_42) (fun T50 X50 e50 => ?_)
  refine ziloadN X50 hx (hb hby d39_45) rfl ?_
  refine zlal X50 hx hZ e50 f45 hb1 (hb hby d39_46) ?_
  refine zlas X50 hx hZ e50 f45 hb2 (hb hby d39_47) (fun T51 h51 X51 e51 W51 f52 => ?_)
  have f53 := f37.wr W51
  have f54 := f38.wr W51
  have f55 := f39.other W51 (Or.inl u_r0_ab)
  have f56 := f40.other W51 (Or.inl u_r0_ab)
  have f57 := f41.other W51 (Or.inl u_r0_ab)
  have f58 := f42.other W51 (Or.inl u_r0_ab)
  have f59 := f43.other W51 (Or.inl u_r0_ab)
  have f60 := f44.other W51 (Or.inl u_r0_ab)
  have f61 := f46.other W51 (Ne.symm u_ab_ar)
  have f62 := f47.other W51 u_ah_ab
  have f63 := f48.other W51 u_ao_ab
  have f64 := f36.other W51 u_au_ab
  have N51 := Fr.snoc X51 N35 g_ab
  have K51 := K35.wr W51 (Or.inl (List.mem_of_getElem? (i := 3) rfl))
  have Z51 := Nat.le_trans Z35 (Keep.of_wr W51).1
  refine zaloadN X51 hx (hb hby d39_48) rfl rfl ?_
  refine zgetF X51 hx hZ hown (wm hw 249 rfl) e51 f59 (hb hby d39_49) (fun T65 X65 e65 => ?_)
  refine ziloadN X65 hx (hb hby d39_52) rfl ?_
  refine zaloadN X65 hx (hb hby d39_53) rfl rfl ?_
  refine zgetF X65 hx hZ hown (wm hw 249 rfl) e65 f59 (hb hby d39_54) (fun T66 X66 e66 => ?_)
  refine ziloadN X66 hx (hb hby d39_57) rfl ?_
  refine zlal X66 hx hZ e66 f61 hb1 (hb hby d39_58) ?_
  refine zlas X66 hx hZ e66 f61 hb2 (hb hby d39_59) (fun T67 h67 X67 e67 W67 f68 => ?_)
  have f69 := f53.wr W67
  have f70 := f54.wr W67
  have f71 := f55.other W67 (Or.inl u_r0_ar)
  have f72 := f56.other W67 (Or.inl u_r0_ar)
  have f73 := f57.other W67 (Or.inl u_r0_ar)
  have f74 := f58.other W67 (Or.inl u_r0_ar)
  have f75 := f59.other W67 (Or.inl u_r0_ar)
  have f76 := f60.other W67 (Or.inl u_r0_ar)
  have f77 := f62.other W67 u_ah_ar
  have f78 := f63.other W67 u_ao_ar
  have f79 := f64.other W67 u_au_ar
  have f80 := f52.other W67 u_ab_ar
  have N67 := Fr.snoc X67 N51 g_ar
  have K67 := K51.wr W67 (Or.inl (List.mem_of_getElem? (i := 4) rfl))
  have Z67 := Nat.le_trans Z51 (Keep.of_wr W67).1
  refine zretV X67 hx hrt hlk (hb hby d39_60) e67 hG (by decide) (by decide) ?_
  have iU : Ho Z h67 ao 8 hd F := (upf_true ht) ▸ f78
  exact ⟨rfl, N67, K67, _, ⟨f69, f70, f71, f72, f73, f74, f75, f76, f77, iU, ⟨_, f79⟩, ⟨_, f80⟩, ⟨_, f68⟩, ⟨g_r0, g_ah, g_ao, g_au, g_ab, g_ar⟩, ⟨u_r0_ah, u_r0_ao, u_r0_au, u_r0_ab, u_r0_ar, u_ah_ao, u_ah_au, u_ah_ab, u_ah_ar, u_ao_au, u_ao_ab, u_ao_ar, u_au_ab, u_au_ar, u_ab_ar⟩⟩⟩
theorem d32_0 : decode cn34 0 = .ok (.aload_n 0, 1) := by decide +kernel
theorem d32_1 : decode cn34 1 = .ok (.getfield 17, 3) := by decide +kernel
theorem d32_4 : decode cn34 4 = .ok (.ifnonnull 11, 3) := by decide +kernel
theorem d32_7 : decode cn34 7 = .ok (.aload_n 0, 1) := by decide +kernel
theorem d32_8 : decode cn34 8 = .ok (.iconst 4, 1) := by decide +kernel
theorem d32_9 : decode cn34 9 = .ok (.invokevirtual 90, 3) := by decide +kernel
theorem d32_12 : decode cn34 12 = .ok (.goto 32, 3) := by decide +kernel
theorem d32_44 : decode cn34 44 = .ok (.return_, 1) := by decide +kernel
theorem ef_32_0 (m : MethodId) (r0 : Addr) : entryFrame m #[(.ref r0)] 1 = mkF m 0 #[rv r0] [] := by first | (simp [entryFrame, mkF, argsToLocals, Value.category, iv, rv, lv, un, sd]; done) | rfl
def Q32_0 (Z : State) (r0 : Addr) (hd : Addr) (h0 : Heap) (n0 : Nat) (v : Option Value) (h : Heap) (L : List Loc) : Prop := v = none ∧ Fr n0 L ∧ Keep h0 h [r0] ∧ ∃ bh bo bu bb br : Addr, Tb Z h n0 r0 hd 4 (fun _ => false) (fun _ => (0 : Int32)) (0 : Int32) bh bo bu bb br ∧ h0.size ≤ bh ∧ h0.size ≤ bo ∧ h0.size ≤ bu ∧ h0.size ≤ bb ∧ h0.size ≤ br
set_option maxRecDepth 65536 in
set_option maxHeartbeats 40000000 in
theorem rm32_0 (l : Launch) (Z : State) (a0 : Array Value) (hw : ∀ d ∈ tables_1, d.before a0 Z = true) (ws : List Jvm.Cond) (r0 : Addr) (hd : Addr) (h0 : Heap) (n0 : Nat) (Z0 : n0 ≤ h0.size) (T0h : T0 Z h0 n0 r0) (E_hd : Exa Z h0 hd sn0) :
    Mzz l yn34 cn34 1 none ws (rk 4 5 40 67) #[(.ref r0)] Z h0 (Q32_0 Z r0 hd h0 n0) := by
  refine Mzz.go (own := sn1) (nm := "grow") (L0 := #[rv r0]) (plainFor_of_name pn_29) rfl rfl (fun m => ef_32_0 m r0) ?_
  intro p e s m below meth c s₁ hx hby hml hown hnm X0 e0 hZ hrt hlk G hG
  have N0 := Fr.nil n0
  have K0 := Keep.refl h0 [r0]
  obtain ⟨tE, t1, t2, t3, t4, t5, tS, g_r0⟩ := T0h
  show Go p.tables e below G (s₁.setTop (mkF m 0 #[rv r0] []))
  refine zaloadN X0 hx (hb hby d32_0) rfl rfl ?_
  refine zgetF X0 hx hZ hown (wm hw 229 rfl) e0 t2 (hb hby d32_1) (fun T1 X1 e1 => ?_)
  refine zifnonnullNo X1 hx (hb hby d32_4) ?_
  refine zaloadN X1 hx (hb hby d32_7) rfl rfl ?_
  refine ziconst X1 hx (hb hby d32_8) (z := (4 : Int32)) rfl ?_
  obtain ⟨cq2, qq2, qq2'⟩ := tE.cell
  obtain ⟨_, _, ⟨T2, L2, k2, n2⟩, -, X2, ⟨Lc2, hQ2, l2, y2, z2⟩, st2⟩ := X1.privateBack hx (y := yn30) hown (mvT hZ (wm hw 235 rfl)) (mvT hZ (wm hw 236 rfl)) (sel_priv (mvT hZ (wm hw 214 rfl)) (Cond.privateMethod_at (mvP hZ (wm hw 237 rfl) (args := #[]))) (mvT hZ (wm hw 236 rfl)) (by decide)) (Cond.privateMethod_at (mvP hZ (wm hw 237 rfl) (args := #[]))) (mvT hZ (wm hw 238 rfl)) (by decide) (backOf (W := 0) (rm33_4 l Z a0 hw [] r0 hd (0 : Int32) .null .null .null .null .null h0 n0 Z0 tE E_hd t1 t2 t3 t4 t5 tS g_r0) hZ (wm hw 238 rfl) (wm hw 215 rfl) (by decide) (by decide)) (g := (mkF m 9 #[rv r0] [(.int (4 : Int32)), (.ref r0)])) rfl (by rw [hml]; rfl) (Steps.refl _) (a := r0) (by rw [e1]; exact qq2) qq2' (argsL := [(.int (4 : Int32))]) (rest := []) (lenOf pd_20 rfl) rfl (by show 2 * 0 + _ ≤ _; exact Nat.le_of_eq rfl) (hb hby d32_9) (fun _ _ => ⟨rfl, e1, (by decide : 0 + 5 ≤ _), (by decide : 0 + 20 ≤ _)⟩)
  dsimp only [Pt.U, Pt.locs, Pt.cells, Pt.slots] at X2 l2 y2 z2 st2 hQ2
  subst l2 y2 z2
  obtain ⟨rfl, Nq2, Kc2, bh, bo, bu, bb, br, TB2, sz_bh, sz_bo, sz_bu, sz_bb, sz_br⟩ := hQ2
  have N2 := Fr.app N0 Nq2
  have f3 := tE.keep Kc2
  have f4 := E_hd.keep Kc2
  have Z2 : n0 ≤ T2.heap.size := Nat.le_trans Z0 Kc2.1
  have K2 := K0.trans Kc2 (fun x q => by
      simp only [List.mem_cons, List.not_mem_nil, or_false] at q
      rw [q]; exact (Or.inl (List.mem_of_getElem? (i := 0) rfl)))
  obtain ⟨tE2, tH2, t12, t22, t32, t42, t52, tS2, i12, i22, ⟨fu2, i32⟩, ⟨fb2, i42⟩, ⟨fr2, i52⟩, ⟨g_r0, g_bh, g_bo, g_bu, g_bb, g_br⟩, ⟨u_r0_bh, u_r0_bo, u_r0_bu, u_r0_bb, u_r0_br, u_bh_bo, u_bh_bu, u_bh_bb, u_bh_br, u_bo_bu, u_bo_bb, u_bo_br, u_bu_bb, u_bu_br, u_bb_br⟩⟩ := id TB2
  refine Go.stp (fun t_ k_ => st2.trans k_) ?_
  show Go p.tables e below G (T2.setTop (mkF m 12 #[rv r0] []))
  refine zgoto X2 hx (pc' := 44) (hb hby d32_12) (by decide) (by decide) ?_
  refine zretV X2 hx hrt hlk (hb hby d32_44) rfl hG (by decide) (by decide) ?_
  exact ⟨rfl, N2, K2, bh, bo, bu, bb, br, ⟨tE2, tH2, t12, t22, t32, t42, t52, tS2, i12, i22, ⟨_, i32⟩, ⟨_, i42⟩, ⟨_, i52⟩, ⟨g_r0, g_bh, g_bo, g_bu, g_bb, g_br⟩, ⟨u_r0_bh, u_r0_bo, u_r0_bu, u_r0_bb, u_r0_br, u_bh_bo, u_bh_bu, u_bh_bb, u_bh_br, u_bo_bu, u_bo_bb, u_bo_br, u_bu_bb, u_bu_br, u_bb_br⟩⟩, sz_bh, sz_bo, sz_bu, sz_bb, sz_br⟩
theorem d32_15 : decode cn34 15 = .ok (.aload_n 0, 1) := by decide +kernel
theorem d32_16 : decode cn34 16 = .ok (.getfield 7, 3) := by decide +kernel
theorem d32_19 : decode cn34 19 = .ok (.iconst 1, 1) := by decide +kernel
theorem d32_20 : decode cn34 20 = .ok (.iadd, 1) := by decide +kernel
theorem d32_21 : decode cn34 21 = .ok (.iconst 4, 1) := by decide +kernel
theorem d32_22 : decode cn34 22 = .ok (.imul, 1) := by decide +kernel
theorem d32_23 : decode cn34 23 = .ok (.aload_n 0, 1) := by decide +kernel
theorem d32_24 : decode cn34 24 = .ok (.getfield 17, 3) := by decide +kernel
theorem d32_27 : decode cn34 27 = .ok (.arraylength, 1) := by decide +kernel
theorem d32_28 : decode cn34 28 = .ok (.iconst 3, 1) := by decide +kernel
theorem d32_29 : decode cn34 29 = .ok (.imul, 1) := by decide +kernel
theorem d32_30 : decode cn34 30 = .ok (.if_icmp .le 14, 3) := by decide +kernel
theorem ef_32_1 (m : MethodId) (r0 : Addr) : entryFrame m #[(.ref r0)] 1 = mkF m 0 #[rv r0] [] := by first | (simp [entryFrame, mkF, argsToLocals, Value.category, iv, rv, lv, un, sd]; done) | rfl
def Q32_1 (Z : State) (r0 : Addr) (hd : Addr) (F : Nat → Bool) (K : Nat → Int32) (ah : Addr) (ao : Addr) (au : Addr) (ab : Addr) (ar : Addr) (h0 : Heap) (n0 : Nat) (v : Option Value) (h : Heap) (L : List Loc) : Prop := v = none ∧ Fr n0 L ∧ h = h0
set_option maxRecDepth 65536 in
set_option maxHeartbeats 40000000 in
theorem rm32_1 (l : Launch) (Z : State) (a0 : Array Value) (hw : ∀ d ∈ tables_1, d.before a0 Z = true) (ws : List Jvm.Cond) (r0 : Addr) (hd : Addr) (F : Nat → Bool) (K : Nat → Int32) (ah : Addr) (ao : Addr) (au : Addr) (ab : Addr) (ar : Addr) (h0 : Heap) (n0 : Nat) (Z0 : n0 ≤ h0.size) (TB : Tb Z h0 n0 r0 hd 4 F K (1 : Int32) ah ao au ab ar) :
    Mzz l yn34 cn34 1 none ws (rk 4 5 40 67) #[(.ref r0)] Z h0 (Q32_1 Z r0 hd F K ah ao au ab ar h0 n0) := by
  refine Mzz.go (own := sn1) (nm := "grow") (L0 := #[rv r0]) (plainFor_of_name pn_29) rfl rfl (fun m => ef_32_1 m r0) ?_
  intro p e s m below meth c s₁ hx hby hml hown hnm X0 e0 hZ hrt hlk G hG
  have N0 := Fr.nil n0
  obtain ⟨tE, tH, t1, t2, t3, t4, t5, tS, i1, i2, ⟨fu, i3⟩, ⟨fb, i4⟩, ⟨fr, i5⟩, ⟨g_r0, g_ah, g_ao, g_au, g_ab, g_ar⟩, ⟨u_r0_ah, u_r0_ao, u_r0_au, u_r0_ab, u_r0_ar, u_ah_ao, u_ah_au, u_ah_ab, u_ah_ar, u_ao_au, u_ao_ab, u_ao_ar, u_au_ab, u_au_ar, u_ab_ar⟩⟩ := id TB
  show Go p.tables e below G (s₁.setTop (mkF m 0 #[rv r0] []))
  refine zaloadN X0 hx (hb hby d32_0) rfl rfl ?_
  refine zgetF X0 hx hZ hown (wm hw 229 rfl) e0 t2 (hb hby d32_1) (fun T1 X1 e1 => ?_)
  refine zifnonnullYes X1 hx (pc' := 15) (hb hby d32_4) (by decide) (by decide) ?_
  refine zaloadN X1 hx (hb hby d32_15) rfl rfl ?_
  refine zgetF X1 hx hZ hown (wm hw 266 rfl) e1 tS (hb hby d32_16) (fun T2 X2 e2 => ?_)
  refine ziconst X2 hx (hb hby d32_19) (z := (1 : Int32)) rfl ?_
  refine ziadd X2 hx (hb hby d32_20) ?_
  refine ziconst X2 hx (hb hby d32_21) (z := (4 : Int32)) rfl ?_
  refine zimul X2 hx (hb hby d32_22) ?_
  refine zaloadN X2 hx (hb hby d32_23) rfl rfl ?_
  refine zgetF X2 hx hZ hown (wm hw 229 rfl) e2 t2 (hb hby d32_24) (fun T3 X3 e3 => ?_)
  obtain ⟨cl4, Ar4, Sz4, -, -⟩ := id i2
  refine zlen X3 hx hZ e3 Ar4 Sz4 (z := (4 : Int32)) rfl (hb hby d32_27) ?_
  refine ziconst X3 hx (hb hby d32_28) (z := (3 : Int32)) rfl ?_
  refine zimul X3 hx (hb hby d32_29) ?_
  refine zicmpYes X3 hx (pc' := 44) (hb hby d32_30) (flt (by decide : ¬ (((4 : Int32) * (3 : Int32)) < (((1 : Int32) + (1 : Int32)) * (4 : Int32))))).2.2.2 (by decide) (by decide) ?_
  refine zretV X3 hx hrt hlk (hb hby d32_44) e3 hG (by decide) (by decide) ?_
  exact ⟨rfl, N0, rfl⟩
theorem ef_32_2 (m : MethodId) (r0 : Addr) : entryFrame m #[(.ref r0)] 1 = mkF m 0 #[rv r0] [] := by first | (simp [entryFrame, mkF, argsToLocals, Value.category, iv, rv, lv, un, sd]; done) | rfl
def Q32_2 (Z : State) (r0 : Addr) (hd : Addr) (F : Nat → Bool) (K : Nat → Int32) (ah : Addr) (ao : Addr) (au : Addr) (ab : Addr) (ar : Addr) (h0 : Heap) (n0 : Nat) (v : Option Value) (h : Heap) (L : List Loc) : Prop := v = none ∧ Fr n0 L ∧ h = h0
set_option maxRecDepth 65536 in
set_option maxHeartbeats 40000000 in
theorem rm32_2 (l : Launch) (Z : State) (a0 : Array Value) (hw : ∀ d ∈ tables_1, d.before a0 Z = true) (ws : List Jvm.Cond) (r0 : Addr) (hd : Addr) (F : Nat → Bool) (K : Nat → Int32) (ah : Addr) (ao : Addr) (au : Addr) (ab : Addr) (ar : Addr) (h0 : Heap) (n0 : Nat) (Z0 : n0 ≤ h0.size) (TB : Tb Z h0 n0 r0 hd 4 F K (2 : Int32) ah ao au ab ar) :
    Mzz l yn34 cn34 1 none ws (rk 4 5 40 67) #[(.ref r0)] Z h0 (Q32_2 Z r0 hd F K ah ao au ab ar h0 n0) := by
  refine Mzz.go (own := sn1) (nm := "grow") (L0 := #[rv r0]) (plainFor_of_name pn_29) rfl rfl (fun m => ef_32_2 m r0) ?_
  intro p e s m below meth c s₁ hx hby hml hown hnm X0 e0 hZ hrt hlk G hG
  have N0 := Fr.nil n0
  obtain ⟨tE, tH, t1, t2, t3, t4, t5, tS, i1, i2, ⟨fu, i3⟩, ⟨fb, i4⟩, ⟨fr, i5⟩, ⟨g_r0, g_ah, g_ao, g_au, g_ab, g_ar⟩, ⟨u_r0_ah, u_r0_ao, u_r0_au, u_r0_ab, u_r0_ar, u_ah_ao, u_ah_au, u_ah_ab, u_ah_ar, u_ao_au, u_ao_ab, u_ao_ar, u_au_ab, u_au_ar, u_ab_ar⟩⟩ := id TB
  show Go p.tables e below G (s₁.setTop (mkF m 0 #[rv r0] []))
  refine zaloadN X0 hx (hb hby d32_0) rfl rfl ?_
  refine zgetF X0 hx hZ hown (wm hw 229 rfl) e0 t2 (hb hby d32_1) (fun T1 X1 e1 => ?_)
  refine zifnonnullYes X1 hx (pc' := 15) (hb hby d32_4) (by decide) (by decide) ?_
  refine zaloadN X1 hx (hb hby d32_15) rfl rfl ?_
  refine zgetF X1 hx hZ hown (wm hw 266 rfl) e1 tS (hb hby d32_16) (fun T2 X2 e2 => ?_)
  refine ziconst X2 hx (hb hby d32_19) (z := (1 : Int32)) rfl ?_
  refine ziadd X2 hx (hb hby d32_20) ?_
  refine ziconst X2 hx (hb hby d32_21) (z := (4 : Int32)) rfl ?_
  refine zimul X2 hx (hb hby d32_22) ?_
  refine zaloadN X2 hx (hb hby d32_23) rfl rfl ?_
  refine zgetF X2 hx hZ hown (wm hw 229 rfl) e2 t2 (hb hby d32_24) (fun T3 X3 e3 => ?_)
  obtain ⟨cl4, Ar4, Sz4, -, -⟩ := id i2
  refine zlen X3 hx hZ e3 Ar4 Sz4 (z := (4 : Int32)) rfl (hb hby d32_27) ?_
  refine ziconst X3 hx (hb hby d32_28) (z := (3 : Int32)) rfl ?_
  refine zimul X3 hx (hb hby d32_29) ?_
  refine zicmpYes X3 hx (pc' := 44) (hb hby d32_30) (flt (by decide : ¬ (((4 : Int32) * (3 : Int32)) < (((2 : Int32) + (1 : Int32)) * (4 : Int32))))).2.2.2 (by decide) (by decide) ?_
  refine zretV X3 hx hrt hlk (hb hby d32_44) e3 hG (by decide) (by decide) ?_
  exact ⟨rfl, N0, rfl⟩
theorem ef_32_4 (m : MethodId) (r0 : Addr) : entryFrame m #[(.ref r0)] 1 = mkF m 0 #[rv r0] [] := by first | (simp [entryFrame, mkF, argsToLocals, Value.category, iv, rv, lv, un, sd]; done) | rfl
def Q32_4 (Z : State) (r0 : Addr) (hd : Addr) (F : Nat → Bool) (K : Nat → Int32) (ah : Addr) (ao : Addr) (au : Addr) (ab : Addr) (ar : Addr) (h0 : Heap) (n0 : Nat) (v : Option Value) (h : Heap) (L : List Loc) : Prop := v = none ∧ Fr n0 L ∧ h = h0
set_option maxRecDepth 65536 in
set_option maxHeartbeats 40000000 in
theorem rm32_4 (l : Launch) (Z : State) (a0 : Array Value) (hw : ∀ d ∈ tables_1, d.before a0 Z = true) (ws : List Jvm.Cond) (r0 : Addr) (hd : Addr) (F : Nat → Bool) (K : Nat → Int32) (ah : Addr) (ao : Addr) (au : Addr) (ab : Addr) (ar : Addr) (h0 : Heap) (n0 : Nat) (Z0 : n0 ≤ h0.size) (TB : Tb Z h0 n0 r0 hd 8 F K (4 : Int32) ah ao au ab ar) :
    Mzz l yn34 cn34 1 none ws (rk 4 5 40 67) #[(.ref r0)] Z h0 (Q32_4 Z r0 hd F K ah ao au ab ar h0 n0) := by
  refine Mzz.go (own := sn1) (nm := "grow") (L0 := #[rv r0]) (plainFor_of_name pn_29) rfl rfl (fun m => ef_32_4 m r0) ?_
  intro p e s m below meth c s₁ hx hby hml hown hnm X0 e0 hZ hrt hlk G hG
  have N0 := Fr.nil n0
  obtain ⟨tE, tH, t1, t2, t3, t4, t5, tS, i1, i2, ⟨fu, i3⟩, ⟨fb, i4⟩, ⟨fr, i5⟩, ⟨g_r0, g_ah, g_ao, g_au, g_ab, g_ar⟩, ⟨u_r0_ah, u_r0_ao, u_r0_au, u_r0_ab, u_r0_ar, u_ah_ao, u_ah_au, u_ah_ab, u_ah_ar, u_ao_au, u_ao_ab, u_ao_ar, u_au_ab, u_au_ar, u_ab_ar⟩⟩ := id TB
  show Go p.tables e below G (s₁.setTop (mkF m 0 #[rv r0] []))
  refine zaloadN X0 hx (hb hby d32_0) rfl rfl ?_
  refine zgetF X0 hx hZ hown (wm hw 229 rfl) e0 t2 (hb hby d32_1) (fun T1 X1 e1 => ?_)
  refine zifnonnullYes X1 hx (pc' := 15) (hb hby d32_4) (by decide) (by decide) ?_
  refine zaloadN X1 hx (hb hby d32_15) rfl rfl ?_
  refine zgetF X1 hx hZ hown (wm hw 266 rfl) e1 tS (hb hby d32_16) (fun T2 X2 e2 => ?_)
  refine ziconst X2 hx (hb hby d32_19) (z := (1 : Int32)) rfl ?_
  refine ziadd X2 hx (hb hby d32_20) ?_
  refine ziconst X2 hx (hb hby d32_21) (z := (4 : Int32)) rfl ?_
  refine zimul X2 hx (hb hby d32_22) ?_
  refine zaloadN X2 hx (hb hby d32_23) rfl rfl ?_
  refine zgetF X2 hx hZ hown (wm hw 229 rfl) e2 t2 (hb hby d32_24) (fun T3 X3 e3 => ?_)
  obtain ⟨cl4, Ar4, Sz4, -, -⟩ := id i2
  refine zlen X3 hx hZ e3 Ar4 Sz4 (z := (8 : Int32)) rfl (hb hby d32_27) ?_
  refine ziconst X3 hx (hb hby d32_28) (z := (3 : Int32)) rfl ?_
  refine zimul X3 hx (hb hby d32_29) ?_
  refine zicmpYes X3 hx (pc' := 44) (hb hby d32_30) (flt (by decide : ¬ (((8 : Int32) * (3 : Int32)) < (((4 : Int32) + (1 : Int32)) * (4 : Int32))))).2.2.2 (by decide) (by decide) ?_
  refine zretV X3 hx hrt hlk (hb hby d32_44) e3 hG (by decide) (by decide) ?_
  exact ⟨rfl, N0, rfl⟩
theorem d32_33 : decode cn34 33 = .ok (.aload_n 0, 1) := by decide +kernel
theorem d32_34 : decode cn34 34 = .ok (.aload_n 0, 1) := by decide +kernel
theorem d32_35 : decode cn34 35 = .ok (.getfield 17, 3) := by decide +kernel
theorem d32_38 : decode cn34 38 = .ok (.arraylength, 1) := by decide +kernel
theorem d32_39 : decode cn34 39 = .ok (.iconst 2, 1) := by decide +kernel
theorem d32_40 : decode cn34 40 = .ok (.imul, 1) := by decide +kernel
theorem d32_41 : decode cn34 41 = .ok (.invokevirtual 94, 3) := by decide +kernel
theorem ef_32_3 (m : MethodId) (r0 : Addr) : entryFrame m #[(.ref r0)] 1 = mkF m 0 #[rv r0] [] := by first | (simp [entryFrame, mkF, argsToLocals, Value.category, iv, rv, lv, un, sd]; done) | rfl
def Q32_3 (Z : State) (r0 : Addr) (hd : Addr) (F : Nat → Bool) (K : Nat → Int32) (ah : Addr) (ao : Addr) (au : Addr) (ab : Addr) (ar : Addr) (h0 : Heap) (n0 : Nat) (v : Option Value) (h : Heap) (L : List Loc) : Prop := v = none ∧ Fr n0 L ∧ Keep h0 h [r0] ∧ ∃ (F' : Nat → Bool) (K' : Nat → Int32) (bh bo bu bb br : Addr), Tb Z h n0 r0 hd 8 F' K' (3 : Int32) bh bo bu bb br ∧ h0.size ≤ bh ∧ h0.size ≤ bo ∧ h0.size ≤ bu ∧ h0.size ≤ bb ∧ h0.size ≤ br ∧ Rz own_P8 F K 4 F' K'
set_option maxRecDepth 65536 in
set_option maxHeartbeats 40000000 in
theorem rm32_3 (l : Launch) (Z : State) (a0 : Array Value) (hw : ∀ d ∈ tables_1, d.before a0 Z = true) (ws : List Jvm.Cond) (r0 : Addr) (hd : Addr) (F : Nat → Bool) (K : Nat → Int32) (ah : Addr) (ao : Addr) (au : Addr) (ab : Addr) (ar : Addr) (h0 : Heap) (n0 : Nat) (Z0 : n0 ≤ h0.size) (TB : Tb Z h0 n0 r0 hd 4 F K (3 : Int32) ah ao au ab ar) (hc : cntF F 4 < 8) :
    Mzz l yn34 cn34 1 none ws (rk 4 5 40 67) #[(.ref r0)] Z h0 (Q32_3 Z r0 hd F K ah ao au ab ar h0 n0) := by
  refine Mzz.go (own := sn1) (nm := "grow") (L0 := #[rv r0]) (plainFor_of_name pn_29) rfl rfl (fun m => ef_32_3 m r0) ?_
  intro p e s m below meth c s₁ hx hby hml hown hnm X0 e0 hZ hrt hlk G hG
  have N0 := Fr.nil n0
  have K0 := Keep.refl h0 [r0]
  obtain ⟨tE, tH, t1, t2, t3, t4, t5, tS, i1, i2, ⟨fu, i3⟩, ⟨fb, i4⟩, ⟨fr, i5⟩, ⟨g_r0, g_ah, g_ao, g_au, g_ab, g_ar⟩, ⟨u_r0_ah, u_r0_ao, u_r0_au, u_r0_ab, u_r0_ar, u_ah_ao, u_ah_au, u_ah_ab, u_ah_ar, u_ao_au, u_ao_ab, u_ao_ar, u_au_ab, u_au_ar, u_ab_ar⟩⟩ := id TB
  show Go p.tables e below G (s₁.setTop (mkF m 0 #[rv r0] []))
  refine zaloadN X0 hx (hb hby d32_0) rfl rfl ?_
  refine zgetF X0 hx hZ hown (wm hw 229 rfl) e0 t2 (hb hby d32_1) (fun T1 X1 e1 => ?_)
  refine zifnonnullYes X1 hx (pc' := 15) (hb hby d32_4) (by decide) (by decide) ?_
  refine zaloadN X1 hx (hb hby d32_15) rfl rfl ?_
  refine zgetF X1 hx hZ hown (wm hw 266 rfl) e1 tS (hb hby d32_16) (fun T2 X2 e2 => ?_)
  refine ziconst X2 hx (hb hby d32_19) (z := (1 : Int32)) rfl ?_
  refine ziadd X2 hx (hb hby d32_20) ?_
  refine ziconst X2 hx (hb hby d32_21) (z := (4 : Int32)) rfl ?_
  refine zimul X2 hx (hb hby d32_22) ?_
  refine zaloadN X2 hx (hb hby d32_23) rfl rfl ?_
  refine zgetF X2 hx hZ hown (wm hw 229 rfl) e2 t2 (hb hby d32_24) (fun T3 X3 e3 => ?_)
  obtain ⟨cl4, Ar4, Sz4, -, -⟩ := id i2
  refine zlen X3 hx hZ e3 Ar4 Sz4 (z := (4 : Int32)) rfl (hb hby d32_27) ?_
  refine ziconst X3 hx (hb hby d32_28) (z := (3 : Int32)) rfl ?_
  refine zimul X3 hx (hb hby d32_29) ?_
  refine zicmpNo X3 hx (hb hby d32_30) (tlt (by decide : ((4 : Int32) * (3 : Int32)) < (((3 : Int32) + (1 : Int32)) * (4 : Int32)))).2.2.2 ?_
  refine zaloadN X3 hx (hb hby d32_33) rfl rfl ?_
  refine zaloadN X3 hx (hb hby d32_34) rfl rfl ?_
  refine zgetF X3 hx hZ hown (wm hw 229 rfl) e3 t2 (hb hby d32_35) (fun T5 X5 e5 => ?_)
  obtain ⟨cl6, Ar6, Sz6, -, -⟩ := id i2
  refine zlen X5 hx hZ e5 Ar6 Sz6 (z := (4 : Int32)) rfl (hb hby d32_38) ?_
  refine ziconst X5 hx (hb hby d32_39) (z := (2 : Int32)) rfl ?_
  refine zimul X5 hx (hb hby d32_40) ?_
  rw [show ((4 : Int32) * (2 : Int32)) = (8 : Int32) by decide]
  show Go p.tables e below G (T5.setTop (mkF m 41 #[rv r0] [(.int (8 : Int32)), (.ref r0)]))
  obtain ⟨cq7, qq7, qq7'⟩ := tE.cell
  obtain ⟨_, _, ⟨T7, L7, k7, n7⟩, -, X7, ⟨Lc7, hQ7, l7, y7, z7⟩, st7⟩ := X5.privateBack hx (y := yn32) hown (mvT hZ (wm hw 288 rfl)) (mvT hZ (wm hw 289 rfl)) (sel_priv (mvT hZ (wm hw 214 rfl)) (Cond.privateMethod_at (mvP hZ (wm hw 290 rfl) (args := #[]))) (mvT hZ (wm hw 289 rfl)) (by decide)) (Cond.privateMethod_at (mvP hZ (wm hw 290 rfl) (args := #[]))) (mvT hZ (wm hw 291 rfl)) (by decide) (backOf (W := 0) (rm41_8 l Z a0 hw [] r0 hd F K (3 : Int32) ah ao au ab ar h0 n0 Z0 ⟨tE, tH, t1, t2, t3, t4, t5, tS, i1, i2, ⟨_, i3⟩, ⟨_, i4⟩, ⟨_, i5⟩, ⟨g_r0, g_ah, g_ao, g_au, g_ab, g_ar⟩, ⟨u_r0_ah, u_r0_ao, u_r0_au, u_r0_ab, u_r0_ar, u_ah_ao, u_ah_au, u_ah_ab, u_ah_ar, u_ao_au, u_ao_ab, u_ao_ar, u_au_ab, u_au_ar, u_ab_ar⟩⟩ hc) hZ (wm hw 291 rfl) (wm hw 215 rfl) (by decide) (by decide)) (g := (mkF m 41 #[rv r0] [(.int (8 : Int32)), (.ref r0)])) rfl (by rw [hml]; rfl) (Steps.refl _) (a := r0) (by rw [e5]; exact qq7) qq7' (argsL := [(.int (8 : Int32))]) (rest := []) (lenOf pd_20 rfl) rfl (by show 2 * 0 + _ ≤ _; exact Nat.le_of_eq rfl) (hb hby d32_41) (fun _ _ => ⟨rfl, e5, (by decide : 0 + 5 ≤ _), (by decide : 0 + 40 ≤ _)⟩)
  dsimp only [Pt.U, Pt.locs, Pt.cells, Pt.slots] at X7 l7 y7 z7 st7 hQ7
  subst l7 y7 z7
  obtain ⟨e07, e17, e27, F', K', bh, bo, bu, bb, br, e37, s1, s2, s3, s4, s5, rz⟩ := hQ7
  replace hQ7 := And.intro e07 (And.intro e17 (And.intro e27 (⟨bh, bo, bu, bb, br, e37, s1, s2, s3, s4, s5⟩ : ∃ bh bo bu bb br : Addr, Tb Z T7.heap n0 r0 hd 8 F' K' (3 : Int32) bh bo bu bb br ∧ h0.size ≤ bh ∧ h0.size ≤ bo ∧ h0.size ≤ bu ∧ h0.size ≤ bb ∧ h0.size ≤ br)))
  obtain ⟨rfl, Nq7, Kc7, bh, bo, bu, bb, br, TB7, sz_bh, sz_bo, sz_bu, sz_bb, sz_br⟩ := hQ7
  have N7 := Fr.app N0 Nq7
  have u_ah_bh : ah ≠ bh := Nat.ne_of_lt (Nat.lt_of_lt_of_le i1.lt sz_bh)
  have u_ah_bo : ah ≠ bo := Nat.ne_of_lt (Nat.lt_of_lt_of_le i1.lt sz_bo)
  have u_ah_bu : ah ≠ bu := Nat.ne_of_lt (Nat.lt_of_lt_of_le i1.lt sz_bu)
  have u_ah_bb : ah ≠ bb := Nat.ne_of_lt (Nat.lt_of_lt_of_le i1.lt sz_bb)
  have u_ah_br : ah ≠ br := Nat.ne_of_lt (Nat.lt_of_lt_of_le i1.lt sz_br)
  have u_ao_bh : ao ≠ bh := Nat.ne_of_lt (Nat.lt_of_lt_of_le i2.lt sz_bh)
  have u_ao_bo : ao ≠ bo := Nat.ne_of_lt (Nat.lt_of_lt_of_le i2.lt sz_bo)
  have u_ao_bu : ao ≠ bu := Nat.ne_of_lt (Nat.lt_of_lt_of_le i2.lt sz_bu)
  have u_ao_bb : ao ≠ bb := Nat.ne_of_lt (Nat.lt_of_lt_of_le i2.lt sz_bb)
  have u_ao_br : ao ≠ br := Nat.ne_of_lt (Nat.lt_of_lt_of_le i2.lt sz_br)
  have u_au_bh : au ≠ bh := Nat.ne_of_lt (Nat.lt_of_lt_of_le i3.lt sz_bh)
  have u_au_bo : au ≠ bo := Nat.ne_of_lt (Nat.lt_of_lt_of_le i3.lt sz_bo)
  have u_au_bu : au ≠ bu := Nat.ne_of_lt (Nat.lt_of_lt_of_le i3.lt sz_bu)
  have u_au_bb : au ≠ bb := Nat.ne_of_lt (Nat.lt_of_lt_of_le i3.lt sz_bb)
  have u_au_br : au ≠ br := Nat.ne_of_lt (Nat.lt_of_lt_of_le i3.lt sz_br)
  have u_ab_bh : ab ≠ bh := Nat.ne_of_lt (Nat.lt_of_lt_of_le i4.lt sz_bh)
  have u_ab_bo : ab ≠ bo := Nat.ne_of_lt (Nat.lt_of_lt_of_le i4.lt sz_bo)
  have u_ab_bu : ab ≠ bu := Nat.ne_of_lt (Nat.lt_of_lt_of_le i4.lt sz_bu)
  have u_ab_bb : ab ≠ bb := Nat.ne_of_lt (Nat.lt_of_lt_of_le i4.lt sz_bb)
  have u_ab_br : ab ≠ br := Nat.ne_of_lt (Nat.lt_of_lt_of_le i4.lt sz_br)
  have u_ar_bh : ar ≠ bh := Nat.ne_of_lt (Nat.lt_of_lt_of_le i5.lt sz_bh)
  have u_ar_bo : ar ≠ bo := Nat.ne_of_lt (Nat.lt_of_lt_of_le i5.lt sz_bo)
  have u_ar_bu : ar ≠ bu := Nat.ne_of_lt (Nat.lt_of_lt_of_le i5.lt sz_bu)
  have u_ar_bb : ar ≠ bb := Nat.ne_of_lt (Nat.lt_of_lt_of_le i5.lt sz_bb)
  have u_ar_br : ar ≠ br := Nat.ne_of_lt (Nat.lt_of_lt_of_le i5.lt sz_br)
  have f8 := tE.keep Kc7
  have f9 := tH.keep Kc7
  have f10 := i1.keep Kc7 (fun q => by simp only [List.mem_cons, List.not_mem_nil, or_false] at q; exact (Ne.symm u_r0_ah) q)
  have f11 := i2.keep Kc7 (fun q => by simp only [List.mem_cons, List.not_mem_nil, or_false] at q; exact (Ne.symm u_r0_ao) q)
  have f12 := i3.keep Kc7 (fun q => by simp only [List.mem_cons, List.not_mem_nil, or_false] at q; exact (Ne.symm u_r0_au) q)
  have f13 := i4.keep Kc7 (fun q => by simp only [List.mem_cons, List.not_mem_nil, or_false] at q; exact (Ne.symm u_r0_ab) q)
  have f14 := i5.keep Kc7 (fun q => by simp only [List.mem_cons, List.not_mem_nil, or_false] at q; exact (Ne.symm u_r0_ar) q)
  have Z7 : n0 ≤ T7.heap.size := Nat.le_trans Z0 Kc7.1
  have K7 := K0.trans Kc7 (fun x q => by
      simp only [List.mem_cons, List.not_mem_nil, or_false] at q
      rw [q]; exact (Or.inl (List.mem_of_getElem? (i := 0) rfl)))
  obtain ⟨tE7, tH7, t17, t27, t37, t47, t57, tS7, i17, i27, ⟨fu7, i37⟩, ⟨fb7, i47⟩, ⟨fr7, i57⟩, ⟨g_r0, g_bh, g_bo, g_bu, g_bb, g_br⟩, ⟨u_r0_bh, u_r0_bo, u_r0_bu, u_r0_bb, u_r0_br, u_bh_bo, u_bh_bu, u_bh_bb, u_bh_br, u_bo_bu, u_bo_bb, u_bo_br, u_bu_bb, u_bu_br, u_bb_br⟩⟩ := id TB7
  refine Go.stp (fun t_ k_ => st7.trans k_) ?_
  show Go p.tables e below G (T7.setTop (mkF m 44 #[rv r0] []))
  refine zretV X7 hx hrt hlk (hb hby d32_44) rfl hG (by decide) (by decide) ?_
  exact ⟨rfl, N7, K7, _, _, bh, bo, bu, bb, br, ⟨tE7, tH7, t17, t27, t37, t47, t57, tS7, i17, i27, ⟨_, i37⟩, ⟨_, i47⟩, ⟨_, i57⟩, ⟨g_r0, g_bh, g_bo, g_bu, g_bb, g_br⟩, ⟨u_r0_bh, u_r0_bo, u_r0_bu, u_r0_bb, u_r0_br, u_bh_bo, u_bh_bu, u_bh_bb, u_bh_br, u_bo_bu, u_bo_bb, u_bo_br, u_bu_bb, u_bu_br, u_bb_br⟩⟩, sz_bh, sz_bo, sz_bu, sz_bb, sz_br, rz⟩
def QA (Z : State) (r0 hd : Addr) (x : Int32) (m : Int32 → Bool) (n : Nat) (h0 : Heap) (n0 : Nat) (v : Option Value) (h : Heap) (L : List Loc) : Prop := v = none ∧ Fr n0 L ∧ ∃ ws : List Addr, Keep h0 h ws ∧ Exa Z h hd sn0 ∧ Tab Z h n0 r0 hd (ins m x) (if m x = true then n else n + 1)
theorem d30_0 : decode cn35 0 = .ok (.aload_n 0, 1) := by decide +kernel
theorem d30_1 : decode cn35 1 = .ok (.iload_n 1, 1) := by decide +kernel
theorem d30_2 : decode cn35 2 = .ok (.invokevirtual 13, 3) := by decide +kernel
theorem d30_5 : decode cn35 5 = .ok (.istore 5, 2) := by decide +kernel
theorem d30_7 : decode cn35 7 = .ok (.iload 5, 2) := by decide +kernel
theorem d30_9 : decode cn35 9 = .ok (.ifCond .ge 28, 3) := by decide +kernel
theorem d30_12 : decode cn35 12 = .ok (.aload_n 0, 1) := by decide +kernel
theorem d30_13 : decode cn35 13 = .ok (.invokevirtual 21, 3) := by decide +kernel
theorem d30_16 : decode cn35 16 = .ok (.aload_n 0, 1) := by decide +kernel
theorem d30_17 : decode cn35 17 = .ok (.iload_n 1, 1) := by decide +kernel
theorem d30_18 : decode cn35 18 = .ok (.aload_n 2, 1) := by decide +kernel
theorem d30_19 : decode cn35 19 = .ok (.iconst 0, 1) := by decide +kernel
theorem d30_20 : decode cn35 20 = .ok (.lconst 0, 1) := by decide +kernel
theorem d30_21 : decode cn35 21 = .ok (.lload_n 3, 1) := by decide +kernel
theorem d30_22 : decode cn35 22 = .ok (.invokevirtual 24, 3) := by decide +kernel
theorem d30_25 : decode cn35 25 = .ok (.istore 5, 2) := by decide +kernel
theorem d30_27 : decode cn35 27 = .ok (.aload_n 0, 1) := by decide +kernel
theorem d30_28 : decode cn35 28 = .ok (.dup, 1) := by decide +kernel
theorem d30_29 : decode cn35 29 = .ok (.getfield 7, 3) := by decide +kernel
theorem d30_32 : decode cn35 32 = .ok (.iconst 1, 1) := by decide +kernel
theorem d30_33 : decode cn35 33 = .ok (.iadd, 1) := by decide +kernel
theorem d30_34 : decode cn35 34 = .ok (.putfield 7, 3) := by decide +kernel
theorem d30_37 : decode cn35 37 = .ok (.aload_n 0, 1) := by decide +kernel
theorem d30_38 : decode cn35 38 = .ok (.getfield 28, 3) := by decide +kernel
theorem d30_41 : decode cn35 41 = .ok (.iload 5, 2) := by decide +kernel
theorem d30_43 : decode cn35 43 = .ok (.dup2, 1) := by decide +kernel
theorem d30_44 : decode cn35 44 = .ok (.iaload, 1) := by decide +kernel
theorem d30_45 : decode cn35 45 = .ok (.iconst 1, 1) := by decide +kernel
theorem d30_46 : decode cn35 46 = .ok (.iadd, 1) := by decide +kernel
theorem d30_47 : decode cn35 47 = .ok (.iastore, 1) := by decide +kernel
theorem d30_48 : decode cn35 48 = .ok (.return_, 1) := by decide +kernel
theorem ef_30_0 (m : MethodId) (r0 : Addr) (p1 : Int32) (hd : Addr) (q3 : Int64) : entryFrame m #[(.ref r0), (.int p1), (.ref hd), (.long q3)] 6 = mkF m 0 #[rv r0, iv p1, rv hd, lv q3, sd, un] [] := by first | (simp [entryFrame, mkF, argsToLocals, Value.category, iv, rv, lv, un, sd]; done) | rfl
set_option maxRecDepth 65536 in
set_option maxHeartbeats 40000000 in
theorem rm30_0 (l : Launch) (Z : State) (a0 : Array Value) (hw : ∀ d ∈ tables_1, d.before a0 Z = true) (ws : List Jvm.Cond) (r0 : Addr) (p1 : Int32) (hd : Addr) (q3 : Int64) (h0 : Heap) (n0 : Nat) (Z0 : n0 ≤ h0.size) (T0h : T0 Z h0 n0 r0) (E_hd : Exa Z h0 hd sn0) :
    Mzz l yn35 cn35 6 none ws (rk 5 5 40 79) #[(.ref r0), (.int p1), (.ref hd), (.long q3)] Z h0 (QA Z r0 hd p1 (fun _ => false) 0 h0 n0) := by
  refine Mzz.go (own := sn1) (nm := "add") (L0 := #[rv r0, iv p1, rv hd, lv q3, sd, un]) (plainFor_of_name pn_29) rfl rfl (fun m => ef_30_0 m r0 p1 hd q3) ?_
  intro p e s m below meth c s₁ hx hby hml hown hnm X0 e0 hZ hrt hlk G hG
  have N0 := Fr.nil n0
  have K0 := Keep.refl h0 [r0]
  obtain ⟨tE, t1, t2, t3, t4, t5, tS, g_r0⟩ := T0h
  show Go p.tables e below G (s₁.setTop (mkF m 0 #[rv r0, iv p1, rv hd, lv q3, sd, un] []))
  refine zaloadN X0 hx (hb hby d30_0) rfl rfl ?_
  refine ziloadN X0 hx (hb hby d30_1) rfl ?_
  obtain ⟨cq1, qq1, qq1'⟩ := tE.cell
  obtain ⟨_, _, ⟨T1, L1, k1, n1⟩, -, X1, ⟨Lc1, hQ1, l1, y1, z1⟩, st1⟩ := X0.privateBack hx (y := yn29) hown (mvT hZ (wm hw 225 rfl)) (mvT hZ (wm hw 226 rfl)) (sel_priv (mvT hZ (wm hw 214 rfl)) (Cond.privateMethod_at (mvP hZ (wm hw 227 rfl) (args := #[]))) (mvT hZ (wm hw 226 rfl)) (by decide)) (Cond.privateMethod_at (mvP hZ (wm hw 227 rfl) (args := #[]))) (mvT hZ (wm hw 228 rfl)) (by decide) (backOf (W := 0) (rm31_0 l Z a0 hw [] r0 p1 h0 n0 Z0 t2) hZ (wm hw 228 rfl) (wm hw 215 rfl) (by decide) (by decide)) (g := (mkF m 2 #[rv r0, iv p1, rv hd, lv q3, sd, un] [(.int p1), (.ref r0)])) rfl (by rw [hml]; rfl) (Steps.refl _) (a := r0) (by rw [e0]; exact qq1) qq1' (argsL := [(.int p1)]) (rest := []) (lenOf pd_19 rfl) rfl (by show 2 * 0 + _ ≤ _; exact Nat.le_of_eq rfl) (hb hby d30_2) (fun _ _ => ⟨rfl, e0, (by decide : 0 + 0 ≤ _), (by decide : 0 + 0 ≤ _)⟩)
  dsimp only [Pt.U, Pt.locs, Pt.cells, Pt.slots] at X1 l1 y1 z1 st1 hQ1
  subst l1 y1 z1
  obtain ⟨rfl, Nq1, e1⟩ := hQ1
  have N1 := Fr.app N0 Nq1
  refine Go.stp (fun t_ k_ => st1.trans k_) ?_
  show Go p.tables e below G (T1.setTop (mkF m 5 #[rv r0, iv p1, rv hd, lv q3, sd, un] [(.int (-1 : Int32))]))
  refine zistore X1 hx (l' := #[rv r0, iv p1, rv hd, lv q3, sd, iv (-1 : Int32)]) (hb hby d30_5) rfl ?_
  refine ziload X1 hx (hb hby d30_7) rfl ?_
  refine zifNo X1 hx (hb hby d30_9) ((if0 _ _).trans (tlt (by decide : (-1 : Int32) < (0 : Int32))).2.1) ?_
  refine zaloadN X1 hx (hb hby d30_12) rfl rfl ?_
  obtain ⟨cq2, qq2, qq2'⟩ := tE.cell
  obtain ⟨_, _, ⟨T2, L2, k2, n2⟩, -, X2, ⟨Lc2, hQ2, l2, y2, z2⟩, st2⟩ := X1.privateBack hx (y := yn34) hown (mvT hZ (wm hw 231 rfl)) (mvT hZ (wm hw 232 rfl)) (sel_priv (mvT hZ (wm hw 214 rfl)) (Cond.privateMethod_at (mvP hZ (wm hw 233 rfl) (args := #[]))) (mvT hZ (wm hw 232 rfl)) (by decide)) (Cond.privateMethod_at (mvP hZ (wm hw 233 rfl) (args := #[]))) (mvT hZ (wm hw 234 rfl)) (by decide) (backOf (W := 0) (rm32_0 l Z a0 hw [] r0 hd h0 n0 Z0 ⟨tE, t1, t2, t3, t4, t5, tS, g_r0⟩ E_hd) hZ (wm hw 234 rfl) (wm hw 215 rfl) (by decide) (by decide)) (g := (mkF m 13 #[rv r0, iv p1, rv hd, lv q3, sd, iv (-1 : Int32)] [(.ref r0)])) rfl (by rw [hml]; rfl) (Steps.refl _) (a := r0) (by rw [e1]; exact qq2) qq2' (argsL := []) (rest := []) (lenOf pd_0 rfl) rfl (by show 2 * 0 + _ ≤ _; exact Nat.le_of_eq rfl) (hb hby d30_13) (fun _ _ => ⟨rfl, e1, (by decide : 0 + 5 ≤ _), (by decide : 0 + 40 ≤ _)⟩)
  dsimp only [Pt.U, Pt.locs, Pt.cells, Pt.slots] at X2 l2 y2 z2 st2 hQ2
  subst l2 y2 z2
  obtain ⟨rfl, Nq2, Kc2, bh, bo, bu, bb, br, TB2, sz_bh, sz_bo, sz_bu, sz_bb, sz_br⟩ := hQ2
  have N2 := Fr.app N1 Nq2
  have f3 := tE.keep Kc2
  have f4 := E_hd.keep Kc2
  have Z2 : n0 ≤ T2.heap.size := Nat.le_trans Z0 Kc2.1
  have K2 := K0.trans Kc2 (fun x q => by
      simp only [List.mem_cons, List.not_mem_nil, or_false] at q
      rw [q]; exact (Or.inl (List.mem_of_getElem? (i := 0) rfl)))
  obtain ⟨tE2, tH2, t12, t22, t32, t42, t52, tS2, i12, i22, ⟨fu2, i32⟩, ⟨fb2, i42⟩, ⟨fr2, i52⟩, ⟨g_r0, g_bh, g_bo, g_bu, g_bb, g_br⟩, ⟨u_r0_bh, u_r0_bo, u_r0_bu, u_r0_bb, u_r0_br, u_bh_bo, u_bh_bu, u_bh_bb, u_bh_br, u_bo_bu, u_bo_bb, u_bo_br, u_bu_bb, u_bu_br, u_bb_br⟩⟩ := id TB2
  refine Go.stp (fun t_ k_ => st2.trans k_) ?_
  show Go p.tables e below G (T2.setTop (mkF m 16 #[rv r0, iv p1, rv hd, lv q3, sd, iv (-1 : Int32)] []))
  refine zaloadN X2 hx (hb hby d30_16) rfl rfl ?_
  refine ziloadN X2 hx (hb hby d30_17) rfl ?_
  refine zaloadN X2 hx (hb hby d30_18) rfl rfl ?_
  refine ziconst X2 hx (hb hby d30_19) (z := (0 : Int32)) rfl ?_
  refine zlconst X2 hx (hb hby d30_20) (z := (0 : Int64)) rfl ?_
  refine zlloadN X2 hx (hb hby d30_21) rfl ?_
  have hrep := reph_nil 4 own_P4 (fun _ => (0 : Int32)) (by decide)
  obtain ⟨cq5, qq5, qq5'⟩ := tE2.cell
  obtain ⟨_, _, ⟨T5, L5, k5, n5⟩, -, X5, ⟨Lc5, hQ5, l5, y5, z5⟩, st5⟩ := X2.privateBack hx (y := yn31) hown (mvT hZ (wm hw 251 rfl)) (mvT hZ (wm hw 252 rfl)) (sel_priv (mvT hZ (wm hw 214 rfl)) (Cond.privateMethod_at (mvP hZ (wm hw 253 rfl) (args := #[]))) (mvT hZ (wm hw 252 rfl)) (by decide)) (Cond.privateMethod_at (mvP hZ (wm hw 253 rfl) (args := #[]))) (mvT hZ (wm hw 254 rfl)) (by decide) (backOf (W := 0) (rm34_4 l Z a0 hw [] r0 p1 hd (0 : Int32) (0 : Int64) q3 (fun _ => false) (fun _ => (0 : Int32)) (0 : Int32) bh bo bu bb br 0 T2.heap n0 Z2 ⟨tE2, tH2, t12, t22, t32, t42, t52, tS2, i12, i22, ⟨_, i32⟩, ⟨_, i42⟩, ⟨_, i52⟩, ⟨g_r0, g_bh, g_bo, g_bu, g_bb, g_br⟩, ⟨u_r0_bh, u_r0_bo, u_r0_bu, u_r0_bb, u_r0_br, u_bh_bo, u_bh_bu, u_bh_bb, u_bh_br, u_bo_bu, u_bo_bb, u_bo_br, u_bu_bb, u_bu_br, u_bb_br⟩⟩ (fun u hu => absurd hu (Nat.not_lt_zero _)) rfl) hZ (wm hw 254 rfl) (wm hw 215 rfl) (by decide) (by decide)) (g := (mkF m 22 #[rv r0, iv p1, rv hd, lv q3, sd, iv (-1 : Int32)] [(.long q3), (.long (0 : Int64)), (.int (0 : Int32)), (.ref hd), (.int p1), (.ref r0)])) rfl (by rw [hml]; rfl) (Steps.refl _) (a := r0) qq5 qq5' (argsL := [(.int p1), (.ref hd), (.int (0 : Int32)), (.long (0 : Int64)), (.long q3)]) (rest := []) (lenOf pd_21 rfl) rfl (by show 2 * 0 + _ ≤ _; exact Nat.le_of_eq rfl) (hb hby d30_22) (fun _ _ => ⟨rfl, rfl, (by decide : 5 + 0 ≤ _), (by decide : 40 + 0 ≤ _)⟩)
  dsimp only [Pt.U, Pt.locs, Pt.cells, Pt.slots] at X5 l5 y5 z5 st5 hQ5
  subst l5 y5 z5
  obtain ⟨rfl, Nq5, Kc5, TB5⟩ := hQ5
  have N5 := Fr.app N2 Nq5
  have f6 := tE2.keep Kc5
  have f7 := tH2.keep Kc5
  have f8 := t12.keep Kc5 (fun q => by simp only [List.mem_cons, List.not_mem_nil, or_false] at q; exact q.elim (fun q => u_r0_bh q) (fun q => q.elim (fun q => u_r0_bo q) (fun q => q.elim (fun q => u_r0_bu q) (fun q => q.elim (fun q => u_r0_bb q) (fun q => u_r0_br q)))))
  have f9 := t22.keep Kc5 (fun q => by simp only [List.mem_cons, List.not_mem_nil, or_false] at q; exact q.elim (fun q => u_r0_bh q) (fun q => q.elim (fun q => u_r0_bo q) (fun q => q.elim (fun q => u_r0_bu q) (fun q => q.elim (fun q => u_r0_bb q) (fun q => u_r0_br q)))))
  have f10 := t32.keep Kc5 (fun q => by simp only [List.mem_cons, List.not_mem_nil, or_false] at q; exact q.elim (fun q => u_r0_bh q) (fun q => q.elim (fun q => u_r0_bo q) (fun q => q.elim (fun q => u_r0_bu q) (fun q => q.elim (fun q => u_r0_bb q) (fun q => u_r0_br q)))))
  have f11 := t42.keep Kc5 (fun q => by simp only [List.mem_cons, List.not_mem_nil, or_false] at q; exact q.elim (fun q => u_r0_bh q) (fun q => q.elim (fun q => u_r0_bo q) (fun q => q.elim (fun q => u_r0_bu q) (fun q => q.elim (fun q => u_r0_bb q) (fun q => u_r0_br q)))))
  have f12 := t52.keep Kc5 (fun q => by simp only [List.mem_cons, List.not_mem_nil, or_false] at q; exact q.elim (fun q => u_r0_bh q) (fun q => q.elim (fun q => u_r0_bo q) (fun q => q.elim (fun q => u_r0_bu q) (fun q => q.elim (fun q => u_r0_bb q) (fun q => u_r0_br q)))))
  have f13 := tS2.keep Kc5 (fun q => by simp only [List.mem_cons, List.not_mem_nil, or_false] at q; exact q.elim (fun q => u_r0_bh q) (fun q => q.elim (fun q => u_r0_bo q) (fun q => q.elim (fun q => u_r0_bu q) (fun q => q.elim (fun q => u_r0_bb q) (fun q => u_r0_br q)))))
  have Z5 : n0 ≤ T5.heap.size := Nat.le_trans Z2 Kc5.1
  have K5 := K2.trans Kc5 (fun x q => by
      simp only [List.mem_cons, List.not_mem_nil, or_false] at q
      rcases q with rfl | rfl | rfl | rfl | rfl
      · exact (Or.inr sz_bh)
      · exact (Or.inr sz_bo)
      · exact (Or.inr sz_bu)
      · exact (Or.inr sz_bb)
      · exact (Or.inr sz_br))
  obtain ⟨tE5, tH5, t15, t25, t35, t45, t55, tS5, i15, i25, ⟨fu5, i35⟩, ⟨fb5, i45⟩, ⟨fr5, i55⟩, -, -⟩ := id TB5
  refine Go.stp (fun t_ k_ => st5.trans k_) ?_
  show Go p.tables e below G (T5.setTop (mkF m 25 #[rv r0, iv p1, rv hd, lv q3, sd, iv (-1 : Int32)] [(.int (own_it (own_hm4 p1) ((4 : Int32) - (1 : Int32)) 0))]))
  refine zistore X5 hx (l' := #[rv r0, iv p1, rv hd, lv q3, sd, iv (own_it (own_hm4 p1) ((4 : Int32) - (1 : Int32)) 0)]) (hb hby d30_25) rfl ?_
  refine zaloadN X5 hx (hb hby d30_27) rfl rfl ?_
  refine zdup X5 hx (hb hby d30_28) rfl ?_
  refine zgetF X5 hx hZ hown (wm hw 266 rfl) rfl tS5 (hb hby d30_29) (fun T14 X14 e14 => ?_)
  refine ziconst X14 hx (hb hby d30_32) (z := (1 : Int32)) rfl ?_
  refine ziadd X14 hx (hb hby d30_33) ?_
  refine zputF X14 hx hZ hown (wm hw 266 rfl) e14 tS5 tE5 (Or.inl (wm hw 267 rfl)) (wm hw 214 rfl) (ty := .int) (by decide) rfl rfl (hb hby d30_34) (fun T15 h15 X15 e15 W15 => ?_)
  have f16 := tS5.same W15
  have f17 := tE5.wr W15
  have f18 := tH5.wr W15
  have f19 := t15.other W15 (Or.inr (slot_ne (Or.inl (wm hw 241 rfl)) (Or.inl (wm hw 267 rfl)) (by decide) (t := (.array .int)) (t' := .int) (by decide) (by decide)))
  have f20 := t25.other W15 (Or.inr (slot_ne (Or.inl (wm hw 230 rfl)) (Or.inl (wm hw 267 rfl)) (by decide) (t := (.array (.object sn0))) (t' := .int) (by decide) (by decide)))
  have f21 := t35.other W15 (Or.inr (slot_ne (Or.inl (wm hw 245 rfl)) (Or.inl (wm hw 267 rfl)) (by decide) (t := (.array .int)) (t' := .int) (by decide) (by decide)))
  have f22 := t45.other W15 (Or.inr (slot_ne (Or.inl (wm hw 248 rfl)) (Or.inl (wm hw 267 rfl)) (by decide) (t := (.array .long)) (t' := .int) (by decide) (by decide)))
  have f23 := t55.other W15 (Or.inr (slot_ne (Or.inl (wm hw 250 rfl)) (Or.inl (wm hw 267 rfl)) (by decide) (t := (.array .long)) (t' := .int) (by decide) (by decide)))
  have f24 := i15.other W15 (Ne.symm u_r0_bh)
  have f25 := i25.other W15 (Ne.symm u_r0_bo)
  have f26 := i35.other W15 (Ne.symm u_r0_bu)
  have f27 := i45.other W15 (Ne.symm u_r0_bb)
  have f28 := i55.other W15 (Ne.symm u_r0_br)
  have N15 := Fr.snoc X15 N5 g_r0
  have K15 := K5.wr W15 (Or.inl (List.mem_of_getElem? (i := 0) rfl))
  have Z15 := Nat.le_trans Z5 (Keep.of_wr W15).1
  have hz37 : Fld Z h15 r0 sn1 "size" "I" (.int (1 : Int32)) := by
    have q := f16
    rw [show ((0 : Int32) + (1 : Int32)) = (1 : Int32) by decide] at q
    exact q
  refine zaloadN X15 hx (hb hby d30_37) rfl rfl ?_
  refine zgetF X15 hx hZ hown (wm hw 244 rfl) e15 f21 (hb hby d30_38) (fun T29 X29 e29 => ?_)
  refine ziload X29 hx (hb hby d30_41) rfl ?_
  show Go p.tables e below G (T29.setTop (mkF m 43 #[rv r0, iv p1, rv hd, lv q3, sd, iv (own_it (own_hm4 p1) ((4 : Int32) - (1 : Int32)) 0)] [(.int (own_it (own_hm4 p1) ((4 : Int32) - (1 : Int32)) 0)), (.ref bu)]))
  refine Go.stp (F' := T29.setTop (mkF m 44 #[rv r0, iv p1, rv hd, lv q3, sd, iv (own_it (own_hm4 p1) ((4 : Int32) - (1 : Int32)) 0)] [(.int (own_it (own_hm4 p1) ((4 : Int32) - (1 : Int32)) 0)), (.ref bu), (.int (own_it (own_hm4 p1) ((4 : Int32) - (1 : Int32)) 0)), (.ref bu)])) (fun t_ k_ => by jvm_step X29.here [X29.here.top, hx, (hb hby d30_43), Value.category]; exact k_) ?_
  refine zial X29 hx hZ e29 f26 (own_tb4 p1 0) (hb hby d30_44) ?_
  refine ziconst X29 hx (hb hby d30_45) (z := (1 : Int32)) rfl ?_
  refine ziadd X29 hx (hb hby d30_46) ?_
  refine zias X29 hx hZ e29 f26 (own_tb4 p1 0) (hb hby d30_47) (fun T30 h30 X30 e30 W30 f31 => ?_)
  have f32 := f17.wr W30
  have f33 := f18.wr W30
  have f34 := f19.other W30 (Or.inl u_r0_bu)
  have f35 := f20.other W30 (Or.inl u_r0_bu)
  have f36 := f21.other W30 (Or.inl u_r0_bu)
  have f37 := f22.other W30 (Or.inl u_r0_bu)
  have f38 := f23.other W30 (Or.inl u_r0_bu)
  have f39 := f24.other W30 u_bh_bu
  have f40 := f25.other W30 u_bo_bu
  have f41 := f27.other W30 (Ne.symm u_bu_bb)
  have f42 := f28.other W30 (Ne.symm u_bu_br)
  have f43 := hz37.other W30 (Or.inl u_r0_bu)
  have N30 := Fr.snoc X30 N15 g_bu
  have K30 := K15.wr W30 (Or.inr sz_bu)
  have Z30 := Nat.le_trans Z15 (Keep.of_wr W30).1
  refine zretV X30 hx hrt hlk (hb hby d30_48) e30 hG (by decide) (by decide) ?_
  refine ⟨rfl, N30, _, K30, f33, ?_⟩
  rw [if_neg (by rw [show (fun _ => false : Int32 → Bool) p1 = false from rfl]; decide)]
  refine Or.inr (Or.inl ⟨by decide, by decide, _, _, _, bh, bo, bu, bb, br, (reph_add hrep own_Pl4 own_Pi4 (by decide) (fun u hu => absurd hu (Nat.not_lt_zero _)) rfl (by decide) rfl), (by simp), ?_⟩)
  rw [show own_i (0 + 1) = (1 : Int32) by decide]
  exact ⟨f32, f33, f34, f35, f36, f37, f38, f43, f39, f40, ⟨_, f31⟩, ⟨_, f41⟩, ⟨_, f42⟩, ⟨g_r0, g_bh, g_bo, g_bu, g_bb, g_br⟩, ⟨u_r0_bh, u_r0_bo, u_r0_bu, u_r0_bb, u_r0_br, u_bh_bo, u_bh_bu, u_bh_bb, u_bh_br, u_bo_bu, u_bo_bb, u_bo_br, u_bu_bb, u_bu_br, u_bb_br⟩⟩
theorem ef_30_1 (m : MethodId) (r0 : Addr) (p1 : Int32) (hd : Addr) (q3 : Int64) : entryFrame m #[(.ref r0), (.int p1), (.ref hd), (.long q3)] 6 = mkF m 0 #[rv r0, iv p1, rv hd, lv q3, sd, un] [] := by first | (simp [entryFrame, mkF, argsToLocals, Value.category, iv, rv, lv, un, sd]; done) | rfl
set_option maxRecDepth 65536 in
set_option maxHeartbeats 40000000 in
theorem rm30_1 (l : Launch) (Z : State) (a0 : Array Value) (hw : ∀ d ∈ tables_1, d.before a0 Z = true) (ws : List Jvm.Cond) (r0 : Addr) (p1 : Int32) (hd : Addr) (q3 : Int64) (F : Nat → Bool) (K : Nat → Int32) (ah : Addr) (ao : Addr) (au : Addr) (ab : Addr) (ar : Addr) (mp : Int32 → Bool) (Ls : List Nat) (h0 : Heap) (n0 : Nat) (Z0 : n0 ≤ h0.size) (TB : Tb Z h0 n0 r0 hd 4 F K (1 : Int32) ah ao au ab ar) (hrep : RepH 4 own_P4 F K mp Ls) (hL : Ls.length ≤ 1) :
    Mzz l yn35 cn35 6 none ws (rk 5 5 40 79) #[(.ref r0), (.int p1), (.ref hd), (.long q3)] Z h0 (QA Z r0 hd p1 mp 1 h0 n0) := by
  refine Mzz.go (own := sn1) (nm := "add") (L0 := #[rv r0, iv p1, rv hd, lv q3, sd, un]) (plainFor_of_name pn_29) rfl rfl (fun m => ef_30_1 m r0 p1 hd q3) ?_
  intro p e s m below meth c s₁ hx hby hml hown hnm X0 e0 hZ hrt hlk G hG
  have N0 := Fr.nil n0
  have K0 := Keep.refl h0 [r0, ah, ao, au, ab, ar]
  obtain ⟨tE, tH, t1, t2, t3, t4, t5, tS, i1, i2, ⟨fu, i3⟩, ⟨fb, i4⟩, ⟨fr, i5⟩, ⟨g_r0, g_ah, g_ao, g_au, g_ab, g_ar⟩, ⟨u_r0_ah, u_r0_ao, u_r0_au, u_r0_ab, u_r0_ar, u_ah_ao, u_ah_au, u_ah_ab, u_ah_ar, u_ao_au, u_ao_ab, u_ao_ar, u_au_ab, u_au_ar, u_ab_ar⟩⟩ := id TB
  obtain ⟨t, ht, hs, hm⟩ := hrep.2.1 p1
  show Go p.tables e below G (s₁.setTop (mkF m 0 #[rv r0, iv p1, rv hd, lv q3, sd, un] []))
  refine zaloadN X0 hx (hb hby d30_0) rfl rfl ?_
  refine ziloadN X0 hx (hb hby d30_1) rfl ?_
  obtain ⟨cq1, qq1, qq1'⟩ := tE.cell
  obtain ⟨_, _, ⟨T1, L1, k1, n1⟩, -, X1, ⟨Lc1, hQ1, l1, y1, z1⟩, st1⟩ := X0.privateBack hx (y := yn29) hown (mvT hZ (wm hw 225 rfl)) (mvT hZ (wm hw 226 rfl)) (sel_priv (mvT hZ (wm hw 214 rfl)) (Cond.privateMethod_at (mvP hZ (wm hw 227 rfl) (args := #[]))) (mvT hZ (wm hw 226 rfl)) (by decide)) (Cond.privateMethod_at (mvP hZ (wm hw 227 rfl) (args := #[]))) (mvT hZ (wm hw 228 rfl)) (by decide) (backOf (W := 0) (rm31_4 l Z a0 hw [] r0 p1 hd F K ah ao t h0 n0 Z0 tE t1 t2 i1 i2 hs) hZ (wm hw 228 rfl) (wm hw 215 rfl) (by decide) (by decide)) (g := (mkF m 2 #[rv r0, iv p1, rv hd, lv q3, sd, un] [(.int p1), (.ref r0)])) rfl (by rw [hml]; rfl) (Steps.refl _) (a := r0) (by rw [e0]; exact qq1) qq1' (argsL := [(.int p1)]) (rest := []) (lenOf pd_19 rfl) rfl (by show 2 * 0 + _ ≤ _; exact Nat.le_of_eq rfl) (hb hby d30_2) (fun _ _ => ⟨rfl, e0, (by decide : 0 + 0 ≤ _), (by decide : 0 + 0 ≤ _)⟩)
  dsimp only [Pt.U, Pt.locs, Pt.cells, Pt.slots] at X1 l1 y1 z1 st1 hQ1
  subst l1 y1 z1
  obtain ⟨rfl, Nq1, e1⟩ := hQ1
  have N1 := Fr.app N0 Nq1
  refine Go.stp (fun t_ k_ => st1.trans k_) ?_
  show Go p.tables e below G (T1.setTop (mkF m 5 #[rv r0, iv p1, rv hd, lv q3, sd, un] [(.int (if F (own_P4 p1 t) = true then (own_it (own_hm4 p1) ((4 : Int32) - (1 : Int32)) t) else (-1 : Int32)))]))
  refine zistore X1 hx (l' := #[rv r0, iv p1, rv hd, lv q3, sd, iv (if F (own_P4 p1 t) = true then (own_it (own_hm4 p1) ((4 : Int32) - (1 : Int32)) t) else (-1 : Int32))]) (hb hby d30_5) rfl ?_
  refine ziload X1 hx (hb hby d30_7) rfl ?_
  by_cases hc9 : F (own_P4 p1 t) = true
  · rw [if_pos hc9]
    show Go p.tables e below G (T1.setTop (mkF m 9 #[rv r0, iv p1, rv hd, lv q3, sd, iv (own_it (own_hm4 p1) ((4 : Int32) - (1 : Int32)) t)] [(.int (own_it (own_hm4 p1) ((4 : Int32) - (1 : Int32)) t))]))
    have hd9 : ¬ ((own_it (own_hm4 p1) ((4 : Int32) - (1 : Int32)) t) < (0 : Int32)) := (own_nn (own_tb4 p1 t).1)
    refine zifYes X1 hx (pc' := 37) (hb hby d30_9) ((if0 _ _).trans (flt hd9).2.1) (by decide) (by decide) ?_
    refine zaloadN X1 hx (hb hby d30_37) rfl rfl ?_
    refine zgetF X1 hx hZ hown (wm hw 244 rfl) e1 t3 (hb hby d30_38) (fun T2 X2 e2 => ?_)
    refine ziload X2 hx (hb hby d30_41) rfl ?_
    show Go p.tables e below G (T2.setTop (mkF m 43 #[rv r0, iv p1, rv hd, lv q3, sd, iv (own_it (own_hm4 p1) ((4 : Int32) - (1 : Int32)) t)] [(.int (own_it (own_hm4 p1) ((4 : Int32) - (1 : Int32)) t)), (.ref au)]))
    refine Go.stp (F' := T2.setTop (mkF m 44 #[rv r0, iv p1, rv hd, lv q3, sd, iv (own_it (own_hm4 p1) ((4 : Int32) - (1 : Int32)) t)] [(.int (own_it (own_hm4 p1) ((4 : Int32) - (1 : Int32)) t)), (.ref au), (.int (own_it (own_hm4 p1) ((4 : Int32) - (1 : Int32)) t)), (.ref au)])) (fun t_ k_ => by jvm_step X2.here [X2.here.top, hx, (hb hby d30_43), Value.category]; exact k_) ?_
    refine zial X2 hx hZ e2 i3 (own_tb4 p1 t) (hb hby d30_44) ?_
    refine ziconst X2 hx (hb hby d30_45) (z := (1 : Int32)) rfl ?_
    refine ziadd X2 hx (hb hby d30_46) ?_
    refine zias X2 hx hZ e2 i3 (own_tb4 p1 t) (hb hby d30_47) (fun T3 h3 X3 e3 W3 f4 => ?_)
    have f5 := tE.wr W3
    have f6 := tH.wr W3
    have f7 := t1.other W3 (Or.inl u_r0_au)
    have f8 := t2.other W3 (Or.inl u_r0_au)
    have f9 := t3.other W3 (Or.inl u_r0_au)
    have f10 := t4.other W3 (Or.inl u_r0_au)
    have f11 := t5.other W3 (Or.inl u_r0_au)
    have f12 := tS.other W3 (Or.inl u_r0_au)
    have f13 := i1.other W3 u_ah_au
    have f14 := i2.other W3 u_ao_au
    have f15 := i4.other W3 (Ne.symm u_au_ab)
    have f16 := i5.other W3 (Ne.symm u_au_ar)
    have N3 := Fr.snoc X3 N1 g_au
    have K3 := K0.wr W3 (Or.inl (List.mem_of_getElem? (i := 3) rfl))
    have Z3 := Nat.le_trans Z0 (Keep.of_wr W3).1
    refine zretV X3 hx hrt hlk (hb hby d30_48) e3 hG (by decide) (by decide) ?_
    have hmt : mp p1 = true := hm.symm.trans hc9
    refine ⟨rfl, N3, _, K3, f6, ?_⟩
    rw [if_pos hmt, ins_same hmt]
    refine Or.inr (Or.inl ⟨by decide, by decide, _, _, _, ah, ao, au, ab, ar, hrep, hL, ?_⟩)
    rw [show own_i (1) = (1 : Int32) by decide]
    exact ⟨f5, f6, f7, f8, f9, f10, f11, f12, f13, f14, ⟨_, f4⟩, ⟨_, f15⟩, ⟨_, f16⟩, ⟨g_r0, g_ah, g_ao, g_au, g_ab, g_ar⟩, ⟨u_r0_ah, u_r0_ao, u_r0_au, u_r0_ab, u_r0_ar, u_ah_ao, u_ah_au, u_ah_ab, u_ah_ar, u_ao_au, u_ao_ab, u_ao_ar, u_au_ab, u_au_ar, u_ab_ar⟩⟩
  · rw [if_neg hc9]
    show Go p.tables e below G (T1.setTop (mkF m 9 #[rv r0, iv p1, rv hd, lv q3, sd, iv (-1 : Int32)] [(.int (-1 : Int32))]))
    refine zifNo X1 hx (hb hby d30_9) ((if0 _ _).trans (tlt (by decide : (-1 : Int32) < (0 : Int32))).2.1) ?_
    refine zaloadN X1 hx (hb hby d30_12) rfl rfl ?_
    obtain ⟨cq17, qq17, qq17'⟩ := tE.cell
    obtain ⟨_, _, ⟨T17, L17, k17, n17⟩, -, X17, ⟨Lc17, hQ17, l17, y17, z17⟩, st17⟩ := X1.privateBack hx (y := yn34) hown (mvT hZ (wm hw 231 rfl)) (mvT hZ (wm hw 232 rfl)) (sel_priv (mvT hZ (wm hw 214 rfl)) (Cond.privateMethod_at (mvP hZ (wm hw 233 rfl) (args := #[]))) (mvT hZ (wm hw 232 rfl)) (by decide)) (Cond.privateMethod_at (mvP hZ (wm hw 233 rfl) (args := #[]))) (mvT hZ (wm hw 234 rfl)) (by decide) (backOf (W := 0) (rm32_1 l Z a0 hw [] r0 hd F K ah ao au ab ar h0 n0 Z0 ⟨tE, tH, t1, t2, t3, t4, t5, tS, i1, i2, ⟨_, i3⟩, ⟨_, i4⟩, ⟨_, i5⟩, ⟨g_r0, g_ah, g_ao, g_au, g_ab, g_ar⟩, ⟨u_r0_ah, u_r0_ao, u_r0_au, u_r0_ab, u_r0_ar, u_ah_ao, u_ah_au, u_ah_ab, u_ah_ar, u_ao_au, u_ao_ab, u_ao_ar, u_au_ab, u_au_ar, u_ab_ar⟩⟩) hZ (wm hw 234 rfl) (wm hw 215 rfl) (by decide) (by decide)) (g := (mkF m 13 #[rv r0, iv p1, rv hd, lv q3, sd, iv (-1 : Int32)] [(.ref r0)])) rfl (by rw [hml]; rfl) (Steps.refl _) (a := r0) (by rw [e1]; exact qq17) qq17' (argsL := []) (rest := []) (lenOf pd_0 rfl) rfl (by show 2 * 0 + _ ≤ _; exact Nat.le_of_eq rfl) (hb hby d30_13) (fun _ _ => ⟨rfl, e1, (by decide : 0 + 5 ≤ _), (by decide : 0 + 40 ≤ _)⟩)
    dsimp only [Pt.U, Pt.locs, Pt.cells, Pt.slots] at X17 l17 y17 z17 st17 hQ17
    subst l17 y17 z17
    obtain ⟨rfl, Nq17, e17⟩ := hQ17
    have N17 := Fr.app N1 Nq17
    refine Go.stp (fun t_ k_ => st17.trans k_) ?_
    show Go p.tables e below G (T17.setTop (mkF m 16 #[rv r0, iv p1, rv hd, lv q3, sd, iv (-1 : Int32)] []))
    refine zaloadN X17 hx (hb hby d30_16) rfl rfl ?_
    refine ziloadN X17 hx (hb hby d30_17) rfl ?_
    refine zaloadN X17 hx (hb hby d30_18) rfl rfl ?_
    refine ziconst X17 hx (hb hby d30_19) (z := (0 : Int32)) rfl ?_
    refine zlconst X17 hx (hb hby d30_20) (z := (0 : Int64)) rfl ?_
    refine zlloadN X17 hx (hb hby d30_21) rfl ?_
    have hmf : mp p1 = false := by rw [← hm]; simpa using hc9
    obtain ⟨cq18, qq18, qq18'⟩ := tE.cell
    obtain ⟨_, _, ⟨T18, L18, k18, n18⟩, -, X18, ⟨Lc18, hQ18, l18, y18, z18⟩, st18⟩ := X17.privateBack hx (y := yn31) hown (mvT hZ (wm hw 251 rfl)) (mvT hZ (wm hw 252 rfl)) (sel_priv (mvT hZ (wm hw 214 rfl)) (Cond.privateMethod_at (mvP hZ (wm hw 253 rfl) (args := #[]))) (mvT hZ (wm hw 252 rfl)) (by decide)) (Cond.privateMethod_at (mvP hZ (wm hw 253 rfl) (args := #[]))) (mvT hZ (wm hw 254 rfl)) (by decide) (backOf (W := 0) (rm34_4 l Z a0 hw [] r0 p1 hd (0 : Int32) (0 : Int64) q3 F K (1 : Int32) ah ao au ab ar t h0 n0 Z0 ⟨tE, tH, t1, t2, t3, t4, t5, tS, i1, i2, ⟨_, i3⟩, ⟨_, i4⟩, ⟨_, i5⟩, ⟨g_r0, g_ah, g_ao, g_au, g_ab, g_ar⟩, ⟨u_r0_ah, u_r0_ao, u_r0_au, u_r0_ab, u_r0_ar, u_ah_ao, u_ah_au, u_ah_ab, u_ah_ar, u_ao_au, u_ao_ab, u_ao_ar, u_au_ab, u_au_ar, u_ab_ar⟩⟩ (fun u hu => (hs.1 u hu).1) (hm.trans hmf)) hZ (wm hw 254 rfl) (wm hw 215 rfl) (by decide) (by decide)) (g := (mkF m 22 #[rv r0, iv p1, rv hd, lv q3, sd, iv (-1 : Int32)] [(.long q3), (.long (0 : Int64)), (.int (0 : Int32)), (.ref hd), (.int p1), (.ref r0)])) rfl (by rw [hml]; rfl) (Steps.refl _) (a := r0) (by rw [e17]; exact qq18) qq18' (argsL := [(.int p1), (.ref hd), (.int (0 : Int32)), (.long (0 : Int64)), (.long q3)]) (rest := []) (lenOf pd_21 rfl) rfl (by show 2 * 0 + _ ≤ _; exact Nat.le_of_eq rfl) (hb hby d30_22) (fun _ _ => ⟨rfl, e17, (by decide : 5 + 0 ≤ _), (by decide : 40 + 0 ≤ _)⟩)
    dsimp only [Pt.U, Pt.locs, Pt.cells, Pt.slots] at X18 l18 y18 z18 st18 hQ18
    subst l18 y18 z18
    obtain ⟨rfl, Nq18, Kc18, TB18⟩ := hQ18
    have N18 := Fr.app N17 Nq18
    have f19 := tE.keep Kc18
    have f20 := tH.keep Kc18
    have f21 := t1.keep Kc18 (fun q => by simp only [List.mem_cons, List.not_mem_nil, or_false] at q; exact q.elim (fun q => u_r0_ah q) (fun q => q.elim (fun q => u_r0_ao q) (fun q => q.elim (fun q => u_r0_au q) (fun q => q.elim (fun q => u_r0_ab q) (fun q => u_r0_ar q)))))
    have f22 := t2.keep Kc18 (fun q => by simp only [List.mem_cons, List.not_mem_nil, or_false] at q; exact q.elim (fun q => u_r0_ah q) (fun q => q.elim (fun q => u_r0_ao q) (fun q => q.elim (fun q => u_r0_au q) (fun q => q.elim (fun q => u_r0_ab q) (fun q => u_r0_ar q)))))
    have f23 := t3.keep Kc18 (fun q => by simp only [List.mem_cons, List.not_mem_nil, or_false] at q; exact q.elim (fun q => u_r0_ah q) (fun q => q.elim (fun q => u_r0_ao q) (fun q => q.elim (fun q => u_r0_au q) (fun q => q.elim (fun q => u_r0_ab q) (fun q => u_r0_ar q)))))
    have f24 := t4.keep Kc18 (fun q => by simp only [List.mem_cons, List.not_mem_nil, or_false] at q; exact q.elim (fun q => u_r0_ah q) (fun q => q.elim (fun q => u_r0_ao q) (fun q => q.elim (fun q => u_r0_au q) (fun q => q.elim (fun q => u_r0_ab q) (fun q => u_r0_ar q)))))
    have f25 := t5.keep Kc18 (fun q => by simp only [List.mem_cons, List.not_mem_nil, or_false] at q; exact q.elim (fun q => u_r0_ah q) (fun q => q.elim (fun q => u_r0_ao q) (fun q => q.elim (fun q => u_r0_au q) (fun q => q.elim (fun q => u_r0_ab q) (fun q => u_r0_ar q)))))
    have f26 := tS.keep Kc18 (fun q => by simp only [List.mem_cons, List.not_mem_nil, or_false] at q; exact q.elim (fun q => u_r0_ah q) (fun q => q.elim (fun q => u_r0_ao q) (fun q => q.elim (fun q => u_r0_au q) (fun q => q.elim (fun q => u_r0_ab q) (fun q => u_r0_ar q)))))
    have Z18 : n0 ≤ T18.heap.size := Nat.le_trans Z0 Kc18.1
    have K18 := K0.trans Kc18 (fun x q => by
        simp only [List.mem_cons, List.not_mem_nil, or_false] at q
        rcases q with rfl | rfl | rfl | rfl | rfl
        · exact (Or.inl (List.mem_of_getElem? (i := 1) rfl))
        · exact (Or.inl (List.mem_of_getElem? (i := 2) rfl))
        · exact (Or.inl (List.mem_of_getElem? (i := 3) rfl))
        · exact (Or.inl (List.mem_of_getElem? (i := 4) rfl))
        · exact (Or.inl (List.mem_of_getElem? (i := 5) rfl)))
    obtain ⟨tE18, tH18, t118, t218, t318, t418, t518, tS18, i118, i218, ⟨fu18, i318⟩, ⟨fb18, i418⟩, ⟨fr18, i518⟩, -, -⟩ := id TB18
    refine Go.stp (fun t_ k_ => st18.trans k_) ?_
    show Go p.tables e below G (T18.setTop (mkF m 25 #[rv r0, iv p1, rv hd, lv q3, sd, iv (-1 : Int32)] [(.int (own_it (own_hm4 p1) ((4 : Int32) - (1 : Int32)) t))]))
    refine zistore X18 hx (l' := #[rv r0, iv p1, rv hd, lv q3, sd, iv (own_it (own_hm4 p1) ((4 : Int32) - (1 : Int32)) t)]) (hb hby d30_25) rfl ?_
    refine zaloadN X18 hx (hb hby d30_27) rfl rfl ?_
    refine zdup X18 hx (hb hby d30_28) rfl ?_
    refine zgetF X18 hx hZ hown (wm hw 266 rfl) rfl tS18 (hb hby d30_29) (fun T27 X27 e27 => ?_)
    refine ziconst X27 hx (hb hby d30_32) (z := (1 : Int32)) rfl ?_
    refine ziadd X27 hx (hb hby d30_33) ?_
    refine zputF X27 hx hZ hown (wm hw 266 rfl) e27 tS18 tE18 (Or.inl (wm hw 267 rfl)) (wm hw 214 rfl) (ty := .int) (by decide) rfl rfl (hb hby d30_34) (fun T28 h28 X28 e28 W28 => ?_)
    have f29 := tS18.same W28
    have f30 := tE18.wr W28
    have f31 := tH18.wr W28
    have f32 := t118.other W28 (Or.inr (slot_ne (Or.inl (wm hw 241 rfl)) (Or.inl (wm hw 267 rfl)) (by decide) (t := (.array .int)) (t' := .int) (by decide) (by decide)))
    have f33 := t218.other W28 (Or.inr (slot_ne (Or.inl (wm hw 230 rfl)) (Or.inl (wm hw 267 rfl)) (by decide) (t := (.array (.object sn0))) (t' := .int) (by decide) (by decide)))
    have f34 := t318.other W28 (Or.inr (slot_ne (Or.inl (wm hw 245 rfl)) (Or.inl (wm hw 267 rfl)) (by decide) (t := (.array .int)) (t' := .int) (by decide) (by decide)))
    have f35 := t418.other W28 (Or.inr (slot_ne (Or.inl (wm hw 248 rfl)) (Or.inl (wm hw 267 rfl)) (by decide) (t := (.array .long)) (t' := .int) (by decide) (by decide)))
    have f36 := t518.other W28 (Or.inr (slot_ne (Or.inl (wm hw 250 rfl)) (Or.inl (wm hw 267 rfl)) (by decide) (t := (.array .long)) (t' := .int) (by decide) (by decide)))
    have f37 := i118.other W28 (Ne.symm u_r0_ah)
    have f38 := i218.other W28 (Ne.symm u_r0_ao)
    have f39 := i318.other W28 (Ne.symm u_r0_au)
    have f40 := i418.other W28 (Ne.symm u_r0_ab)
    have f41 := i518.other W28 (Ne.symm u_r0_ar)
    have N28 := Fr.snoc X28 N18 g_r0
    have K28 := K18.wr W28 (Or.inl (List.mem_of_getElem? (i := 0) rfl))
    have Z28 := Nat.le_trans Z18 (Keep.of_wr W28).1
    have hz37 : Fld Z h28 r0 sn1 "size" "I" (.int (2 : Int32)) := by
      have q := f29
      rw [show ((1 : Int32) + (1 : Int32)) = (2 : Int32) by decide] at q
      exact q
    refine zaloadN X28 hx (hb hby d30_37) rfl rfl ?_
    refine zgetF X28 hx hZ hown (wm hw 244 rfl) e28 f34 (hb hby d30_38) (fun T42 X42 e42 => ?_)
    refine ziload X42 hx (hb hby d30_41) rfl ?_
    show Go p.tables e below G (T42.setTop (mkF m 43 #[rv r0, iv p1, rv hd, lv q3, sd, iv (own_it (own_hm4 p1) ((4 : Int32) - (1 : Int32)) t)] [(.int (own_it (own_hm4 p1) ((4 : Int32) - (1 : Int32)) t)), (.ref au)]))
    refine Go.stp (F' := T42.setTop (mkF m 44 #[rv r0, iv p1, rv hd, lv q3, sd, iv (own_it (own_hm4 p1) ((4 : Int32) - (1 : Int32)) t)] [(.int (own_it (own_hm4 p1) ((4 : Int32) - (1 : Int32)) t)), (.ref au), (.int (own_it (own_hm4 p1) ((4 : Int32) - (1 : Int32)) t)), (.ref au)])) (fun t_ k_ => by jvm_step X42.here [X42.here.top, hx, (hb hby d30_43), Value.category]; exact k_) ?_
    refine zial X42 hx hZ e42 f39 (own_tb4 p1 t) (hb hby d30_44) ?_
    refine ziconst X42 hx (hb hby d30_45) (z := (1 : Int32)) rfl ?_
    refine ziadd X42 hx (hb hby d30_46) ?_
    refine zias X42 hx hZ e42 f39 (own_tb4 p1 t) (hb hby d30_47) (fun T43 h43 X43 e43 W43 f44 => ?_)
    have f45 := f30.wr W43
    have f46 := f31.wr W43
    have f47 := f32.other W43 (Or.inl u_r0_au)
    have f48 := f33.other W43 (Or.inl u_r0_au)
    have f49 := f34.other W43 (Or.inl u_r0_au)
    have f50 := f35.other W43 (Or.inl u_r0_au)
    have f51 := f36.other W43 (Or.inl u_r0_au)
    have f52 := f37.other W43 u_ah_au
    have f53 := f38.other W43 u_ao_au
    have f54 := f40.other W43 (Ne.symm u_au_ab)
    have f55 := f41.other W43 (Ne.symm u_au_ar)
    have f56 := hz37.other W43 (Or.inl u_r0_au)
    have N43 := Fr.snoc X43 N28 g_au
    have K43 := K28.wr W43 (Or.inl (List.mem_of_getElem? (i := 3) rfl))
    have Z43 := Nat.le_trans Z28 (Keep.of_wr W43).1
    refine zretV X43 hx hrt hlk (hb hby d30_48) e43 hG (by decide) (by decide) ?_
    refine ⟨rfl, N43, _, K43, f46, ?_⟩
    rw [if_neg (by rw [hmf]; decide)]
    refine Or.inr (Or.inl ⟨by decide, by decide, _, _, _, ah, ao, au, ab, ar, (reph_add hrep own_Pl4 own_Pi4 (by omega) (fun u hu => (hs.1 u hu).1) (hm.trans hmf) ht hmf), (by simp only [List.length_cons]; omega), ?_⟩)
    rw [show own_i (1 + 1) = (2 : Int32) by decide]
    exact ⟨f45, f46, f47, f48, f49, f50, f51, f56, f52, f53, ⟨_, f44⟩, ⟨_, f54⟩, ⟨_, f55⟩, ⟨g_r0, g_ah, g_ao, g_au, g_ab, g_ar⟩, ⟨u_r0_ah, u_r0_ao, u_r0_au, u_r0_ab, u_r0_ar, u_ah_ao, u_ah_au, u_ah_ab, u_ah_ar, u_ao_au, u_ao_ab, u_ao_ar, u_au_ab, u_au_ar, u_ab_ar⟩⟩
theorem ef_30_2 (m : MethodId) (r0 : Addr) (p1 : Int32) (hd : Addr) (q3 : Int64) : entryFrame m #[(.ref r0), (.int p1), (.ref hd), (.long q3)] 6 = mkF m 0 #[rv r0, iv p1, rv hd, lv q3, sd, un] [] := by first | (simp [entryFrame, mkF, argsToLocals, Value.category, iv, rv, lv, un, sd]; done) | rfl
set_option maxRecDepth 65536 in
set_option maxHeartbeats 40000000 in
theorem rm30_2 (l : Launch) (Z : State) (a0 : Array Value) (hw : ∀ d ∈ tables_1, d.before a0 Z = true) (ws : List Jvm.Cond) (r0 : Addr) (p1 : Int32) (hd : Addr) (q3 : Int64) (F : Nat → Bool) (K : Nat → Int32) (ah : Addr) (ao : Addr) (au : Addr) (ab : Addr) (ar : Addr) (mp : Int32 → Bool) (Ls : List Nat) (h0 : Heap) (n0 : Nat) (Z0 : n0 ≤ h0.size) (TB : Tb Z h0 n0 r0 hd 4 F K (2 : Int32) ah ao au ab ar) (hrep : RepH 4 own_P4 F K mp Ls) (hL : Ls.length ≤ 2) :
    Mzz l yn35 cn35 6 none ws (rk 5 5 40 79) #[(.ref r0), (.int p1), (.ref hd), (.long q3)] Z h0 (QA Z r0 hd p1 mp 2 h0 n0) := by
  refine Mzz.go (own := sn1) (nm := "add") (L0 := #[rv r0, iv p1, rv hd, lv q3, sd, un]) (plainFor_of_name pn_29) rfl rfl (fun m => ef_30_2 m r0 p1 hd q3) ?_
  intro p e s m below meth c s₁ hx hby hml hown hnm X0 e0 hZ hrt hlk G hG
  have N0 := Fr.nil n0
  have K0 := Keep.refl h0 [r0, ah, ao, au, ab, ar]
  obtain ⟨tE, tH, t1, t2, t3, t4, t5, tS, i1, i2, ⟨fu, i3⟩, ⟨fb, i4⟩, ⟨fr, i5⟩, ⟨g_r0, g_ah, g_ao, g_au, g_ab, g_ar⟩, ⟨u_r0_ah, u_r0_ao, u_r0_au, u_r0_ab, u_r0_ar, u_ah_ao, u_ah_au, u_ah_ab, u_ah_ar, u_ao_au, u_ao_ab, u_ao_ar, u_au_ab, u_au_ar, u_ab_ar⟩⟩ := id TB
  obtain ⟨t, ht, hs, hm⟩ := hrep.2.1 p1
  show Go p.tables e below G (s₁.setTop (mkF m 0 #[rv r0, iv p1, rv hd, lv q3, sd, un] []))
  refine zaloadN X0 hx (hb hby d30_0) rfl rfl ?_
  refine ziloadN X0 hx (hb hby d30_1) rfl ?_
  obtain ⟨cq1, qq1, qq1'⟩ := tE.cell
  obtain ⟨_, _, ⟨T1, L1, k1, n1⟩, -, X1, ⟨Lc1, hQ1, l1, y1, z1⟩, st1⟩ := X0.privateBack hx (y := yn29) hown (mvT hZ (wm hw 225 rfl)) (mvT hZ (wm hw 226 rfl)) (sel_priv (mvT hZ (wm hw 214 rfl)) (Cond.privateMethod_at (mvP hZ (wm hw 227 rfl) (args := #[]))) (mvT hZ (wm hw 226 rfl)) (by decide)) (Cond.privateMethod_at (mvP hZ (wm hw 227 rfl) (args := #[]))) (mvT hZ (wm hw 228 rfl)) (by decide) (backOf (W := 0) (rm31_4 l Z a0 hw [] r0 p1 hd F K ah ao t h0 n0 Z0 tE t1 t2 i1 i2 hs) hZ (wm hw 228 rfl) (wm hw 215 rfl) (by decide) (by decide)) (g := (mkF m 2 #[rv r0, iv p1, rv hd, lv q3, sd, un] [(.int p1), (.ref r0)])) rfl (by rw [hml]; rfl) (Steps.refl _) (a := r0) (by rw [e0]; exact qq1) qq1' (argsL := [(.int p1)]) (rest := []) (lenOf pd_19 rfl) rfl (by show 2 * 0 + _ ≤ _; exact Nat.le_of_eq rfl) (hb hby d30_2) (fun _ _ => ⟨rfl, e0, (by decide : 0 + 0 ≤ _), (by decide : 0 + 0 ≤ _)⟩)
  dsimp only [Pt.U, Pt.locs, Pt.cells, Pt.slots] at X1 l1 y1 z1 st1 hQ1
  subst l1 y1 z1
  obtain ⟨rfl, Nq1, e1⟩ := hQ1
  have N1 := Fr.app N0 Nq1
  refine Go.stp (fun t_ k_ => st1.trans k_) ?_
  show Go p.tables e below G (T1.setTop (mkF m 5 #[rv r0, iv p1, rv hd, lv q3, sd, un] [(.int (if F (own_P4 p1 t) = true then (own_it (own_hm4 p1) ((4 : Int32) - (1 : Int32)) t) else (-1 : Int32)))]))
  refine zistore X1 hx (l' := #[rv r0, iv p1, rv hd, lv q3, sd, iv (if F (own_P4 p1 t) = true then (own_it (own_hm4 p1) ((4 : Int32) - (1 : Int32)) t) else (-1 : Int32))]) (hb hby d30_5) rfl ?_
  refine ziload X1 hx (hb hby d30_7) rfl ?_
  by_cases hc9 : F (own_P4 p1 t) = true
  · rw [if_pos hc9]
    show Go p.tables e below G (T1.setTop (mkF m 9 #[rv r0, iv p1, rv hd, lv q3, sd, iv (own_it (own_hm4 p1) ((4 : Int32) - (1 : Int32)) t)] [(.int (own_it (own_hm4 p1) ((4 : Int32) - (1 : Int32)) t))]))
    have hd9 : ¬ ((own_it (own_hm4 p1) ((4 : Int32) - (1 : Int32)) t) < (0 : Int32)) := (own_nn (own_tb4 p1 t).1)
    refine zifYes X1 hx (pc' := 37) (hb hby d30_9) ((if0 _ _).trans (flt hd9).2.1) (by decide) (by decide) ?_
    refine zaloadN X1 hx (hb hby d30_37) rfl rfl ?_
    refine zgetF X1 hx hZ hown (wm hw 244 rfl) e1 t3 (hb hby d30_38) (fun T2 X2 e2 => ?_)
    refine ziload X2 hx (hb hby d30_41) rfl ?_
    show Go p.tables e below G (T2.setTop (mkF m 43 #[rv r0, iv p1, rv hd, lv q3, sd, iv (own_it (own_hm4 p1) ((4 : Int32) - (1 : Int32)) t)] [(.int (own_it (own_hm4 p1) ((4 : Int32) - (1 : Int32)) t)), (.ref au)]))
    refine Go.stp (F' := T2.setTop (mkF m 44 #[rv r0, iv p1, rv hd, lv q3, sd, iv (own_it (own_hm4 p1) ((4 : Int32) - (1 : Int32)) t)] [(.int (own_it (own_hm4 p1) ((4 : Int32) - (1 : Int32)) t)), (.ref au), (.int (own_it (own_hm4 p1) ((4 : Int32) - (1 : Int32)) t)), (.ref au)])) (fun t_ k_ => by jvm_step X2.here [X2.here.top, hx, (hb hby d30_43), Value.category]; exact k_) ?_
    refine zial X2 hx hZ e2 i3 (own_tb4 p1 t) (hb hby d30_44) ?_
    refine ziconst X2 hx (hb hby d30_45) (z := (1 : Int32)) rfl ?_
    refine ziadd X2 hx (hb hby d30_46) ?_
    refine zias X2 hx hZ e2 i3 (own_tb4 p1 t) (hb hby d30_47) (fun T3 h3 X3 e3 W3 f4 => ?_)
    have f5 := tE.wr W3
    have f6 := tH.wr W3
    have f7 := t1.other W3 (Or.inl u_r0_au)
    have f8 := t2.other W3 (Or.inl u_r0_au)
    have f9 := t3.other W3 (Or.inl u_r0_au)
    have f10 := t4.other W3 (Or.inl u_r0_au)
    have f11 := t5.other W3 (Or.inl u_r0_au)
    have f12 := tS.other W3 (Or.inl u_r0_au)
    have f13 := i1.other W3 u_ah_au
    have f14 := i2.other W3 u_ao_au
    have f15 := i4.other W3 (Ne.symm u_au_ab)
    have f16 := i5.other W3 (Ne.symm u_au_ar)
    have N3 := Fr.snoc X3 N1 g_au
    have K3 := K0.wr W3 (Or.inl (List.mem_of_getElem? (i := 3) rfl))
    have Z3 := Nat.le_trans Z0 (Keep.of_wr W3).1
    refine zretV X3 hx hrt hlk (hb hby d30_48) e3 hG (by decide) (by decide) ?_
    have hmt : mp p1 = true := hm.symm.trans hc9
    refine ⟨rfl, N3, _, K3, f6, ?_⟩
    rw [if_pos hmt, ins_same hmt]
    refine Or.inr (Or.inl ⟨by decide, by decide, _, _, _, ah, ao, au, ab, ar, hrep, hL, ?_⟩)
    rw [show own_i (2) = (2 : Int32) by decide]
    exact ⟨f5, f6, f7, f8, f9, f10, f11, f12, f13, f14, ⟨_, f4⟩, ⟨_, f15⟩, ⟨_, f16⟩, ⟨g_r0, g_ah, g_ao, g_au, g_ab, g_ar⟩, ⟨u_r0_ah, u_r0_ao, u_r0_au, u_r0_ab, u_r0_ar, u_ah_ao, u_ah_au, u_ah_ab, u_ah_ar, u_ao_au, u_ao_ab, u_ao_ar, u_au_ab, u_au_ar, u_ab_ar⟩⟩
  · rw [if_neg hc9]
    show Go p.tables e below G (T1.setTop (mkF m 9 #[rv r0, iv p1, rv hd, lv q3, sd, iv (-1 : Int32)] [(.int (-1 : Int32))]))
    refine zifNo X1 hx (hb hby d30_9) ((if0 _ _).trans (tlt (by decide : (-1 : Int32) < (0 : Int32))).2.1) ?_
    refine zaloadN X1 hx (hb hby d30_12) rfl rfl ?_
    obtain ⟨cq17, qq17, qq17'⟩ := tE.cell
    obtain ⟨_, _, ⟨T17, L17, k17, n17⟩, -, X17, ⟨Lc17, hQ17, l17, y17, z17⟩, st17⟩ := X1.privateBack hx (y := yn34) hown (mvT hZ (wm hw 231 rfl)) (mvT hZ (wm hw 232 rfl)) (sel_priv (mvT hZ (wm hw 214 rfl)) (Cond.privateMethod_at (mvP hZ (wm hw 233 rfl) (args := #[]))) (mvT hZ (wm hw 232 rfl)) (by decide)) (Cond.privateMethod_at (mvP hZ (wm hw 233 rfl) (args := #[]))) (mvT hZ (wm hw 234 rfl)) (by decide) (backOf (W := 0) (rm32_2 l Z a0 hw [] r0 hd F K ah ao au ab ar h0 n0 Z0 ⟨tE, tH, t1, t2, t3, t4, t5, tS, i1, i2, ⟨_, i3⟩, ⟨_, i4⟩, ⟨_, i5⟩, ⟨g_r0, g_ah, g_ao, g_au, g_ab, g_ar⟩, ⟨u_r0_ah, u_r0_ao, u_r0_au, u_r0_ab, u_r0_ar, u_ah_ao, u_ah_au, u_ah_ab, u_ah_ar, u_ao_au, u_ao_ab, u_ao_ar, u_au_ab, u_au_ar, u_ab_ar⟩⟩) hZ (wm hw 234 rfl) (wm hw 215 rfl) (by decide) (by decide)) (g := (mkF m 13 #[rv r0, iv p1, rv hd, lv q3, sd, iv (-1 : Int32)] [(.ref r0)])) rfl (by rw [hml]; rfl) (Steps.refl _) (a := r0) (by rw [e1]; exact qq17) qq17' (argsL := []) (rest := []) (lenOf pd_0 rfl) rfl (by show 2 * 0 + _ ≤ _; exact Nat.le_of_eq rfl) (hb hby d30_13) (fun _ _ => ⟨rfl, e1, (by decide : 0 + 5 ≤ _), (by decide : 0 + 40 ≤ _)⟩)
    dsimp only [Pt.U, Pt.locs, Pt.cells, Pt.slots] at X17 l17 y17 z17 st17 hQ17
    subst l17 y17 z17
    obtain ⟨rfl, Nq17, e17⟩ := hQ17
    have N17 := Fr.app N1 Nq17
    refine Go.stp (fun t_ k_ => st17.trans k_) ?_
    show Go p.tables e below G (T17.setTop (mkF m 16 #[rv r0, iv p1, rv hd, lv q3, sd, iv (-1 : Int32)] []))
    refine zaloadN X17 hx (hb hby d30_16) rfl rfl ?_
    refine ziloadN X17 hx (hb hby d30_17) rfl ?_
    refine zaloadN X17 hx (hb hby d30_18) rfl rfl ?_
    refine ziconst X17 hx (hb hby d30_19) (z := (0 : Int32)) rfl ?_
    refine zlconst X17 hx (hb hby d30_20) (z := (0 : Int64)) rfl ?_
    refine zlloadN X17 hx (hb hby d30_21) rfl ?_
    have hmf : mp p1 = false := by rw [← hm]; simpa using hc9
    obtain ⟨cq18, qq18, qq18'⟩ := tE.cell
    obtain ⟨_, _, ⟨T18, L18, k18, n18⟩, -, X18, ⟨Lc18, hQ18, l18, y18, z18⟩, st18⟩ := X17.privateBack hx (y := yn31) hown (mvT hZ (wm hw 251 rfl)) (mvT hZ (wm hw 252 rfl)) (sel_priv (mvT hZ (wm hw 214 rfl)) (Cond.privateMethod_at (mvP hZ (wm hw 253 rfl) (args := #[]))) (mvT hZ (wm hw 252 rfl)) (by decide)) (Cond.privateMethod_at (mvP hZ (wm hw 253 rfl) (args := #[]))) (mvT hZ (wm hw 254 rfl)) (by decide) (backOf (W := 0) (rm34_4 l Z a0 hw [] r0 p1 hd (0 : Int32) (0 : Int64) q3 F K (2 : Int32) ah ao au ab ar t h0 n0 Z0 ⟨tE, tH, t1, t2, t3, t4, t5, tS, i1, i2, ⟨_, i3⟩, ⟨_, i4⟩, ⟨_, i5⟩, ⟨g_r0, g_ah, g_ao, g_au, g_ab, g_ar⟩, ⟨u_r0_ah, u_r0_ao, u_r0_au, u_r0_ab, u_r0_ar, u_ah_ao, u_ah_au, u_ah_ab, u_ah_ar, u_ao_au, u_ao_ab, u_ao_ar, u_au_ab, u_au_ar, u_ab_ar⟩⟩ (fun u hu => (hs.1 u hu).1) (hm.trans hmf)) hZ (wm hw 254 rfl) (wm hw 215 rfl) (by decide) (by decide)) (g := (mkF m 22 #[rv r0, iv p1, rv hd, lv q3, sd, iv (-1 : Int32)] [(.long q3), (.long (0 : Int64)), (.int (0 : Int32)), (.ref hd), (.int p1), (.ref r0)])) rfl (by rw [hml]; rfl) (Steps.refl _) (a := r0) (by rw [e17]; exact qq18) qq18' (argsL := [(.int p1), (.ref hd), (.int (0 : Int32)), (.long (0 : Int64)), (.long q3)]) (rest := []) (lenOf pd_21 rfl) rfl (by show 2 * 0 + _ ≤ _; exact Nat.le_of_eq rfl) (hb hby d30_22) (fun _ _ => ⟨rfl, e17, (by decide : 5 + 0 ≤ _), (by decide : 40 + 0 ≤ _)⟩)
    dsimp only [Pt.U, Pt.locs, Pt.cells, Pt.slots] at X18 l18 y18 z18 st18 hQ18
    subst l18 y18 z18
    obtain ⟨rfl, Nq18, Kc18, TB18⟩ := hQ18
    have N18 := Fr.app N17 Nq18
    have f19 := tE.keep Kc18
    have f20 := tH.keep Kc18
    have f21 := t1.keep Kc18 (fun q => by simp only [List.mem_cons, List.not_mem_nil, or_false] at q; exact q.elim (fun q => u_r0_ah q) (fun q => q.elim (fun q => u_r0_ao q) (fun q => q.elim (fun q => u_r0_au q) (fun q => q.elim (fun q => u_r0_ab q) (fun q => u_r0_ar q)))))
    have f22 := t2.keep Kc18 (fun q => by simp only [List.mem_cons, List.not_mem_nil, or_false] at q; exact q.elim (fun q => u_r0_ah q) (fun q => q.elim (fun q => u_r0_ao q) (fun q => q.elim (fun q => u_r0_au q) (fun q => q.elim (fun q => u_r0_ab q) (fun q => u_r0_ar q)))))
    have f23 := t3.keep Kc18 (fun q => by simp only [List.mem_cons, List.not_mem_nil, or_false] at q; exact q.elim (fun q => u_r0_ah q) (fun q => q.elim (fun q => u_r0_ao q) (fun q => q.elim (fun q => u_r0_au q) (fun q => q.elim (fun q => u_r0_ab q) (fun q => u_r0_ar q)))))
    have f24 := t4.keep Kc18 (fun q => by simp only [List.mem_cons, List.not_mem_nil, or_false] at q; exact q.elim (fun q => u_r0_ah q) (fun q => q.elim (fun q => u_r0_ao q) (fun q => q.elim (fun q => u_r0_au q) (fun q => q.elim (fun q => u_r0_ab q) (fun q => u_r0_ar q)))))
    have f25 := t5.keep Kc18 (fun q => by simp only [List.mem_cons, List.not_mem_nil, or_false] at q; exact q.elim (fun q => u_r0_ah q) (fun q => q.elim (fun q => u_r0_ao q) (fun q => q.elim (fun q => u_r0_au q) (fun q => q.elim (fun q => u_r0_ab q) (fun q => u_r0_ar q)))))
    have f26 := tS.keep Kc18 (fun q => by simp only [List.mem_cons, List.not_mem_nil, or_false] at q; exact q.elim (fun q => u_r0_ah q) (fun q => q.elim (fun q => u_r0_ao q) (fun q => q.elim (fun q => u_r0_au q) (fun q => q.elim (fun q => u_r0_ab q) (fun q => u_r0_ar q)))))
    have Z18 : n0 ≤ T18.heap.size := Nat.le_trans Z0 Kc18.1
    have K18 := K0.trans Kc18 (fun x q => by
        simp only [List.mem_cons, List.not_mem_nil, or_false] at q
        rcases q with rfl | rfl | rfl | rfl | rfl
        · exact (Or.inl (List.mem_of_getElem? (i := 1) rfl))
        · exact (Or.inl (List.mem_of_getElem? (i := 2) rfl))
        · exact (Or.inl (List.mem_of_getElem? (i := 3) rfl))
        · exact (Or.inl (List.mem_of_getElem? (i := 4) rfl))
        · exact (Or.inl (List.mem_of_getElem? (i := 5) rfl)))
    obtain ⟨tE18, tH18, t118, t218, t318, t418, t518, tS18, i118, i218, ⟨fu18, i318⟩, ⟨fb18, i418⟩, ⟨fr18, i518⟩, -, -⟩ := id TB18
    refine Go.stp (fun t_ k_ => st18.trans k_) ?_
    show Go p.tables e below G (T18.setTop (mkF m 25 #[rv r0, iv p1, rv hd, lv q3, sd, iv (-1 : Int32)] [(.int (own_it (own_hm4 p1) ((4 : Int32) - (1 : Int32)) t))]))
    refine zistore X18 hx (l' := #[rv r0, iv p1, rv hd, lv q3, sd, iv (own_it (own_hm4 p1) ((4 : Int32) - (1 : Int32)) t)]) (hb hby d30_25) rfl ?_
    refine zaloadN X18 hx (hb hby d30_27) rfl rfl ?_
    refine zdup X18 hx (hb hby d30_28) rfl ?_
    refine zgetF X18 hx hZ hown (wm hw 266 rfl) rfl tS18 (hb hby d30_29) (fun T27 X27 e27 => ?_)
    refine ziconst X27 hx (hb hby d30_32) (z := (1 : Int32)) rfl ?_
    refine ziadd X27 hx (hb hby d30_33) ?_
    refine zputF X27 hx hZ hown (wm hw 266 rfl) e27 tS18 tE18 (Or.inl (wm hw 267 rfl)) (wm hw 214 rfl) (ty := .int) (by decide) rfl rfl (hb hby d30_34) (fun T28 h28 X28 e28 W28 => ?_)
    have f29 := tS18.same W28
    have f30 := tE18.wr W28
    have f31 := tH18.wr W28
    have f32 := t118.other W28 (Or.inr (slot_ne (Or.inl (wm hw 241 rfl)) (Or.inl (wm hw 267 rfl)) (by decide) (t := (.array .int)) (t' := .int) (by decide) (by decide)))
    have f33 := t218.other W28 (Or.inr (slot_ne (Or.inl (wm hw 230 rfl)) (Or.inl (wm hw 267 rfl)) (by decide) (t := (.array (.object sn0))) (t' := .int) (by decide) (by decide)))
    have f34 := t318.other W28 (Or.inr (slot_ne (Or.inl (wm hw 245 rfl)) (Or.inl (wm hw 267 rfl)) (by decide) (t := (.array .int)) (t' := .int) (by decide) (by decide)))
    have f35 := t418.other W28 (Or.inr (slot_ne (Or.inl (wm hw 248 rfl)) (Or.inl (wm hw 267 rfl)) (by decide) (t := (.array .long)) (t' := .int) (by decide) (by decide)))
    have f36 := t518.other W28 (Or.inr (slot_ne (Or.inl (wm hw 250 rfl)) (Or.inl (wm hw 267 rfl)) (by decide) (t := (.array .long)) (t' := .int) (by decide) (by decide)))
    have f37 := i118.other W28 (Ne.symm u_r0_ah)
    have f38 := i218.other W28 (Ne.symm u_r0_ao)
    have f39 := i318.other W28 (Ne.symm u_r0_au)
    have f40 := i418.other W28 (Ne.symm u_r0_ab)
    have f41 := i518.other W28 (Ne.symm u_r0_ar)
    have N28 := Fr.snoc X28 N18 g_r0
    have K28 := K18.wr W28 (Or.inl (List.mem_of_getElem? (i := 0) rfl))
    have Z28 := Nat.le_trans Z18 (Keep.of_wr W28).1
    have hz37 : Fld Z h28 r0 sn1 "size" "I" (.int (3 : Int32)) := by
      have q := f29
      rw [show ((2 : Int32) + (1 : Int32)) = (3 : Int32) by decide] at q
      exact q
    refine zaloadN X28 hx (hb hby d30_37) rfl rfl ?_
    refine zgetF X28 hx hZ hown (wm hw 244 rfl) e28 f34 (hb hby d30_38) (fun T42 X42 e42 => ?_)
    refine ziload X42 hx (hb hby d30_41) rfl ?_
    show Go p.tables e below G (T42.setTop (mkF m 43 #[rv r0, iv p1, rv hd, lv q3, sd, iv (own_it (own_hm4 p1) ((4 : Int32) - (1 : Int32)) t)] [(.int (own_it (own_hm4 p1) ((4 : Int32) - (1 : Int32)) t)), (.ref au)]))
    refine Go.stp (F' := T42.setTop (mkF m 44 #[rv r0, iv p1, rv hd, lv q3, sd, iv (own_it (own_hm4 p1) ((4 : Int32) - (1 : Int32)) t)] [(.int (own_it (own_hm4 p1) ((4 : Int32) - (1 : Int32)) t)), (.ref au), (.int (own_it (own_hm4 p1) ((4 : Int32) - (1 : Int32)) t)), (.ref au)])) (fun t_ k_ => by jvm_step X42.here [X42.here.top, hx, (hb hby d30_43), Value.category]; exact k_) ?_
    refine zial X42 hx hZ e42 f39 (own_tb4 p1 t) (hb hby d30_44) ?_
    refine ziconst X42 hx (hb hby d30_45) (z := (1 : Int32)) rfl ?_
    refine ziadd X42 hx (hb hby d30_46) ?_
    refine zias X42 hx hZ e42 f39 (own_tb4 p1 t) (hb hby d30_47) (fun T43 h43 X43 e43 W43 f44 => ?_)
    have f45 := f30.wr W43
    have f46 := f31.wr W43
    have f47 := f32.other W43 (Or.inl u_r0_au)
    have f48 := f33.other W43 (Or.inl u_r0_au)
    have f49 := f34.other W43 (Or.inl u_r0_au)
    have f50 := f35.other W43 (Or.inl u_r0_au)
    have f51 := f36.other W43 (Or.inl u_r0_au)
    have f52 := f37.other W43 u_ah_au
    have f53 := f38.other W43 u_ao_au
    have f54 := f40.other W43 (Ne.symm u_au_ab)
    have f55 := f41.other W43 (Ne.symm u_au_ar)
    have f56 := hz37.other W43 (Or.inl u_r0_au)
    have N43 := Fr.snoc X43 N28 g_au
    have K43 := K28.wr W43 (Or.inl (List.mem_of_getElem? (i := 3) rfl))
    have Z43 := Nat.le_trans Z28 (Keep.of_wr W43).1
    refine zretV X43 hx hrt hlk (hb hby d30_48) e43 hG (by decide) (by decide) ?_
    refine ⟨rfl, N43, _, K43, f46, ?_⟩
    rw [if_neg (by rw [hmf]; decide)]
    refine Or.inr (Or.inl ⟨by decide, by decide, _, _, _, ah, ao, au, ab, ar, (reph_add hrep own_Pl4 own_Pi4 (by omega) (fun u hu => (hs.1 u hu).1) (hm.trans hmf) ht hmf), (by simp only [List.length_cons]; omega), ?_⟩)
    rw [show own_i (2 + 1) = (3 : Int32) by decide]
    exact ⟨f45, f46, f47, f48, f49, f50, f51, f56, f52, f53, ⟨_, f44⟩, ⟨_, f54⟩, ⟨_, f55⟩, ⟨g_r0, g_ah, g_ao, g_au, g_ab, g_ar⟩, ⟨u_r0_ah, u_r0_ao, u_r0_au, u_r0_ab, u_r0_ar, u_ah_ao, u_ah_au, u_ah_ab, u_ah_ar, u_ao_au, u_ao_ab, u_ao_ar, u_au_ab, u_au_ar, u_ab_ar⟩⟩
theorem ef_30_3 (m : MethodId) (r0 : Addr) (p1 : Int32) (hd : Addr) (q3 : Int64) : entryFrame m #[(.ref r0), (.int p1), (.ref hd), (.long q3)] 6 = mkF m 0 #[rv r0, iv p1, rv hd, lv q3, sd, un] [] := by first | (simp [entryFrame, mkF, argsToLocals, Value.category, iv, rv, lv, un, sd]; done) | rfl
set_option maxRecDepth 65536 in
set_option maxHeartbeats 40000000 in
theorem rm30_3 (l : Launch) (Z : State) (a0 : Array Value) (hw : ∀ d ∈ tables_1, d.before a0 Z = true) (ws : List Jvm.Cond) (r0 : Addr) (p1 : Int32) (hd : Addr) (q3 : Int64) (F : Nat → Bool) (K : Nat → Int32) (ah : Addr) (ao : Addr) (au : Addr) (ab : Addr) (ar : Addr) (mp : Int32 → Bool) (Ls : List Nat) (h0 : Heap) (n0 : Nat) (Z0 : n0 ≤ h0.size) (TB : Tb Z h0 n0 r0 hd 4 F K (3 : Int32) ah ao au ab ar) (hrep : RepH 4 own_P4 F K mp Ls) (hL : Ls.length ≤ 3) :
    Mzz l yn35 cn35 6 none ws (rk 5 5 40 79) #[(.ref r0), (.int p1), (.ref hd), (.long q3)] Z h0 (QA Z r0 hd p1 mp 3 h0 n0) := by
  refine Mzz.go (own := sn1) (nm := "add") (L0 := #[rv r0, iv p1, rv hd, lv q3, sd, un]) (plainFor_of_name pn_29) rfl rfl (fun m => ef_30_3 m r0 p1 hd q3) ?_
  intro p e s m below meth c s₁ hx hby hml hown hnm X0 e0 hZ hrt hlk G hG
  have N0 := Fr.nil n0
  have K0 := Keep.refl h0 [r0, ah, ao, au, ab, ar]
  obtain ⟨tE, tH, t1, t2, t3, t4, t5, tS, i1, i2, ⟨fu, i3⟩, ⟨fb, i4⟩, ⟨fr, i5⟩, ⟨g_r0, g_ah, g_ao, g_au, g_ab, g_ar⟩, ⟨u_r0_ah, u_r0_ao, u_r0_au, u_r0_ab, u_r0_ar, u_ah_ao, u_ah_au, u_ah_ab, u_ah_ar, u_ao_au, u_ao_ab, u_ao_ar, u_au_ab, u_au_ar, u_ab_ar⟩⟩ := id TB
  obtain ⟨t, ht, hs, hm⟩ := hrep.2.1 p1
  show Go p.tables e below G (s₁.setTop (mkF m 0 #[rv r0, iv p1, rv hd, lv q3, sd, un] []))
  refine zaloadN X0 hx (hb hby d30_0) rfl rfl ?_
  refine ziloadN X0 hx (hb hby d30_1) rfl ?_
  obtain ⟨cq1, qq1, qq1'⟩ := tE.cell
  obtain ⟨_, _, ⟨T1, L1, k1, n1⟩, -, X1, ⟨Lc1, hQ1, l1, y1, z1⟩, st1⟩ := X0.privateBack hx (y := yn29) hown (mvT hZ (wm hw 225 rfl)) (mvT hZ (wm hw 226 rfl)) (sel_priv (mvT hZ (wm hw 214 rfl)) (Cond.privateMethod_at (mvP hZ (wm hw 227 rfl) (args := #[]))) (mvT hZ (wm hw 226 rfl)) (by decide)) (Cond.privateMethod_at (mvP hZ (wm hw 227 rfl) (args := #[]))) (mvT hZ (wm hw 228 rfl)) (by decide) (backOf (W := 0) (rm31_4 l Z a0 hw [] r0 p1 hd F K ah ao t h0 n0 Z0 tE t1 t2 i1 i2 hs) hZ (wm hw 228 rfl) (wm hw 215 rfl) (by decide) (by decide)) (g := (mkF m 2 #[rv r0, iv p1, rv hd, lv q3, sd, un] [(.int p1), (.ref r0)])) rfl (by rw [hml]; rfl) (Steps.refl _) (a := r0) (by rw [e0]; exact qq1) qq1' (argsL := [(.int p1)]) (rest := []) (lenOf pd_19 rfl) rfl (by show 2 * 0 + _ ≤ _; exact Nat.le_of_eq rfl) (hb hby d30_2) (fun _ _ => ⟨rfl, e0, (by decide : 0 + 0 ≤ _), (by decide : 0 + 0 ≤ _)⟩)
  dsimp only [Pt.U, Pt.locs, Pt.cells, Pt.slots] at X1 l1 y1 z1 st1 hQ1
  subst l1 y1 z1
  obtain ⟨rfl, Nq1, e1⟩ := hQ1
  have N1 := Fr.app N0 Nq1
  refine Go.stp (fun t_ k_ => st1.trans k_) ?_
  show Go p.tables e below G (T1.setTop (mkF m 5 #[rv r0, iv p1, rv hd, lv q3, sd, un] [(.int (if F (own_P4 p1 t) = true then (own_it (own_hm4 p1) ((4 : Int32) - (1 : Int32)) t) else (-1 : Int32)))]))
  refine zistore X1 hx (l' := #[rv r0, iv p1, rv hd, lv q3, sd, iv (if F (own_P4 p1 t) = true then (own_it (own_hm4 p1) ((4 : Int32) - (1 : Int32)) t) else (-1 : Int32))]) (hb hby d30_5) rfl ?_
  refine ziload X1 hx (hb hby d30_7) rfl ?_
  by_cases hc9 : F (own_P4 p1 t) = true
  · rw [if_pos hc9]
    show Go p.tables e below G (T1.setTop (mkF m 9 #[rv r0, iv p1, rv hd, lv q3, sd, iv (own_it (own_hm4 p1) ((4 : Int32) - (1 : Int32)) t)] [(.int (own_it (own_hm4 p1) ((4 : Int32) - (1 : Int32)) t))]))
    have hd9 : ¬ ((own_it (own_hm4 p1) ((4 : Int32) - (1 : Int32)) t) < (0 : Int32)) := (own_nn (own_tb4 p1 t).1)
    refine zifYes X1 hx (pc' := 37) (hb hby d30_9) ((if0 _ _).trans (flt hd9).2.1) (by decide) (by decide) ?_
    refine zaloadN X1 hx (hb hby d30_37) rfl rfl ?_
    refine zgetF X1 hx hZ hown (wm hw 244 rfl) e1 t3 (hb hby d30_38) (fun T2 X2 e2 => ?_)
    refine ziload X2 hx (hb hby d30_41) rfl ?_
    show Go p.tables e below G (T2.setTop (mkF m 43 #[rv r0, iv p1, rv hd, lv q3, sd, iv (own_it (own_hm4 p1) ((4 : Int32) - (1 : Int32)) t)] [(.int (own_it (own_hm4 p1) ((4 : Int32) - (1 : Int32)) t)), (.ref au)]))
    refine Go.stp (F' := T2.setTop (mkF m 44 #[rv r0, iv p1, rv hd, lv q3, sd, iv (own_it (own_hm4 p1) ((4 : Int32) - (1 : Int32)) t)] [(.int (own_it (own_hm4 p1) ((4 : Int32) - (1 : Int32)) t)), (.ref au), (.int (own_it (own_hm4 p1) ((4 : Int32) - (1 : Int32)) t)), (.ref au)])) (fun t_ k_ => by jvm_step X2.here [X2.here.top, hx, (hb hby d30_43), Value.category]; exact k_) ?_
    refine zial X2 hx hZ e2 i3 (own_tb4 p1 t) (hb hby d30_44) ?_
    refine ziconst X2 hx (hb hby d30_45) (z := (1 : Int32)) rfl ?_
    refine ziadd X2 hx (hb hby d30_46) ?_
    refine zias X2 hx hZ e2 i3 (own_tb4 p1 t) (hb hby d30_47) (fun T3 h3 X3 e3 W3 f4 => ?_)
    have f5 := tE.wr W3
    have f6 := tH.wr W3
    have f7 := t1.other W3 (Or.inl u_r0_au)
    have f8 := t2.other W3 (Or.inl u_r0_au)
    have f9 := t3.other W3 (Or.inl u_r0_au)
    have f10 := t4.other W3 (Or.inl u_r0_au)
    have f11 := t5.other W3 (Or.inl u_r0_au)
    have f12 := tS.other W3 (Or.inl u_r0_au)
    have f13 := i1.other W3 u_ah_au
    have f14 := i2.other W3 u_ao_au
    have f15 := i4.other W3 (Ne.symm u_au_ab)
    have f16 := i5.other W3 (Ne.symm u_au_ar)
    have N3 := Fr.snoc X3 N1 g_au
    have K3 := K0.wr W3 (Or.inl (List.mem_of_getElem? (i := 3) rfl))
    have Z3 := Nat.le_trans Z0 (Keep.of_wr W3).1
    refine zretV X3 hx hrt hlk (hb hby d30_48) e3 hG (by decide) (by decide) ?_
    have hmt : mp p1 = true := hm.symm.trans hc9
    refine ⟨rfl, N3, _, K3, f6, ?_⟩
    rw [if_pos hmt, ins_same hmt]
    refine Or.inr (Or.inl ⟨by decide, by decide, _, _, _, ah, ao, au, ab, ar, hrep, hL, ?_⟩)
    rw [show own_i (3) = (3 : Int32) by decide]
    exact ⟨f5, f6, f7, f8, f9, f10, f11, f12, f13, f14, ⟨_, f4⟩, ⟨_, f15⟩, ⟨_, f16⟩, ⟨g_r0, g_ah, g_ao, g_au, g_ab, g_ar⟩, ⟨u_r0_ah, u_r0_ao, u_r0_au, u_r0_ab, u_r0_ar, u_ah_ao, u_ah_au, u_ah_ab, u_ah_ar, u_ao_au, u_ao_ab, u_ao_ar, u_au_ab, u_au_ar, u_ab_ar⟩⟩
  · rw [if_neg hc9]
    show Go p.tables e below G (T1.setTop (mkF m 9 #[rv r0, iv p1, rv hd, lv q3, sd, iv (-1 : Int32)] [(.int (-1 : Int32))]))
    refine zifNo X1 hx (hb hby d30_9) ((if0 _ _).trans (tlt (by decide : (-1 : Int32) < (0 : Int32))).2.1) ?_
    refine zaloadN X1 hx (hb hby d30_12) rfl rfl ?_
    have hc : cntF F 4 < 8 := Nat.lt_of_le_of_lt (cnt_le F 4 Ls hrep.1) (by omega)
    obtain ⟨cq17, qq17, qq17'⟩ := tE.cell
    obtain ⟨_, _, ⟨T17, L17, k17, n17⟩, -, X17, ⟨Lc17, hQ17, l17, y17, z17⟩, st17⟩ := X1.privateBack hx (y := yn34) hown (mvT hZ (wm hw 231 rfl)) (mvT hZ (wm hw 232 rfl)) (sel_priv (mvT hZ (wm hw 214 rfl)) (Cond.privateMethod_at (mvP hZ (wm hw 233 rfl) (args := #[]))) (mvT hZ (wm hw 232 rfl)) (by decide)) (Cond.privateMethod_at (mvP hZ (wm hw 233 rfl) (args := #[]))) (mvT hZ (wm hw 234 rfl)) (by decide) (backOf (W := 0) (rm32_3 l Z a0 hw [] r0 hd F K ah ao au ab ar h0 n0 Z0 ⟨tE, tH, t1, t2, t3, t4, t5, tS, i1, i2, ⟨_, i3⟩, ⟨_, i4⟩, ⟨_, i5⟩, ⟨g_r0, g_ah, g_ao, g_au, g_ab, g_ar⟩, ⟨u_r0_ah, u_r0_ao, u_r0_au, u_r0_ab, u_r0_ar, u_ah_ao, u_ah_au, u_ah_ab, u_ah_ar, u_ao_au, u_ao_ab, u_ao_ar, u_au_ab, u_au_ar, u_ab_ar⟩⟩ hc) hZ (wm hw 234 rfl) (wm hw 215 rfl) (by decide) (by decide)) (g := (mkF m 13 #[rv r0, iv p1, rv hd, lv q3, sd, iv (-1 : Int32)] [(.ref r0)])) rfl (by rw [hml]; rfl) (Steps.refl _) (a := r0) (by rw [e1]; exact qq17) qq17' (argsL := []) (rest := []) (lenOf pd_0 rfl) rfl (by show 2 * 0 + _ ≤ _; exact Nat.le_of_eq rfl) (hb hby d30_13) (fun _ _ => ⟨rfl, e1, (by decide : 0 + 5 ≤ _), (by decide : 0 + 40 ≤ _)⟩)
    dsimp only [Pt.U, Pt.locs, Pt.cells, Pt.slots] at X17 l17 y17 z17 st17 hQ17
    subst l17 y17 z17
    obtain ⟨e017, e117, e217, F', K', bh, bo, bu, bb, br, e317, s1, s2, s3, s4, s5, rz⟩ := hQ17
    replace hQ17 := And.intro e017 (And.intro e117 (And.intro e217 (⟨bh, bo, bu, bb, br, e317, s1, s2, s3, s4, s5⟩ : ∃ bh bo bu bb br : Addr, Tb Z T17.heap n0 r0 hd 8 F' K' (3 : Int32) bh bo bu bb br ∧ h0.size ≤ bh ∧ h0.size ≤ bo ∧ h0.size ≤ bu ∧ h0.size ≤ bb ∧ h0.size ≤ br)))
    obtain ⟨rfl, Nq17, Kc17, bh, bo, bu, bb, br, TB17, sz_bh, sz_bo, sz_bu, sz_bb, sz_br⟩ := hQ17
    have N17 := Fr.app N1 Nq17
    have u_ah_bh : ah ≠ bh := Nat.ne_of_lt (Nat.lt_of_lt_of_le i1.lt sz_bh)
    have u_ah_bo : ah ≠ bo := Nat.ne_of_lt (Nat.lt_of_lt_of_le i1.lt sz_bo)
    have u_ah_bu : ah ≠ bu := Nat.ne_of_lt (Nat.lt_of_lt_of_le i1.lt sz_bu)
    have u_ah_bb : ah ≠ bb := Nat.ne_of_lt (Nat.lt_of_lt_of_le i1.lt sz_bb)
    have u_ah_br : ah ≠ br := Nat.ne_of_lt (Nat.lt_of_lt_of_le i1.lt sz_br)
    have u_ao_bh : ao ≠ bh := Nat.ne_of_lt (Nat.lt_of_lt_of_le i2.lt sz_bh)
    have u_ao_bo : ao ≠ bo := Nat.ne_of_lt (Nat.lt_of_lt_of_le i2.lt sz_bo)
    have u_ao_bu : ao ≠ bu := Nat.ne_of_lt (Nat.lt_of_lt_of_le i2.lt sz_bu)
    have u_ao_bb : ao ≠ bb := Nat.ne_of_lt (Nat.lt_of_lt_of_le i2.lt sz_bb)
    have u_ao_br : ao ≠ br := Nat.ne_of_lt (Nat.lt_of_lt_of_le i2.lt sz_br)
    have u_au_bh : au ≠ bh := Nat.ne_of_lt (Nat.lt_of_lt_of_le i3.lt sz_bh)
    have u_au_bo : au ≠ bo := Nat.ne_of_lt (Nat.lt_of_lt_of_le i3.lt sz_bo)
    have u_au_bu : au ≠ bu := Nat.ne_of_lt (Nat.lt_of_lt_of_le i3.lt sz_bu)
    have u_au_bb : au ≠ bb := Nat.ne_of_lt (Nat.lt_of_lt_of_le i3.lt sz_bb)
    have u_au_br : au ≠ br := Nat.ne_of_lt (Nat.lt_of_lt_of_le i3.lt sz_br)
    have u_ab_bh : ab ≠ bh := Nat.ne_of_lt (Nat.lt_of_lt_of_le i4.lt sz_bh)
    have u_ab_bo : ab ≠ bo := Nat.ne_of_lt (Nat.lt_of_lt_of_le i4.lt sz_bo)
    have u_ab_bu : ab ≠ bu := Nat.ne_of_lt (Nat.lt_of_lt_of_le i4.lt sz_bu)
    have u_ab_bb : ab ≠ bb := Nat.ne_of_lt (Nat.lt_of_lt_of_le i4.lt sz_bb)
    have u_ab_br : ab ≠ br := Nat.ne_of_lt (Nat.lt_of_lt_of_le i4.lt sz_br)
    have u_ar_bh : ar ≠ bh := Nat.ne_of_lt (Nat.lt_of_lt_of_le i5.lt sz_bh)
    have u_ar_bo : ar ≠ bo := Nat.ne_of_lt (Nat.lt_of_lt_of_le i5.lt sz_bo)
    have u_ar_bu : ar ≠ bu := Nat.ne_of_lt (Nat.lt_of_lt_of_le i5.lt sz_bu)
    have u_ar_bb : ar ≠ bb := Nat.ne_of_lt (Nat.lt_of_lt_of_le i5.lt sz_bb)
    have u_ar_br : ar ≠ br := Nat.ne_of_lt (Nat.lt_of_lt_of_le i5.lt sz_br)
    have f18 := tE.keep Kc17
    have f19 := tH.keep Kc17
    have f20 := i1.keep Kc17 (fun q => by simp only [List.mem_cons, List.not_mem_nil, or_false] at q; exact (Ne.symm u_r0_ah) q)
    have f21 := i2.keep Kc17 (fun q => by simp only [List.mem_cons, List.not_mem_nil, or_false] at q; exact (Ne.symm u_r0_ao) q)
    have f22 := i3.keep Kc17 (fun q => by simp only [List.mem_cons, List.not_mem_nil, or_false] at q; exact (Ne.symm u_r0_au) q)
    have f23 := i4.keep Kc17 (fun q => by simp only [List.mem_cons, List.not_mem_nil, or_false] at q; exact (Ne.symm u_r0_ab) q)
    have f24 := i5.keep Kc17 (fun q => by simp only [List.mem_cons, List.not_mem_nil, or_false] at q; exact (Ne.symm u_r0_ar) q)
    have Z17 : n0 ≤ T17.heap.size := Nat.le_trans Z0 Kc17.1
    have K17 := K0.trans Kc17 (fun x q => by
        simp only [List.mem_cons, List.not_mem_nil, or_false] at q
        rw [q]; exact (Or.inl (List.mem_of_getElem? (i := 0) rfl)))
    obtain ⟨tE17, tH17, t117, t217, t317, t417, t517, tS17, i117, i217, ⟨fu17, i317⟩, ⟨fb17, i417⟩, ⟨fr17, i517⟩, ⟨g_r0, g_bh, g_bo, g_bu, g_bb, g_br⟩, ⟨u_r0_bh, u_r0_bo, u_r0_bu, u_r0_bb, u_r0_br, u_bh_bo, u_bh_bu, u_bh_bb, u_bh_br, u_bo_bu, u_bo_bb, u_bo_br, u_bu_bb, u_bu_br, u_bb_br⟩⟩ := id TB17
    refine Go.stp (fun t_ k_ => st17.trans k_) ?_
    show Go p.tables e below G (T17.setTop (mkF m 16 #[rv r0, iv p1, rv hd, lv q3, sd, iv (-1 : Int32)] []))
    refine zaloadN X17 hx (hb hby d30_16) rfl rfl ?_
    refine ziloadN X17 hx (hb hby d30_17) rfl ?_
    refine zaloadN X17 hx (hb hby d30_18) rfl rfl ?_
    refine ziconst X17 hx (hb hby d30_19) (z := (0 : Int32)) rfl ?_
    refine zlconst X17 hx (hb hby d30_20) (z := (0 : Int64)) rfl ?_
    refine zlloadN X17 hx (hb hby d30_21) rfl ?_
    have hmf : mp p1 = false := by rw [← hm]; simpa using hc9
    obtain ⟨Lz, hrz, hlz⟩ := rz_full hrep own_Pl4 own_Pl8 own_Pi8 (by omega) (by decide) rz
    obtain ⟨t', ht', hs', hm'⟩ := hrz.2.1 p1
    obtain ⟨cq25, qq25, qq25'⟩ := tE17.cell
    obtain ⟨_, _, ⟨T25, L25, k25, n25⟩, -, X25, ⟨Lc25, hQ25, l25, y25, z25⟩, st25⟩ := X17.privateBack hx (y := yn31) hown (mvT hZ (wm hw 251 rfl)) (mvT hZ (wm hw 252 rfl)) (sel_priv (mvT hZ (wm hw 214 rfl)) (Cond.privateMethod_at (mvP hZ (wm hw 253 rfl) (args := #[]))) (mvT hZ (wm hw 252 rfl)) (by decide)) (Cond.privateMethod_at (mvP hZ (wm hw 253 rfl) (args := #[]))) (mvT hZ (wm hw 254 rfl)) (by decide) (backOf (W := 0) (rm34_8 l Z a0 hw [] r0 p1 hd (0 : Int32) (0 : Int64) q3 F' K' (3 : Int32) bh bo bu bb br t' T17.heap n0 Z17 ⟨tE17, tH17, t117, t217, t317, t417, t517, tS17, i117, i217, ⟨_, i317⟩, ⟨_, i417⟩, ⟨_, i517⟩, ⟨g_r0, g_bh, g_bo, g_bu, g_bb, g_br⟩, ⟨u_r0_bh, u_r0_bo, u_r0_bu, u_r0_bb, u_r0_br, u_bh_bo, u_bh_bu, u_bh_bb, u_bh_br, u_bo_bu, u_bo_bb, u_bo_br, u_bu_bb, u_bu_br, u_bb_br⟩⟩ (fun u hu => (hs'.1 u hu).1) (hm'.trans hmf)) hZ (wm hw 254 rfl) (wm hw 215 rfl) (by decide) (by decide)) (g := (mkF m 22 #[rv r0, iv p1, rv hd, lv q3, sd, iv (-1 : Int32)] [(.long q3), (.long (0 : Int64)), (.int (0 : Int32)), (.ref hd), (.int p1), (.ref r0)])) rfl (by rw [hml]; rfl) (Steps.refl _) (a := r0) qq25 qq25' (argsL := [(.int p1), (.ref hd), (.int (0 : Int32)), (.long (0 : Int64)), (.long q3)]) (rest := []) (lenOf pd_21 rfl) rfl (by show 2 * 0 + _ ≤ _; exact Nat.le_of_eq rfl) (hb hby d30_22) (fun _ _ => ⟨rfl, rfl, (by decide : 5 + 0 ≤ _), (by decide : 40 + 0 ≤ _)⟩)
    dsimp only [Pt.U, Pt.locs, Pt.cells, Pt.slots] at X25 l25 y25 z25 st25 hQ25
    subst l25 y25 z25
    obtain ⟨rfl, Nq25, Kc25, TB25⟩ := hQ25
    have N25 := Fr.app N17 Nq25
    have f26 := tE17.keep Kc25
    have f27 := tH17.keep Kc25
    have f28 := f20.keep Kc25 (fun q => by simp only [List.mem_cons, List.not_mem_nil, or_false] at q; exact q.elim (fun q => u_ah_bh q) (fun q => q.elim (fun q => u_ah_bo q) (fun q => q.elim (fun q => u_ah_bu q) (fun q => q.elim (fun q => u_ah_bb q) (fun q => u_ah_br q)))))
    have f29 := f21.keep Kc25 (fun q => by simp only [List.mem_cons, List.not_mem_nil, or_false] at q; exact q.elim (fun q => u_ao_bh q) (fun q => q.elim (fun q => u_ao_bo q) (fun q => q.elim (fun q => u_ao_bu q) (fun q => q.elim (fun q => u_ao_bb q) (fun q => u_ao_br q)))))
    have f30 := f22.keep Kc25 (fun q => by simp only [List.mem_cons, List.not_mem_nil, or_false] at q; exact q.elim (fun q => u_au_bh q) (fun q => q.elim (fun q => u_au_bo q) (fun q => q.elim (fun q => u_au_bu q) (fun q => q.elim (fun q => u_au_bb q) (fun q => u_au_br q)))))
    have f31 := f23.keep Kc25 (fun q => by simp only [List.mem_cons, List.not_mem_nil, or_false] at q; exact q.elim (fun q => u_ab_bh q) (fun q => q.elim (fun q => u_ab_bo q) (fun q => q.elim (fun q => u_ab_bu q) (fun q => q.elim (fun q => u_ab_bb q) (fun q => u_ab_br q)))))
    have f32 := f24.keep Kc25 (fun q => by simp only [List.mem_cons, List.not_mem_nil, or_false] at q; exact q.elim (fun q => u_ar_bh q) (fun q => q.elim (fun q => u_ar_bo q) (fun q => q.elim (fun q => u_ar_bu q) (fun q => q.elim (fun q => u_ar_bb q) (fun q => u_ar_br q)))))
    have f33 := t117.keep Kc25 (fun q => by simp only [List.mem_cons, List.not_mem_nil, or_false] at q; exact q.elim (fun q => u_r0_bh q) (fun q => q.elim (fun q => u_r0_bo q) (fun q => q.elim (fun q => u_r0_bu q) (fun q => q.elim (fun q => u_r0_bb q) (fun q => u_r0_br q)))))
    have f34 := t217.keep Kc25 (fun q => by simp only [List.mem_cons, List.not_mem_nil, or_false] at q; exact q.elim (fun q => u_r0_bh q) (fun q => q.elim (fun q => u_r0_bo q) (fun q => q.elim (fun q => u_r0_bu q) (fun q => q.elim (fun q => u_r0_bb q) (fun q => u_r0_br q)))))
    have f35 := t317.keep Kc25 (fun q => by simp only [List.mem_cons, List.not_mem_nil, or_false] at q; exact q.elim (fun q => u_r0_bh q) (fun q => q.elim (fun q => u_r0_bo q) (fun q => q.elim (fun q => u_r0_bu q) (fun q => q.elim (fun q => u_r0_bb q) (fun q => u_r0_br q)))))
    have f36 := t417.keep Kc25 (fun q => by simp only [List.mem_cons, List.not_mem_nil, or_false] at q; exact q.elim (fun q => u_r0_bh q) (fun q => q.elim (fun q => u_r0_bo q) (fun q => q.elim (fun q => u_r0_bu q) (fun q => q.elim (fun q => u_r0_bb q) (fun q => u_r0_br q)))))
    have f37 := t517.keep Kc25 (fun q => by simp only [List.mem_cons, List.not_mem_nil, or_false] at q; exact q.elim (fun q => u_r0_bh q) (fun q => q.elim (fun q => u_r0_bo q) (fun q => q.elim (fun q => u_r0_bu q) (fun q => q.elim (fun q => u_r0_bb q) (fun q => u_r0_br q)))))
    have f38 := tS17.keep Kc25 (fun q => by simp only [List.mem_cons, List.not_mem_nil, or_false] at q; exact q.elim (fun q => u_r0_bh q) (fun q => q.elim (fun q => u_r0_bo q) (fun q => q.elim (fun q => u_r0_bu q) (fun q => q.elim (fun q => u_r0_bb q) (fun q => u_r0_br q)))))
    have Z25 : n0 ≤ T25.heap.size := Nat.le_trans Z17 Kc25.1
    have K25 := K17.trans Kc25 (fun x q => by
        simp only [List.mem_cons, List.not_mem_nil, or_false] at q
        rcases q with rfl | rfl | rfl | rfl | rfl
        · exact (Or.inr sz_bh)
        · exact (Or.inr sz_bo)
        · exact (Or.inr sz_bu)
        · exact (Or.inr sz_bb)
        · exact (Or.inr sz_br))
    obtain ⟨tE25, tH25, t125, t225, t325, t425, t525, tS25, i125, i225, ⟨fu25, i325⟩, ⟨fb25, i425⟩, ⟨fr25, i525⟩, -, -⟩ := id TB25
    refine Go.stp (fun t_ k_ => st25.trans k_) ?_
    show Go p.tables e below G (T25.setTop (mkF m 25 #[rv r0, iv p1, rv hd, lv q3, sd, iv (-1 : Int32)] [(.int (own_it (own_hm8 p1) ((8 : Int32) - (1 : Int32)) t'))]))
    refine zistore X25 hx (l' := #[rv r0, iv p1, rv hd, lv q3, sd, iv (own_it (own_hm8 p1) ((8 : Int32) - (1 : Int32)) t')]) (hb hby d30_25) rfl ?_
    refine zaloadN X25 hx (hb hby d30_27) rfl rfl ?_
    refine zdup X25 hx (hb hby d30_28) rfl ?_
    refine zgetF X25 hx hZ hown (wm hw 266 rfl) rfl tS25 (hb hby d30_29) (fun T39 X39 e39 => ?_)
    refine ziconst X39 hx (hb hby d30_32) (z := (1 : Int32)) rfl ?_
    refine ziadd X39 hx (hb hby d30_33) ?_
    refine zputF X39 hx hZ hown (wm hw 266 rfl) e39 tS25 tE25 (Or.inl (wm hw 267 rfl)) (wm hw 214 rfl) (ty := .int) (by decide) rfl rfl (hb hby d30_34) (fun T40 h40 X40 e40 W40 => ?_)
    have f41 := tS25.same W40
    have f42 := tE25.wr W40
    have f43 := tH25.wr W40
    have f44 := f28.other W40 (Ne.symm u_r0_ah)
    have f45 := f29.other W40 (Ne.symm u_r0_ao)
    have f46 := f30.other W40 (Ne.symm u_r0_au)
    have f47 := f31.other W40 (Ne.symm u_r0_ab)
    have f48 := f32.other W40 (Ne.symm u_r0_ar)
    have f49 := t125.other W40 (Or.inr (slot_ne (Or.inl (wm hw 241 rfl)) (Or.inl (wm hw 267 rfl)) (by decide) (t := (.array .int)) (t' := .int) (by decide) (by decide)))
    have f50 := t225.other W40 (Or.inr (slot_ne (Or.inl (wm hw 230 rfl)) (Or.inl (wm hw 267 rfl)) (by decide) (t := (.array (.object sn0))) (t' := .int) (by decide) (by decide)))
    have f51 := t325.other W40 (Or.inr (slot_ne (Or.inl (wm hw 245 rfl)) (Or.inl (wm hw 267 rfl)) (by decide) (t := (.array .int)) (t' := .int) (by decide) (by decide)))
    have f52 := t425.other W40 (Or.inr (slot_ne (Or.inl (wm hw 248 rfl)) (Or.inl (wm hw 267 rfl)) (by decide) (t := (.array .long)) (t' := .int) (by decide) (by decide)))
    have f53 := t525.other W40 (Or.inr (slot_ne (Or.inl (wm hw 250 rfl)) (Or.inl (wm hw 267 rfl)) (by decide) (t := (.array .long)) (t' := .int) (by decide) (by decide)))
    have f54 := i125.other W40 (Ne.symm u_r0_bh)
    have f55 := i225.other W40 (Ne.symm u_r0_bo)
    have f56 := i325.other W40 (Ne.symm u_r0_bu)
    have f57 := i425.other W40 (Ne.symm u_r0_bb)
    have f58 := i525.other W40 (Ne.symm u_r0_br)
    have N40 := Fr.snoc X40 N25 g_r0
    have K40 := K25.wr W40 (Or.inl (List.mem_of_getElem? (i := 0) rfl))
    have Z40 := Nat.le_trans Z25 (Keep.of_wr W40).1
    have hz37 : Fld Z h40 r0 sn1 "size" "I" (.int (4 : Int32)) := by
      have q := f41
      rw [show ((3 : Int32) + (1 : Int32)) = (4 : Int32) by decide] at q
      exact q
    refine zaloadN X40 hx (hb hby d30_37) rfl rfl ?_
    refine zgetF X40 hx hZ hown (wm hw 244 rfl) e40 f51 (hb hby d30_38) (fun T59 X59 e59 => ?_)
    refine ziload X59 hx (hb hby d30_41) rfl ?_
    show Go p.tables e below G (T59.setTop (mkF m 43 #[rv r0, iv p1, rv hd, lv q3, sd, iv (own_it (own_hm8 p1) ((8 : Int32) - (1 : Int32)) t')] [(.int (own_it (own_hm8 p1) ((8 : Int32) - (1 : Int32)) t')), (.ref bu)]))
    refine Go.stp (F' := T59.setTop (mkF m 44 #[rv r0, iv p1, rv hd, lv q3, sd, iv (own_it (own_hm8 p1) ((8 : Int32) - (1 : Int32)) t')] [(.int (own_it (own_hm8 p1) ((8 : Int32) - (1 : Int32)) t')), (.ref bu), (.int (own_it (own_hm8 p1) ((8 : Int32) - (1 : Int32)) t')), (.ref bu)])) (fun t_ k_ => by jvm_step X59.here [X59.here.top, hx, (hb hby d30_43), Value.category]; exact k_) ?_
    refine zial X59 hx hZ e59 f56 (own_tb8 p1 t') (hb hby d30_44) ?_
    refine ziconst X59 hx (hb hby d30_45) (z := (1 : Int32)) rfl ?_
    refine ziadd X59 hx (hb hby d30_46) ?_
    refine zias X59 hx hZ e59 f56 (own_tb8 p1 t') (hb hby d30_47) (fun T60 h60 X60 e60 W60 f61 => ?_)
    have f62 := f42.wr W60
    have f63 := f43.wr W60
    have f64 := f44.other W60 u_ah_bu
    have f65 := f45.other W60 u_ao_bu
    have f66 := f46.other W60 u_au_bu
    have f67 := f47.other W60 u_ab_bu
    have f68 := f48.other W60 u_ar_bu
    have f69 := f49.other W60 (Or.inl u_r0_bu)
    have f70 := f50.other W60 (Or.inl u_r0_bu)
    have f71 := f51.other W60 (Or.inl u_r0_bu)
    have f72 := f52.other W60 (Or.inl u_r0_bu)
    have f73 := f53.other W60 (Or.inl u_r0_bu)
    have f74 := f54.other W60 u_bh_bu
    have f75 := f55.other W60 u_bo_bu
    have f76 := f57.other W60 (Ne.symm u_bu_bb)
    have f77 := f58.other W60 (Ne.symm u_bu_br)
    have f78 := hz37.other W60 (Or.inl u_r0_bu)
    have N60 := Fr.snoc X60 N40 g_bu
    have K60 := K40.wr W60 (Or.inr sz_bu)
    have Z60 := Nat.le_trans Z40 (Keep.of_wr W60).1
    refine zretV X60 hx hrt hlk (hb hby d30_48) e60 hG (by decide) (by decide) ?_
    refine ⟨rfl, N60, _, K60, f63, ?_⟩
    rw [if_neg (by rw [hmf]; decide)]
    refine Or.inr (Or.inr ⟨by decide, by decide, _, _, _, bh, bo, bu, bb, br, (reph_add hrz own_Pl8 own_Pi8 (by omega) (fun u hu => (hs'.1 u hu).1) (hm'.trans hmf) ht' hmf), (by simp only [List.length_cons]; omega), ?_⟩)
    rw [show own_i (3 + 1) = (4 : Int32) by decide]
    exact ⟨f62, f63, f69, f70, f71, f72, f73, f78, f74, f75, ⟨_, f61⟩, ⟨_, f76⟩, ⟨_, f77⟩, ⟨g_r0, g_bh, g_bo, g_bu, g_bb, g_br⟩, ⟨u_r0_bh, u_r0_bo, u_r0_bu, u_r0_bb, u_r0_br, u_bh_bo, u_bh_bu, u_bh_bb, u_bh_br, u_bo_bu, u_bo_bb, u_bo_br, u_bu_bb, u_bu_br, u_bb_br⟩⟩
theorem ef_30_4 (m : MethodId) (r0 : Addr) (p1 : Int32) (hd : Addr) (q3 : Int64) : entryFrame m #[(.ref r0), (.int p1), (.ref hd), (.long q3)] 6 = mkF m 0 #[rv r0, iv p1, rv hd, lv q3, sd, un] [] := by first | (simp [entryFrame, mkF, argsToLocals, Value.category, iv, rv, lv, un, sd]; done) | rfl
set_option maxRecDepth 65536 in
set_option maxHeartbeats 40000000 in
theorem rm30_4 (l : Launch) (Z : State) (a0 : Array Value) (hw : ∀ d ∈ tables_1, d.before a0 Z = true) (ws : List Jvm.Cond) (r0 : Addr) (p1 : Int32) (hd : Addr) (q3 : Int64) (F : Nat → Bool) (K : Nat → Int32) (ah : Addr) (ao : Addr) (au : Addr) (ab : Addr) (ar : Addr) (mp : Int32 → Bool) (Ls : List Nat) (h0 : Heap) (n0 : Nat) (Z0 : n0 ≤ h0.size) (TB : Tb Z h0 n0 r0 hd 8 F K (4 : Int32) ah ao au ab ar) (hrep : RepH 8 own_P8 F K mp Ls) (hL : Ls.length ≤ 4) :
    Mzz l yn35 cn35 6 none ws (rk 5 5 40 79) #[(.ref r0), (.int p1), (.ref hd), (.long q3)] Z h0 (QA Z r0 hd p1 mp 4 h0 n0) := by
  refine Mzz.go (own := sn1) (nm := "add") (L0 := #[rv r0, iv p1, rv hd, lv q3, sd, un]) (plainFor_of_name pn_29) rfl rfl (fun m => ef_30_4 m r0 p1 hd q3) ?_
  intro p e s m below meth c s₁ hx hby hml hown hnm X0 e0 hZ hrt hlk G hG
  have N0 := Fr.nil n0
  have K0 := Keep.refl h0 [r0, ah, ao, au, ab, ar]
  obtain ⟨tE, tH, t1, t2, t3, t4, t5, tS, i1, i2, ⟨fu, i3⟩, ⟨fb, i4⟩, ⟨fr, i5⟩, ⟨g_r0, g_ah, g_ao, g_au, g_ab, g_ar⟩, ⟨u_r0_ah, u_r0_ao, u_r0_au, u_r0_ab, u_r0_ar, u_ah_ao, u_ah_au, u_ah_ab, u_ah_ar, u_ao_au, u_ao_ab, u_ao_ar, u_au_ab, u_au_ar, u_ab_ar⟩⟩ := id TB
  obtain ⟨t, ht, hs, hm⟩ := hrep.2.1 p1
  show Go p.tables e below G (s₁.setTop (mkF m 0 #[rv r0, iv p1, rv hd, lv q3, sd, un] []))
  refine zaloadN X0 hx (hb hby d30_0) rfl rfl ?_
  refine ziloadN X0 hx (hb hby d30_1) rfl ?_
  obtain ⟨cq1, qq1, qq1'⟩ := tE.cell
  obtain ⟨_, _, ⟨T1, L1, k1, n1⟩, -, X1, ⟨Lc1, hQ1, l1, y1, z1⟩, st1⟩ := X0.privateBack hx (y := yn29) hown (mvT hZ (wm hw 225 rfl)) (mvT hZ (wm hw 226 rfl)) (sel_priv (mvT hZ (wm hw 214 rfl)) (Cond.privateMethod_at (mvP hZ (wm hw 227 rfl) (args := #[]))) (mvT hZ (wm hw 226 rfl)) (by decide)) (Cond.privateMethod_at (mvP hZ (wm hw 227 rfl) (args := #[]))) (mvT hZ (wm hw 228 rfl)) (by decide) (backOf (W := 0) (rm31_8 l Z a0 hw [] r0 p1 hd F K ah ao t h0 n0 Z0 tE t1 t2 i1 i2 hs) hZ (wm hw 228 rfl) (wm hw 215 rfl) (by decide) (by decide)) (g := (mkF m 2 #[rv r0, iv p1, rv hd, lv q3, sd, un] [(.int p1), (.ref r0)])) rfl (by rw [hml]; rfl) (Steps.refl _) (a := r0) (by rw [e0]; exact qq1) qq1' (argsL := [(.int p1)]) (rest := []) (lenOf pd_19 rfl) rfl (by show 2 * 0 + _ ≤ _; exact Nat.le_of_eq rfl) (hb hby d30_2) (fun _ _ => ⟨rfl, e0, (by decide : 0 + 0 ≤ _), (by decide : 0 + 0 ≤ _)⟩)
  dsimp only [Pt.U, Pt.locs, Pt.cells, Pt.slots] at X1 l1 y1 z1 st1 hQ1
  subst l1 y1 z1
  obtain ⟨rfl, Nq1, e1⟩ := hQ1
  have N1 := Fr.app N0 Nq1
  refine Go.stp (fun t_ k_ => st1.trans k_) ?_
  show Go p.tables e below G (T1.setTop (mkF m 5 #[rv r0, iv p1, rv hd, lv q3, sd, un] [(.int (if F (own_P8 p1 t) = true then (own_it (own_hm8 p1) ((8 : Int32) - (1 : Int32)) t) else (-1 : Int32)))]))
  refine zistore X1 hx (l' := #[rv r0, iv p1, rv hd, lv q3, sd, iv (if F (own_P8 p1 t) = true then (own_it (own_hm8 p1) ((8 : Int32) - (1 : Int32)) t) else (-1 : Int32))]) (hb hby d30_5) rfl ?_
  refine ziload X1 hx (hb hby d30_7) rfl ?_
  by_cases hc9 : F (own_P8 p1 t) = true
  · rw [if_pos hc9]
    show Go p.tables e below G (T1.setTop (mkF m 9 #[rv r0, iv p1, rv hd, lv q3, sd, iv (own_it (own_hm8 p1) ((8 : Int32) - (1 : Int32)) t)] [(.int (own_it (own_hm8 p1) ((8 : Int32) - (1 : Int32)) t))]))
    have hd9 : ¬ ((own_it (own_hm8 p1) ((8 : Int32) - (1 : Int32)) t) < (0 : Int32)) := (own_nn (own_tb8 p1 t).1)
    refine zifYes X1 hx (pc' := 37) (hb hby d30_9) ((if0 _ _).trans (flt hd9).2.1) (by decide) (by decide) ?_
    refine zaloadN X1 hx (hb hby d30_37) rfl rfl ?_
    refine zgetF X1 hx hZ hown (wm hw 244 rfl) e1 t3 (hb hby d30_38) (fun T2 X2 e2 => ?_)
    refine ziload X2 hx (hb hby d30_41) rfl ?_
    show Go p.tables e below G (T2.setTop (mkF m 43 #[rv r0, iv p1, rv hd, lv q3, sd, iv (own_it (own_hm8 p1) ((8 : Int32) - (1 : Int32)) t)] [(.int (own_it (own_hm8 p1) ((8 : Int32) - (1 : Int32)) t)), (.ref au)]))
    refine Go.stp (F' := T2.setTop (mkF m 44 #[rv r0, iv p1, rv hd, lv q3, sd, iv (own_it (own_hm8 p1) ((8 : Int32) - (1 : Int32)) t)] [(.int (own_it (own_hm8 p1) ((8 : Int32) - (1 : Int32)) t)), (.ref au), (.int (own_it (own_hm8 p1) ((8 : Int32) - (1 : Int32)) t)), (.ref au)])) (fun t_ k_ => by jvm_step X2.here [X2.here.top, hx, (hb hby d30_43), Value.category]; exact k_) ?_
    refine zial X2 hx hZ e2 i3 (own_tb8 p1 t) (hb hby d30_44) ?_
    refine ziconst X2 hx (hb hby d30_45) (z := (1 : Int32)) rfl ?_
    refine ziadd X2 hx (hb hby d30_46) ?_
    refine zias X2 hx hZ e2 i3 (own_tb8 p1 t) (hb hby d30_47) (fun T3 h3 X3 e3 W3 f4 => ?_)
    have f5 := tE.wr W3
    have f6 := tH.wr W3
    have f7 := t1.other W3 (Or.inl u_r0_au)
    have f8 := t2.other W3 (Or.inl u_r0_au)
    have f9 := t3.other W3 (Or.inl u_r0_au)
    have f10 := t4.other W3 (Or.inl u_r0_au)
    have f11 := t5.other W3 (Or.inl u_r0_au)
    have f12 := tS.other W3 (Or.inl u_r0_au)
    have f13 := i1.other W3 u_ah_au
    have f14 := i2.other W3 u_ao_au
    have f15 := i4.other W3 (Ne.symm u_au_ab)
    have f16 := i5.other W3 (Ne.symm u_au_ar)
    have N3 := Fr.snoc X3 N1 g_au
    have K3 := K0.wr W3 (Or.inl (List.mem_of_getElem? (i := 3) rfl))
    have Z3 := Nat.le_trans Z0 (Keep.of_wr W3).1
    refine zretV X3 hx hrt hlk (hb hby d30_48) e3 hG (by decide) (by decide) ?_
    have hmt : mp p1 = true := hm.symm.trans hc9
    refine ⟨rfl, N3, _, K3, f6, ?_⟩
    rw [if_pos hmt, ins_same hmt]
    refine Or.inr (Or.inr ⟨by decide, by decide, _, _, _, ah, ao, au, ab, ar, hrep, hL, ?_⟩)
    rw [show own_i (4) = (4 : Int32) by decide]
    exact ⟨f5, f6, f7, f8, f9, f10, f11, f12, f13, f14, ⟨_, f4⟩, ⟨_, f15⟩, ⟨_, f16⟩, ⟨g_r0, g_ah, g_ao, g_au, g_ab, g_ar⟩, ⟨u_r0_ah, u_r0_ao, u_r0_au, u_r0_ab, u_r0_ar, u_ah_ao, u_ah_au, u_ah_ab, u_ah_ar, u_ao_au, u_ao_ab, u_ao_ar, u_au_ab, u_au_ar, u_ab_ar⟩⟩
  · rw [if_neg hc9]
    show Go p.tables e below G (T1.setTop (mkF m 9 #[rv r0, iv p1, rv hd, lv q3, sd, iv (-1 : Int32)] [(.int (-1 : Int32))]))
    refine zifNo X1 hx (hb hby d30_9) ((if0 _ _).trans (tlt (by decide : (-1 : Int32) < (0 : Int32))).2.1) ?_
    refine zaloadN X1 hx (hb hby d30_12) rfl rfl ?_
    obtain ⟨cq17, qq17, qq17'⟩ := tE.cell
    obtain ⟨_, _, ⟨T17, L17, k17, n17⟩, -, X17, ⟨Lc17, hQ17, l17, y17, z17⟩, st17⟩ := X1.privateBack hx (y := yn34) hown (mvT hZ (wm hw 231 rfl)) (mvT hZ (wm hw 232 rfl)) (sel_priv (mvT hZ (wm hw 214 rfl)) (Cond.privateMethod_at (mvP hZ (wm hw 233 rfl) (args := #[]))) (mvT hZ (wm hw 232 rfl)) (by decide)) (Cond.privateMethod_at (mvP hZ (wm hw 233 rfl) (args := #[]))) (mvT hZ (wm hw 234 rfl)) (by decide) (backOf (W := 0) (rm32_4 l Z a0 hw [] r0 hd F K ah ao au ab ar h0 n0 Z0 ⟨tE, tH, t1, t2, t3, t4, t5, tS, i1, i2, ⟨_, i3⟩, ⟨_, i4⟩, ⟨_, i5⟩, ⟨g_r0, g_ah, g_ao, g_au, g_ab, g_ar⟩, ⟨u_r0_ah, u_r0_ao, u_r0_au, u_r0_ab, u_r0_ar, u_ah_ao, u_ah_au, u_ah_ab, u_ah_ar, u_ao_au, u_ao_ab, u_ao_ar, u_au_ab, u_au_ar, u_ab_ar⟩⟩) hZ (wm hw 234 rfl) (wm hw 215 rfl) (by decide) (by decide)) (g := (mkF m 13 #[rv r0, iv p1, rv hd, lv q3, sd, iv (-1 : Int32)] [(.ref r0)])) rfl (by rw [hml]; rfl) (Steps.refl _) (a := r0) (by rw [e1]; exact qq17) qq17' (argsL := []) (rest := []) (lenOf pd_0 rfl) rfl (by show 2 * 0 + _ ≤ _; exact Nat.le_of_eq rfl) (hb hby d30_13) (fun _ _ => ⟨rfl, e1, (by decide : 0 + 5 ≤ _), (by decide : 0 + 40 ≤ _)⟩)
    dsimp only [Pt.U, Pt.locs, Pt.cells, Pt.slots] at X17 l17 y17 z17 st17 hQ17
    subst l17 y17 z17
    obtain ⟨rfl, Nq17, e17⟩ := hQ17
    have N17 := Fr.app N1 Nq17
    refine Go.stp (fun t_ k_ => st17.trans k_) ?_
    show Go p.tables e below G (T17.setTop (mkF m 16 #[rv r0, iv p1, rv hd, lv q3, sd, iv (-1 : Int32)] []))
    refine zaloadN X17 hx (hb hby d30_16) rfl rfl ?_
    refine ziloadN X17 hx (hb hby d30_17) rfl ?_
    refine zaloadN X17 hx (hb hby d30_18) rfl rfl ?_
    refine ziconst X17 hx (hb hby d30_19) (z := (0 : Int32)) rfl ?_
    refine zlconst X17 hx (hb hby d30_20) (z := (0 : Int64)) rfl ?_
    refine zlloadN X17 hx (hb hby d30_21) rfl ?_
    have hmf : mp p1 = false := by rw [← hm]; simpa using hc9
    obtain ⟨cq18, qq18, qq18'⟩ := tE.cell
    obtain ⟨_, _, ⟨T18, L18, k18, n18⟩, -, X18, ⟨Lc18, hQ18, l18, y18, z18⟩, st18⟩ := X17.privateBack hx (y := yn31) hown (mvT hZ (wm hw 251 rfl)) (mvT hZ (wm hw 252 rfl)) (sel_priv (mvT hZ (wm hw 214 rfl)) (Cond.privateMethod_at (mvP hZ (wm hw 253 rfl) (args := #[]))) (mvT hZ (wm hw 252 rfl)) (by decide)) (Cond.privateMethod_at (mvP hZ (wm hw 253 rfl) (args := #[]))) (mvT hZ (wm hw 254 rfl)) (by decide) (backOf (W := 0) (rm34_8 l Z a0 hw [] r0 p1 hd (0 : Int32) (0 : Int64) q3 F K (4 : Int32) ah ao au ab ar t h0 n0 Z0 ⟨tE, tH, t1, t2, t3, t4, t5, tS, i1, i2, ⟨_, i3⟩, ⟨_, i4⟩, ⟨_, i5⟩, ⟨g_r0, g_ah, g_ao, g_au, g_ab, g_ar⟩, ⟨u_r0_ah, u_r0_ao, u_r0_au, u_r0_ab, u_r0_ar, u_ah_ao, u_ah_au, u_ah_ab, u_ah_ar, u_ao_au, u_ao_ab, u_ao_ar, u_au_ab, u_au_ar, u_ab_ar⟩⟩ (fun u hu => (hs.1 u hu).1) (hm.trans hmf)) hZ (wm hw 254 rfl) (wm hw 215 rfl) (by decide) (by decide)) (g := (mkF m 22 #[rv r0, iv p1, rv hd, lv q3, sd, iv (-1 : Int32)] [(.long q3), (.long (0 : Int64)), (.int (0 : Int32)), (.ref hd), (.int p1), (.ref r0)])) rfl (by rw [hml]; rfl) (Steps.refl _) (a := r0) (by rw [e17]; exact qq18) qq18' (argsL := [(.int p1), (.ref hd), (.int (0 : Int32)), (.long (0 : Int64)), (.long q3)]) (rest := []) (lenOf pd_21 rfl) rfl (by show 2 * 0 + _ ≤ _; exact Nat.le_of_eq rfl) (hb hby d30_22) (fun _ _ => ⟨rfl, e17, (by decide : 5 + 0 ≤ _), (by decide : 40 + 0 ≤ _)⟩)
    dsimp only [Pt.U, Pt.locs, Pt.cells, Pt.slots] at X18 l18 y18 z18 st18 hQ18
    subst l18 y18 z18
    obtain ⟨rfl, Nq18, Kc18, TB18⟩ := hQ18
    have N18 := Fr.app N17 Nq18
    have f19 := tE.keep Kc18
    have f20 := tH.keep Kc18
    have f21 := t1.keep Kc18 (fun q => by simp only [List.mem_cons, List.not_mem_nil, or_false] at q; exact q.elim (fun q => u_r0_ah q) (fun q => q.elim (fun q => u_r0_ao q) (fun q => q.elim (fun q => u_r0_au q) (fun q => q.elim (fun q => u_r0_ab q) (fun q => u_r0_ar q)))))
    have f22 := t2.keep Kc18 (fun q => by simp only [List.mem_cons, List.not_mem_nil, or_false] at q; exact q.elim (fun q => u_r0_ah q) (fun q => q.elim (fun q => u_r0_ao q) (fun q => q.elim (fun q => u_r0_au q) (fun q => q.elim (fun q => u_r0_ab q) (fun q => u_r0_ar q)))))
    have f23 := t3.keep Kc18 (fun q => by simp only [List.mem_cons, List.not_mem_nil, or_false] at q; exact q.elim (fun q => u_r0_ah q) (fun q => q.elim (fun q => u_r0_ao q) (fun q => q.elim (fun q => u_r0_au q) (fun q => q.elim (fun q => u_r0_ab q) (fun q => u_r0_ar q)))))
    have f24 := t4.keep Kc18 (fun q => by simp only [List.mem_cons, List.not_mem_nil, or_false] at q; exact q.elim (fun q => u_r0_ah q) (fun q => q.elim (fun q => u_r0_ao q) (fun q => q.elim (fun q => u_r0_au q) (fun q => q.elim (fun q => u_r0_ab q) (fun q => u_r0_ar q)))))
    have f25 := t5.keep Kc18 (fun q => by simp only [List.mem_cons, List.not_mem_nil, or_false] at q; exact q.elim (fun q => u_r0_ah q) (fun q => q.elim (fun q => u_r0_ao q) (fun q => q.elim (fun q => u_r0_au q) (fun q => q.elim (fun q => u_r0_ab q) (fun q => u_r0_ar q)))))
    have f26 := tS.keep Kc18 (fun q => by simp only [List.mem_cons, List.not_mem_nil, or_false] at q; exact q.elim (fun q => u_r0_ah q) (fun q => q.elim (fun q => u_r0_ao q) (fun q => q.elim (fun q => u_r0_au q) (fun q => q.elim (fun q => u_r0_ab q) (fun q => u_r0_ar q)))))
    have Z18 : n0 ≤ T18.heap.size := Nat.le_trans Z0 Kc18.1
    have K18 := K0.trans Kc18 (fun x q => by
        simp only [List.mem_cons, List.not_mem_nil, or_false] at q
        rcases q with rfl | rfl | rfl | rfl | rfl
        · exact (Or.inl (List.mem_of_getElem? (i := 1) rfl))
        · exact (Or.inl (List.mem_of_getElem? (i := 2) rfl))
        · exact (Or.inl (List.mem_of_getElem? (i := 3) rfl))
        · exact (Or.inl (List.mem_of_getElem? (i := 4) rfl))
        · exact (Or.inl (List.mem_of_getElem? (i := 5) rfl)))
    obtain ⟨tE18, tH18, t118, t218, t318, t418, t518, tS18, i118, i218, ⟨fu18, i318⟩, ⟨fb18, i418⟩, ⟨fr18, i518⟩, -, -⟩ := id TB18
    refine Go.stp (fun t_ k_ => st18.trans k_) ?_
    show Go p.tables e below G (T18.setTop (mkF m 25 #[rv r0, iv p1, rv hd, lv q3, sd, iv (-1 : Int32)] [(.int (own_it (own_hm8 p1) ((8 : Int32) - (1 : Int32)) t))]))
    refine zistore X18 hx (l' := #[rv r0, iv p1, rv hd, lv q3, sd, iv (own_it (own_hm8 p1) ((8 : Int32) - (1 : Int32)) t)]) (hb hby d30_25) rfl ?_
    refine zaloadN X18 hx (hb hby d30_27) rfl rfl ?_
    refine zdup X18 hx (hb hby d30_28) rfl ?_
    refine zgetF X18 hx hZ hown (wm hw 266 rfl) rfl tS18 (hb hby d30_29) (fun T27 X27 e27 => ?_)
    refine ziconst X27 hx (hb hby d30_32) (z := (1 : Int32)) rfl ?_
    refine ziadd X27 hx (hb hby d30_33) ?_
    refine zputF X27 hx hZ hown (wm hw 266 rfl) e27 tS18 tE18 (Or.inl (wm hw 267 rfl)) (wm hw 214 rfl) (ty := .int) (by decide) rfl rfl (hb hby d30_34) (fun T28 h28 X28 e28 W28 => ?_)
    have f29 := tS18.same W28
    have f30 := tE18.wr W28
    have f31 := tH18.wr W28
    have f32 := t118.other W28 (Or.inr (slot_ne (Or.inl (wm hw 241 rfl)) (Or.inl (wm hw 267 rfl)) (by decide) (t := (.array .int)) (t' := .int) (by decide) (by decide)))
    have f33 := t218.other W28 (Or.inr (slot_ne (Or.inl (wm hw 230 rfl)) (Or.inl (wm hw 267 rfl)) (by decide) (t := (.array (.object sn0))) (t' := .int) (by decide) (by decide)))
    have f34 := t318.other W28 (Or.inr (slot_ne (Or.inl (wm hw 245 rfl)) (Or.inl (wm hw 267 rfl)) (by decide) (t := (.array .int)) (t' := .int) (by decide) (by decide)))
    have f35 := t418.other W28 (Or.inr (slot_ne (Or.inl (wm hw 248 rfl)) (Or.inl (wm hw 267 rfl)) (by decide) (t := (.array .long)) (t' := .int) (by decide) (by decide)))
    have f36 := t518.other W28 (Or.inr (slot_ne (Or.inl (wm hw 250 rfl)) (Or.inl (wm hw 267 rfl)) (by decide) (t := (.array .long)) (t' := .int) (by decide) (by decide)))
    have f37 := i118.other W28 (Ne.symm u_r0_ah)
    have f38 := i218.other W28 (Ne.symm u_r0_ao)
    have f39 := i318.other W28 (Ne.symm u_r0_au)
    have f40 := i418.other W28 (Ne.symm u_r0_ab)
    have f41 := i518.other W28 (Ne.symm u_r0_ar)
    have N28 := Fr.snoc X28 N18 g_r0
    have K28 := K18.wr W28 (Or.inl (List.mem_of_getElem? (i := 0) rfl))
    have Z28 := Nat.le_trans Z18 (Keep.of_wr W28).1
    have hz37 : Fld Z h28 r0 sn1 "size" "I" (.int (5 : Int32)) := by
      have q := f29
      rw [show ((4 : Int32) + (1 : Int32)) = (5 : Int32) by decide] at q
      exact q
    refine zaloadN X28 hx (hb hby d30_37) rfl rfl ?_
    refine zgetF X28 hx hZ hown (wm hw 244 rfl) e28 f34 (hb hby d30_38) (fun T42 X42 e42 => ?_)
    refine ziload X42 hx (hb hby d30_41) rfl ?_
    show Go p.tables e below G (T42.setTop (mkF m 43 #[rv r0, iv p1, rv hd, lv q3, sd, iv (own_it (own_hm8 p1) ((8 : Int32) - (1 : Int32)) t)] [(.int (own_it (own_hm8 p1) ((8 : Int32) - (1 : Int32)) t)), (.ref au)]))
    refine Go.stp (F' := T42.setTop (mkF m 44 #[rv r0, iv p1, rv hd, lv q3, sd, iv (own_it (own_hm8 p1) ((8 : Int32) - (1 : Int32)) t)] [(.int (own_it (own_hm8 p1) ((8 : Int32) - (1 : Int32)) t)), (.ref au), (.int (own_it (own_hm8 p1) ((8 : Int32) - (1 : Int32)) t)), (.ref au)])) (fun t_ k_ => by jvm_step X42.here [X42.here.top, hx, (hb hby d30_43), Value.category]; exact k_) ?_
    refine zial X42 hx hZ e42 f39 (own_tb8 p1 t) (hb hby d30_44) ?_
    refine ziconst X42 hx (hb hby d30_45) (z := (1 : Int32)) rfl ?_
    refine ziadd X42 hx (hb hby d30_46) ?_
    refine zias X42 hx hZ e42 f39 (own_tb8 p1 t) (hb hby d30_47) (fun T43 h43 X43 e43 W43 f44 => ?_)
    have f45 := f30.wr W43
    have f46 := f31.wr W43
    have f47 := f32.other W43 (Or.inl u_r0_au)
    have f48 := f33.other W43 (Or.inl u_r0_au)
    have f49 := f34.other W43 (Or.inl u_r0_au)
    have f50 := f35.other W43 (Or.inl u_r0_au)
    have f51 := f36.other W43 (Or.inl u_r0_au)
    have f52 := f37.other W43 u_ah_au
    have f53 := f38.other W43 u_ao_au
    have f54 := f40.other W43 (Ne.symm u_au_ab)
    have f55 := f41.other W43 (Ne.symm u_au_ar)
    have f56 := hz37.other W43 (Or.inl u_r0_au)
    have N43 := Fr.snoc X43 N28 g_au
    have K43 := K28.wr W43 (Or.inl (List.mem_of_getElem? (i := 3) rfl))
    have Z43 := Nat.le_trans Z28 (Keep.of_wr W43).1
    refine zretV X43 hx hrt hlk (hb hby d30_48) e43 hG (by decide) (by decide) ?_
    refine ⟨rfl, N43, _, K43, f46, ?_⟩
    rw [if_neg (by rw [hmf]; decide)]
    refine Or.inr (Or.inr ⟨by decide, by decide, _, _, _, ah, ao, au, ab, ar, (reph_add hrep own_Pl8 own_Pi8 (by omega) (fun u hu => (hs.1 u hu).1) (hm.trans hmf) ht hmf), (by simp only [List.length_cons]; omega), ?_⟩)
    rw [show own_i (4 + 1) = (5 : Int32) by decide]
    exact ⟨f45, f46, f47, f48, f49, f50, f51, f56, f52, f53, ⟨_, f44⟩, ⟨_, f54⟩, ⟨_, f55⟩, ⟨g_r0, g_ah, g_ao, g_au, g_ab, g_ar⟩, ⟨u_r0_ah, u_r0_ao, u_r0_au, u_r0_ab, u_r0_ar, u_ah_ao, u_ah_au, u_ah_ab, u_ah_ar, u_ao_au, u_ao_ab, u_ao_ar, u_au_ab, u_au_ar, u_ab_ar⟩⟩
theorem d40_0 : decode cn36 0 = .ok (.aload_n 0, 1) := by decide +kernel
theorem d40_1 : decode cn36 1 = .ok (.getfield 17, 3) := by decide +kernel
theorem d40_4 : decode cn36 4 = .ok (.arraylength, 1) := by decide +kernel
theorem d40_5 : decode cn36 5 = .ok (.istore_n 1, 1) := by decide +kernel
theorem d40_6 : decode cn36 6 = .ok (.iload_n 1, 1) := by decide +kernel
theorem d40_7 : decode cn36 7 = .ok (.iconst 4, 1) := by decide +kernel
theorem d40_8 : decode cn36 8 = .ok (.if_icmp .le 33, 3) := by decide +kernel
theorem d40_41 : decode cn36 41 = .ok (.iload_n 1, 1) := by decide +kernel
theorem d40_42 : decode cn36 42 = .ok (.aload_n 0, 1) := by decide +kernel
theorem d40_43 : decode cn36 43 = .ok (.getfield 17, 3) := by decide +kernel
theorem d40_46 : decode cn36 46 = .ok (.arraylength, 1) := by decide +kernel
theorem d40_47 : decode cn36 47 = .ok (.if_icmp .ge 8, 3) := by decide +kernel
theorem d40_55 : decode cn36 55 = .ok (.return_, 1) := by decide +kernel
theorem ef_40_a (m : MethodId) (r0 : Addr) : entryFrame m #[(.ref r0)] 2 = mkF m 0 #[rv r0, un] [] := by first | (simp [entryFrame, mkF, argsToLocals, Value.category, iv, rv, lv, un, sd]; done) | rfl
def Q40_a (Z : State) (r0 : Addr) (hd : Addr) (F : Nat → Bool) (K : Nat → Int32) (sz : Int32) (ah : Addr) (ao : Addr) (au : Addr) (ab : Addr) (ar : Addr) (h0 : Heap) (n0 : Nat) (v : Option Value) (h : Heap) (L : List Loc) : Prop := v = none ∧ Fr n0 L ∧ h = h0
set_option maxRecDepth 65536 in
set_option maxHeartbeats 40000000 in
theorem rm40_a (l : Launch) (Z : State) (a0 : Array Value) (hw : ∀ d ∈ tables_1, d.before a0 Z = true) (ws : List Jvm.Cond) (r0 : Addr) (hd : Addr) (F : Nat → Bool) (K : Nat → Int32) (sz : Int32) (ah : Addr) (ao : Addr) (au : Addr) (ab : Addr) (ar : Addr) (h0 : Heap) (n0 : Nat) (Z0 : n0 ≤ h0.size) (TB : Tb Z h0 n0 r0 hd 4 F K sz ah ao au ab ar) :
    Mzz l yn36 cn36 2 none ws (rk 4 5 20 67) #[(.ref r0)] Z h0 (Q40_a Z r0 hd F K sz ah ao au ab ar h0 n0) := by
  refine Mzz.go (own := sn1) (nm := "shrink") (L0 := #[rv r0, un]) (plainFor_of_name pn_29) rfl rfl (fun m => ef_40_a m r0) ?_
  intro p e s m below meth c s₁ hx hby hml hown hnm X0 e0 hZ hrt hlk G hG
  have N0 := Fr.nil n0
  obtain ⟨tE, tH, t1, t2, t3, t4, t5, tS, i1, i2, ⟨fu, i3⟩, ⟨fb, i4⟩, ⟨fr, i5⟩, ⟨g_r0, g_ah, g_ao, g_au, g_ab, g_ar⟩, ⟨u_r0_ah, u_r0_ao, u_r0_au, u_r0_ab, u_r0_ar, u_ah_ao, u_ah_au, u_ah_ab, u_ah_ar, u_ao_au, u_ao_ab, u_ao_ar, u_au_ab, u_au_ar, u_ab_ar⟩⟩ := id TB
  show Go p.tables e below G (s₁.setTop (mkF m 0 #[rv r0, un] []))
  refine zaloadN X0 hx (hb hby d40_0) rfl rfl ?_
  refine zgetF X0 hx hZ hown (wm hw 229 rfl) e0 t2 (hb hby d40_1) (fun T1 X1 e1 => ?_)
  obtain ⟨cl2, Ar2, Sz2, -, -⟩ := id i2
  refine zlen X1 hx hZ e1 Ar2 Sz2 (z := (4 : Int32)) rfl (hb hby d40_4) ?_
  refine zistoreN X1 hx (l' := #[rv r0, iv (4 : Int32)]) (hb hby d40_5) rfl ?_
  refine ziloadN X1 hx (hb hby d40_6) rfl ?_
  refine ziconst X1 hx (hb hby d40_7) (z := (4 : Int32)) rfl ?_
  refine zicmpYes X1 hx (pc' := 41) (hb hby d40_8) (flt (by decide : ¬ ((4 : Int32) < (4 : Int32)))).2.2.2 (by decide) (by decide) ?_
  refine ziloadN X1 hx (hb hby d40_41) rfl ?_
  refine zaloadN X1 hx (hb hby d40_42) rfl rfl ?_
  refine zgetF X1 hx hZ hown (wm hw 229 rfl) e1 t2 (hb hby d40_43) (fun T3 X3 e3 => ?_)
  obtain ⟨cl4, Ar4, Sz4, -, -⟩ := id i2
  refine zlen X3 hx hZ e3 Ar4 Sz4 (z := (4 : Int32)) rfl (hb hby d40_46) ?_
  refine zicmpYes X3 hx (pc' := 55) (hb hby d40_47) (flt (by decide : ¬ ((4 : Int32) < (4 : Int32)))).2.1 (by decide) (by decide) ?_
  refine zretV X3 hx hrt hlk (hb hby d40_55) e3 hG (by decide) (by decide) ?_
  exact ⟨rfl, N0, rfl⟩
def QS (Z : State) (r0 : Addr) (q : Nat) (h0 : Heap) (n0 : Nat) (v : Option Value) (h : Heap) (L : List Loc) : Prop := v = none ∧ Fr n0 L ∧ ∃ ws : List Addr, Keep h0 h ws ∧ Cap Z h r0 q
theorem d40_11 : decode cn36 11 = .ok (.ldc2_w 97, 3) := by decide +kernel
theorem d40_14 : decode cn36 14 = .ok (.iload_n 1, 1) := by decide +kernel
theorem d40_15 : decode cn36 15 = .ok (.i2l, 1) := by decide +kernel
theorem d40_16 : decode cn36 16 = .ok (.lmul, 1) := by decide +kernel
theorem d40_17 : decode cn36 17 = .ok (.ldc2_w 99, 3) := by decide +kernel
theorem d40_20 : decode cn36 20 = .ok (.ladd, 1) := by decide +kernel
theorem d40_21 : decode cn36 21 = .ok (.ldc2_w 99, 3) := by decide +kernel
theorem d40_24 : decode cn36 24 = .ok (.aload_n 0, 1) := by decide +kernel
theorem d40_25 : decode cn36 25 = .ok (.getfield 7, 3) := by decide +kernel
theorem d40_28 : decode cn36 28 = .ok (.i2l, 1) := by decide +kernel
theorem d40_29 : decode cn36 29 = .ok (.lmul, 1) := by decide +kernel
theorem d40_30 : decode cn36 30 = .ok (.lcmp, 1) := by decide +kernel
theorem d40_31 : decode cn36 31 = .ok (.ifCond .le 10, 3) := by decide +kernel
theorem ef_40_4 (m : MethodId) (r0 : Addr) : entryFrame m #[(.ref r0)] 2 = mkF m 0 #[rv r0, un] [] := by first | (simp [entryFrame, mkF, argsToLocals, Value.category, iv, rv, lv, un, sd]; done) | rfl
set_option maxRecDepth 65536 in
set_option maxHeartbeats 40000000 in
theorem rm40_4 (l : Launch) (Z : State) (a0 : Array Value) (hw : ∀ d ∈ tables_1, d.before a0 Z = true) (ws : List Jvm.Cond) (r0 : Addr) (hd : Addr) (F : Nat → Bool) (K : Nat → Int32) (ah : Addr) (ao : Addr) (au : Addr) (ab : Addr) (ar : Addr) (h0 : Heap) (n0 : Nat) (Z0 : n0 ≤ h0.size) (TB : Tb Z h0 n0 r0 hd 8 F K (4 : Int32) ah ao au ab ar) :
    Mzz l yn36 cn36 2 none ws (rk 4 5 20 67) #[(.ref r0)] Z h0 (QS Z r0 4 h0 n0) := by
  refine Mzz.go (own := sn1) (nm := "shrink") (L0 := #[rv r0, un]) (plainFor_of_name pn_29) rfl rfl (fun m => ef_40_4 m r0) ?_
  intro p e s m below meth c s₁ hx hby hml hown hnm X0 e0 hZ hrt hlk G hG
  have N0 := Fr.nil n0
  have K0 := Keep.refl h0 [r0]
  obtain ⟨tE, tH, t1, t2, t3, t4, t5, tS, i1, i2, ⟨fu, i3⟩, ⟨fb, i4⟩, ⟨fr, i5⟩, ⟨g_r0, g_ah, g_ao, g_au, g_ab, g_ar⟩, ⟨u_r0_ah, u_r0_ao, u_r0_au, u_r0_ab, u_r0_ar, u_ah_ao, u_ah_au, u_ah_ab, u_ah_ar, u_ao_au, u_ao_ab, u_ao_ar, u_au_ab, u_au_ar, u_ab_ar⟩⟩ := id TB
  show Go p.tables e below G (s₁.setTop (mkF m 0 #[rv r0, un] []))
  refine zaloadN X0 hx (hb hby d40_0) rfl rfl ?_
  refine zgetF X0 hx hZ hown (wm hw 229 rfl) e0 t2 (hb hby d40_1) (fun T1 X1 e1 => ?_)
  obtain ⟨cl2, Ar2, Sz2, -, -⟩ := id i2
  refine zlen X1 hx hZ e1 Ar2 Sz2 (z := (8 : Int32)) rfl (hb hby d40_4) ?_
  refine zistoreN X1 hx (l' := #[rv r0, iv (8 : Int32)]) (hb hby d40_5) rfl ?_
  refine ziloadN X1 hx (hb hby d40_6) rfl ?_
  refine ziconst X1 hx (hb hby d40_7) (z := (4 : Int32)) rfl ?_
  refine zicmpNo X1 hx (hb hby d40_8) (tlt (by decide : (4 : Int32) < (8 : Int32))).2.2.2 ?_
  refine Go.stp (fun t_ k_ => X1.ldc2Long hx hown (mvT hZ (wm hw 292 rfl)) (g := (mkF m 11 #[rv r0, iv (8 : Int32)] [])) rfl (hb hby d40_11) t_ k_) ?_
  show Go p.tables e below G (T1.setTop (mkF m 14 #[rv r0, iv (8 : Int32)] [(.long (28 : Int64))]))
  refine ziloadN X1 hx (hb hby d40_14) rfl ?_
  refine zi2l X1 hx (hb hby d40_15) ?_
  refine zlmul X1 hx (hb hby d40_16) ?_
  refine Go.stp (fun t_ k_ => X1.ldc2Long hx hown (mvT hZ (wm hw 293 rfl)) (g := (mkF m 17 #[rv r0, iv (8 : Int32)] [(.long ((28 : Int64) * ((8 : Int32).toInt64)))])) rfl (hb hby d40_17) t_ k_) ?_
  show Go p.tables e below G (T1.setTop (mkF m 20 #[rv r0, iv (8 : Int32)] [(.long (80 : Int64)), (.long ((28 : Int64) * ((8 : Int32).toInt64)))]))
  refine zladd X1 hx (hb hby d40_20) ?_
  refine Go.stp (fun t_ k_ => X1.ldc2Long hx hown (mvT hZ (wm hw 293 rfl)) (g := (mkF m 21 #[rv r0, iv (8 : Int32)] [(.long (((28 : Int64) * ((8 : Int32).toInt64)) + (80 : Int64)))])) rfl (hb hby d40_21) t_ k_) ?_
  show Go p.tables e below G (T1.setTop (mkF m 24 #[rv r0, iv (8 : Int32)] [(.long (80 : Int64)), (.long (((28 : Int64) * ((8 : Int32).toInt64)) + (80 : Int64)))]))
  refine zaloadN X1 hx (hb hby d40_24) rfl rfl ?_
  refine zgetF X1 hx hZ hown (wm hw 266 rfl) e1 tS (hb hby d40_25) (fun T3 X3 e3 => ?_)
  refine zi2l X3 hx (hb hby d40_28) ?_
  refine zlmul X3 hx (hb hby d40_29) ?_
  refine zlcmp X3 hx (hb hby d40_30) (z := (lcmpW (((28 : Int64) * ((8 : Int32).toInt64)) + (80 : Int64)) ((80 : Int64) * ((4 : Int32).toInt64)))) rfl ?_
  refine zifYes X3 hx (pc' := 41) (hb hby d40_31) ((if0 _ _).trans (flt (fun q => (by decide : ¬ (((80 : Int64) * ((4 : Int32).toInt64)) < (((28 : Int64) * ((8 : Int32).toInt64)) + (80 : Int64)))) ((lw_gt (((28 : Int64) * ((8 : Int32).toInt64)) + (80 : Int64)) ((80 : Int64) * ((4 : Int32).toInt64))).mp q))).2.2.2) (by decide) (by decide) ?_
  refine ziloadN X3 hx (hb hby d40_41) rfl ?_
  refine zaloadN X3 hx (hb hby d40_42) rfl rfl ?_
  refine zgetF X3 hx hZ hown (wm hw 229 rfl) e3 t2 (hb hby d40_43) (fun T4 X4 e4 => ?_)
  obtain ⟨cl5, Ar5, Sz5, -, -⟩ := id i2
  refine zlen X4 hx hZ e4 Ar5 Sz5 (z := (8 : Int32)) rfl (hb hby d40_46) ?_
  refine zicmpYes X4 hx (pc' := 55) (hb hby d40_47) (flt (by decide : ¬ ((8 : Int32) < (8 : Int32)))).2.1 (by decide) (by decide) ?_
  refine zretV X4 hx hrt hlk (hb hby d40_55) e4 hG (by decide) (by decide) ?_
  exact ⟨rfl, N0, [r0], K0, tE, Or.inr (Or.inr ⟨by decide, by decide, _, _, _, t2, i2⟩)⟩
theorem d40_34 : decode cn36 34 = .ok (.iload_n 1, 1) := by decide +kernel
theorem d40_35 : decode cn36 35 = .ok (.iconst 2, 1) := by decide +kernel
theorem d40_36 : decode cn36 36 = .ok (.idiv, 1) := by decide +kernel
theorem d40_37 : decode cn36 37 = .ok (.istore_n 1, 1) := by decide +kernel
theorem d40_38 : decode cn36 38 = .ok (.goto (-32), 3) := by decide +kernel
theorem d40_50 : decode cn36 50 = .ok (.aload_n 0, 1) := by decide +kernel
theorem d40_51 : decode cn36 51 = .ok (.iload_n 1, 1) := by decide +kernel
theorem d40_52 : decode cn36 52 = .ok (.invokevirtual 94, 3) := by decide +kernel
theorem ef_40_3 (m : MethodId) (r0 : Addr) : entryFrame m #[(.ref r0)] 2 = mkF m 0 #[rv r0, un] [] := by first | (simp [entryFrame, mkF, argsToLocals, Value.category, iv, rv, lv, un, sd]; done) | rfl
set_option maxRecDepth 65536 in
set_option maxHeartbeats 40000000 in
theorem rm40_3 (l : Launch) (Z : State) (a0 : Array Value) (hw : ∀ d ∈ tables_1, d.before a0 Z = true) (ws : List Jvm.Cond) (r0 : Addr) (hd : Addr) (F : Nat → Bool) (K : Nat → Int32) (ah : Addr) (ao : Addr) (au : Addr) (ab : Addr) (ar : Addr) (h0 : Heap) (n0 : Nat) (Z0 : n0 ≤ h0.size) (TB : Tb Z h0 n0 r0 hd 8 F K (3 : Int32) ah ao au ab ar) (hc : cntF F 8 < 4) :
    Mzz l yn36 cn36 2 none ws (rk 4 5 20 67) #[(.ref r0)] Z h0 (QS Z r0 3 h0 n0) := by
  refine Mzz.go (own := sn1) (nm := "shrink") (L0 := #[rv r0, un]) (plainFor_of_name pn_29) rfl rfl (fun m => ef_40_3 m r0) ?_
  intro p e s m below meth c s₁ hx hby hml hown hnm X0 e0 hZ hrt hlk G hG
  have N0 := Fr.nil n0
  have K0 := Keep.refl h0 [r0]
  obtain ⟨tE, tH, t1, t2, t3, t4, t5, tS, i1, i2, ⟨fu, i3⟩, ⟨fb, i4⟩, ⟨fr, i5⟩, ⟨g_r0, g_ah, g_ao, g_au, g_ab, g_ar⟩, ⟨u_r0_ah, u_r0_ao, u_r0_au, u_r0_ab, u_r0_ar, u_ah_ao, u_ah_au, u_ah_ab, u_ah_ar, u_ao_au, u_ao_ab, u_ao_ar, u_au_ab, u_au_ar, u_ab_ar⟩⟩ := id TB
  show Go p.tables e below G (s₁.setTop (mkF m 0 #[rv r0, un] []))
  refine zaloadN X0 hx (hb hby d40_0) rfl rfl ?_
  refine zgetF X0 hx hZ hown (wm hw 229 rfl) e0 t2 (hb hby d40_1) (fun T1 X1 e1 => ?_)
  obtain ⟨cl2, Ar2, Sz2, -, -⟩ := id i2
  refine zlen X1 hx hZ e1 Ar2 Sz2 (z := (8 : Int32)) rfl (hb hby d40_4) ?_
  refine zistoreN X1 hx (l' := #[rv r0, iv (8 : Int32)]) (hb hby d40_5) rfl ?_
  refine ziloadN X1 hx (hb hby d40_6) rfl ?_
  refine ziconst X1 hx (hb hby d40_7) (z := (4 : Int32)) rfl ?_
  refine zicmpNo X1 hx (hb hby d40_8) (tlt (by decide : (4 : Int32) < (8 : Int32))).2.2.2 ?_
  refine Go.stp (fun t_ k_ => X1.ldc2Long hx hown (mvT hZ (wm hw 292 rfl)) (g := (mkF m 11 #[rv r0, iv (8 : Int32)] [])) rfl (hb hby d40_11) t_ k_) ?_
  show Go p.tables e below G (T1.setTop (mkF m 14 #[rv r0, iv (8 : Int32)] [(.long (28 : Int64))]))
  refine ziloadN X1 hx (hb hby d40_14) rfl ?_
  refine zi2l X1 hx (hb hby d40_15) ?_
  refine zlmul X1 hx (hb hby d40_16) ?_
  refine Go.stp (fun t_ k_ => X1.ldc2Long hx hown (mvT hZ (wm hw 293 rfl)) (g := (mkF m 17 #[rv r0, iv (8 : Int32)] [(.long ((28 : Int64) * ((8 : Int32).toInt64)))])) rfl (hb hby d40_17) t_ k_) ?_
  show Go p.tables e below G (T1.setTop (mkF m 20 #[rv r0, iv (8 : Int32)] [(.long (80 : Int64)), (.long ((28 : Int64) * ((8 : Int32).toInt64)))]))
  refine zladd X1 hx (hb hby d40_20) ?_
  refine Go.stp (fun t_ k_ => X1.ldc2Long hx hown (mvT hZ (wm hw 293 rfl)) (g := (mkF m 21 #[rv r0, iv (8 : Int32)] [(.long (((28 : Int64) * ((8 : Int32).toInt64)) + (80 : Int64)))])) rfl (hb hby d40_21) t_ k_) ?_
  show Go p.tables e below G (T1.setTop (mkF m 24 #[rv r0, iv (8 : Int32)] [(.long (80 : Int64)), (.long (((28 : Int64) * ((8 : Int32).toInt64)) + (80 : Int64)))]))
  refine zaloadN X1 hx (hb hby d40_24) rfl rfl ?_
  refine zgetF X1 hx hZ hown (wm hw 266 rfl) e1 tS (hb hby d40_25) (fun T3 X3 e3 => ?_)
  refine zi2l X3 hx (hb hby d40_28) ?_
  refine zlmul X3 hx (hb hby d40_29) ?_
  refine zlcmp X3 hx (hb hby d40_30) (z := (lcmpW (((28 : Int64) * ((8 : Int32).toInt64)) + (80 : Int64)) ((80 : Int64) * ((3 : Int32).toInt64)))) rfl ?_
  refine zifNo X3 hx (hb hby d40_31) ((if0 _ _).trans (tlt ((lw_gt (((28 : Int64) * ((8 : Int32).toInt64)) + (80 : Int64)) ((80 : Int64) * ((3 : Int32).toInt64))).mpr (by decide : ((80 : Int64) * ((3 : Int32).toInt64)) < (((28 : Int64) * ((8 : Int32).toInt64)) + (80 : Int64))))).2.2.2) ?_
  refine ziloadN X3 hx (hb hby d40_34) rfl ?_
  refine ziconst X3 hx (hb hby d40_35) (z := (2 : Int32)) rfl ?_
  refine zidiv X3 hx (hb hby d40_36) (by decide) ?_
  rw [show ((8 : Int32) / (2 : Int32)) = (4 : Int32) by decide]
  show Go p.tables e below G (T3.setTop (mkF m 37 #[rv r0, iv (8 : Int32)] [(.int (4 : Int32))]))
  refine zistoreN X3 hx (l' := #[rv r0, iv (4 : Int32)]) (hb hby d40_37) rfl ?_
  refine zgoto X3 hx (pc' := 6) (hb hby d40_38) (by decide) (by decide) ?_
  refine ziloadN X3 hx (hb hby d40_6) rfl ?_
  refine ziconst X3 hx (hb hby d40_7) (z := (4 : Int32)) rfl ?_
  refine zicmpYes X3 hx (pc' := 41) (hb hby d40_8) (flt (by decide : ¬ ((4 : Int32) < (4 : Int32)))).2.2.2 (by decide) (by decide) ?_
  refine ziloadN X3 hx (hb hby d40_41) rfl ?_
  refine zaloadN X3 hx (hb hby d40_42) rfl rfl ?_
  refine zgetF X3 hx hZ hown (wm hw 229 rfl) e3 t2 (hb hby d40_43) (fun T4 X4 e4 => ?_)
  obtain ⟨cl5, Ar5, Sz5, -, -⟩ := id i2
  refine zlen X4 hx hZ e4 Ar5 Sz5 (z := (8 : Int32)) rfl (hb hby d40_46) ?_
  refine zicmpNo X4 hx (hb hby d40_47) (tlt (by decide : (4 : Int32) < (8 : Int32))).2.1 ?_
  refine zaloadN X4 hx (hb hby d40_50) rfl rfl ?_
  refine ziloadN X4 hx (hb hby d40_51) rfl ?_
  obtain ⟨cq6, qq6, qq6'⟩ := tE.cell
  obtain ⟨_, _, ⟨T6, L6, k6, n6⟩, -, X6, ⟨Lc6, hQ6, l6, y6, z6⟩, st6⟩ := X4.privateBack hx (y := yn32) hown (mvT hZ (wm hw 288 rfl)) (mvT hZ (wm hw 289 rfl)) (sel_priv (mvT hZ (wm hw 214 rfl)) (Cond.privateMethod_at (mvP hZ (wm hw 290 rfl) (args := #[]))) (mvT hZ (wm hw 289 rfl)) (by decide)) (Cond.privateMethod_at (mvP hZ (wm hw 290 rfl) (args := #[]))) (mvT hZ (wm hw 291 rfl)) (by decide) (backOf (W := 0) (rm41_4 l Z a0 hw [] r0 hd F K (3 : Int32) ah ao au ab ar h0 n0 Z0 ⟨tE, tH, t1, t2, t3, t4, t5, tS, i1, i2, ⟨_, i3⟩, ⟨_, i4⟩, ⟨_, i5⟩, ⟨g_r0, g_ah, g_ao, g_au, g_ab, g_ar⟩, ⟨u_r0_ah, u_r0_ao, u_r0_au, u_r0_ab, u_r0_ar, u_ah_ao, u_ah_au, u_ah_ab, u_ah_ar, u_ao_au, u_ao_ab, u_ao_ar, u_au_ab, u_au_ar, u_ab_ar⟩⟩ hc) hZ (wm hw 291 rfl) (wm hw 215 rfl) (by decide) (by decide)) (g := (mkF m 52 #[rv r0, iv (4 : Int32)] [(.int (4 : Int32)), (.ref r0)])) rfl (by rw [hml]; rfl) (Steps.refl _) (a := r0) (by rw [e4]; exact qq6) qq6' (argsL := [(.int (4 : Int32))]) (rest := []) (lenOf pd_20 rfl) rfl (by show 2 * 0 + _ ≤ _; exact Nat.le_of_eq rfl) (hb hby d40_52) (fun _ _ => ⟨rfl, e4, (by decide : 0 + 5 ≤ _), (by decide : 0 + 20 ≤ _)⟩)
  dsimp only [Pt.U, Pt.locs, Pt.cells, Pt.slots] at X6 l6 y6 z6 st6 hQ6
  subst l6 y6 z6
  obtain ⟨e06, e16, e26, F', K', bh, bo, bu, bb, br, e36, s1, s2, s3, s4, s5, rz⟩ := hQ6
  replace hQ6 := And.intro e06 (And.intro e16 (And.intro e26 (⟨bh, bo, bu, bb, br, e36, s1, s2, s3, s4, s5⟩ : ∃ bh bo bu bb br : Addr, Tb Z T6.heap n0 r0 hd 4 F' K' (3 : Int32) bh bo bu bb br ∧ h0.size ≤ bh ∧ h0.size ≤ bo ∧ h0.size ≤ bu ∧ h0.size ≤ bb ∧ h0.size ≤ br)))
  obtain ⟨rfl, Nq6, Kc6, bh, bo, bu, bb, br, TB6, sz_bh, sz_bo, sz_bu, sz_bb, sz_br⟩ := hQ6
  have N6 := Fr.app N0 Nq6
  have u_ah_bh : ah ≠ bh := Nat.ne_of_lt (Nat.lt_of_lt_of_le i1.lt sz_bh)
  have u_ah_bo : ah ≠ bo := Nat.ne_of_lt (Nat.lt_of_lt_of_le i1.lt sz_bo)
  have u_ah_bu : ah ≠ bu := Nat.ne_of_lt (Nat.lt_of_lt_of_le i1.lt sz_bu)
  have u_ah_bb : ah ≠ bb := Nat.ne_of_lt (Nat.lt_of_lt_of_le i1.lt sz_bb)
  have u_ah_br : ah ≠ br := Nat.ne_of_lt (Nat.lt_of_lt_of_le i1.lt sz_br)
  have u_ao_bh : ao ≠ bh := Nat.ne_of_lt (Nat.lt_of_lt_of_le i2.lt sz_bh)
  have u_ao_bo : ao ≠ bo := Nat.ne_of_lt (Nat.lt_of_lt_of_le i2.lt sz_bo)
  have u_ao_bu : ao ≠ bu := Nat.ne_of_lt (Nat.lt_of_lt_of_le i2.lt sz_bu)
  have u_ao_bb : ao ≠ bb := Nat.ne_of_lt (Nat.lt_of_lt_of_le i2.lt sz_bb)
  have u_ao_br : ao ≠ br := Nat.ne_of_lt (Nat.lt_of_lt_of_le i2.lt sz_br)
  have u_au_bh : au ≠ bh := Nat.ne_of_lt (Nat.lt_of_lt_of_le i3.lt sz_bh)
  have u_au_bo : au ≠ bo := Nat.ne_of_lt (Nat.lt_of_lt_of_le i3.lt sz_bo)
  have u_au_bu : au ≠ bu := Nat.ne_of_lt (Nat.lt_of_lt_of_le i3.lt sz_bu)
  have u_au_bb : au ≠ bb := Nat.ne_of_lt (Nat.lt_of_lt_of_le i3.lt sz_bb)
  have u_au_br : au ≠ br := Nat.ne_of_lt (Nat.lt_of_lt_of_le i3.lt sz_br)
  have u_ab_bh : ab ≠ bh := Nat.ne_of_lt (Nat.lt_of_lt_of_le i4.lt sz_bh)
  have u_ab_bo : ab ≠ bo := Nat.ne_of_lt (Nat.lt_of_lt_of_le i4.lt sz_bo)
  have u_ab_bu : ab ≠ bu := Nat.ne_of_lt (Nat.lt_of_lt_of_le i4.lt sz_bu)
  have u_ab_bb : ab ≠ bb := Nat.ne_of_lt (Nat.lt_of_lt_of_le i4.lt sz_bb)
  have u_ab_br : ab ≠ br := Nat.ne_of_lt (Nat.lt_of_lt_of_le i4.lt sz_br)
  have u_ar_bh : ar ≠ bh := Nat.ne_of_lt (Nat.lt_of_lt_of_le i5.lt sz_bh)
  have u_ar_bo : ar ≠ bo := Nat.ne_of_lt (Nat.lt_of_lt_of_le i5.lt sz_bo)
  have u_ar_bu : ar ≠ bu := Nat.ne_of_lt (Nat.lt_of_lt_of_le i5.lt sz_bu)
  have u_ar_bb : ar ≠ bb := Nat.ne_of_lt (Nat.lt_of_lt_of_le i5.lt sz_bb)
  have u_ar_br : ar ≠ br := Nat.ne_of_lt (Nat.lt_of_lt_of_le i5.lt sz_br)
  have f7 := tE.keep Kc6
  have f8 := tH.keep Kc6
  have f9 := i1.keep Kc6 (fun q => by simp only [List.mem_cons, List.not_mem_nil, or_false] at q; exact (Ne.symm u_r0_ah) q)
  have f10 := i2.keep Kc6 (fun q => by simp only [List.mem_cons, List.not_mem_nil, or_false] at q; exact (Ne.symm u_r0_ao) q)
  have f11 := i3.keep Kc6 (fun q => by simp only [List.mem_cons, List.not_mem_nil, or_false] at q; exact (Ne.symm u_r0_au) q)
  have f12 := i4.keep Kc6 (fun q => by simp only [List.mem_cons, List.not_mem_nil, or_false] at q; exact (Ne.symm u_r0_ab) q)
  have f13 := i5.keep Kc6 (fun q => by simp only [List.mem_cons, List.not_mem_nil, or_false] at q; exact (Ne.symm u_r0_ar) q)
  have Z6 : n0 ≤ T6.heap.size := Nat.le_trans Z0 Kc6.1
  have K6 := K0.trans Kc6 (fun x q => by
      simp only [List.mem_cons, List.not_mem_nil, or_false] at q
      rw [q]; exact (Or.inl (List.mem_of_getElem? (i := 0) rfl)))
  obtain ⟨tE6, tH6, t16, t26, t36, t46, t56, tS6, i16, i26, ⟨fu6, i36⟩, ⟨fb6, i46⟩, ⟨fr6, i56⟩, ⟨g_r0, g_bh, g_bo, g_bu, g_bb, g_br⟩, ⟨u_r0_bh, u_r0_bo, u_r0_bu, u_r0_bb, u_r0_br, u_bh_bo, u_bh_bu, u_bh_bb, u_bh_br, u_bo_bu, u_bo_bb, u_bo_br, u_bu_bb, u_bu_br, u_bb_br⟩⟩ := id TB6
  refine Go.stp (fun t_ k_ => st6.trans k_) ?_
  show Go p.tables e below G (T6.setTop (mkF m 55 #[rv r0, iv (4 : Int32)] []))
  refine zretV X6 hx hrt hlk (hb hby d40_55) rfl hG (by decide) (by decide) ?_
  exact ⟨rfl, N6, [r0], K6, tE6, Or.inr (Or.inl ⟨by decide, by decide, _, _, _, t26, i26⟩)⟩
theorem rm40_b (l : Launch) (Z : State) (a0 : Array Value) (hw : ∀ d ∈ tables_1, d.before a0 Z = true) (ws : List Jvm.Cond) (r0 : Addr) (hd : Addr) (F : Nat → Bool) (K : Nat → Int32) (ah : Addr) (ao : Addr) (au : Addr) (ab : Addr) (ar : Addr) (q : Nat) (h0 : Heap) (n0 : Nat) (Z0 : n0 ≤ h0.size) (TB : Tb Z h0 n0 r0 hd 8 F K (own_i q) ah ao au ab ar) (hq : 3 ≤ q ∧ q ≤ 4) (hc : q = 3 → cntF F 8 < 4) :
    Mzz l yn36 cn36 2 none ws (rk 4 5 20 67) #[(.ref r0)] Z h0 (QS Z r0 q h0 n0) := by
  obtain rfl | rfl : q = 3 ∨ q = 4 := by omega
  · rw [show own_i 3 = (3 : Int32) by decide] at TB
    exact rm40_3 l Z a0 hw ws r0 hd F K ah ao au ab ar h0 n0 Z0 TB (hc rfl)
  · rw [show own_i 4 = (4 : Int32) by decide] at TB
    exact rm40_4 l Z a0 hw ws r0 hd F K ah ao au ab ar h0 n0 Z0 TB
def QR (Z : State) (r0 : Addr) (n : Nat) (h0 : Heap) (n0 : Nat) (v : Option Value) (h : Heap) (L : List Loc) : Prop := ∃ z : Int64, v = some (.long z) ∧ Fr n0 L ∧ ∃ ws : List Addr, Keep h0 h ws ∧ Cap Z h r0 (n - 1)
theorem d38_0 : decode cn37 0 = .ok (.aload_n 0, 1) := by decide +kernel
theorem d38_1 : decode cn37 1 = .ok (.iload_n 1, 1) := by decide +kernel
theorem d38_2 : decode cn37 2 = .ok (.invokevirtual 13, 3) := by decide +kernel
theorem d38_5 : decode cn37 5 = .ok (.istore_n 2, 1) := by decide +kernel
theorem d38_6 : decode cn37 6 = .ok (.aload_n 0, 1) := by decide +kernel
theorem d38_7 : decode cn37 7 = .ok (.getfield 36, 3) := by decide +kernel
theorem d38_10 : decode cn37 10 = .ok (.iload_n 2, 1) := by decide +kernel
theorem d38_11 : decode cn37 11 = .ok (.laload, 1) := by decide +kernel
theorem d38_12 : decode cn37 12 = .ok (.lstore_n 3, 1) := by decide +kernel
theorem d38_13 : decode cn37 13 = .ok (.aload_n 0, 1) := by decide +kernel
theorem d38_14 : decode cn37 14 = .ok (.getfield 17, 3) := by decide +kernel
theorem d38_17 : decode cn37 17 = .ok (.arraylength, 1) := by decide +kernel
theorem d38_18 : decode cn37 18 = .ok (.iconst 1, 1) := by decide +kernel
theorem d38_19 : decode cn37 19 = .ok (.isub, 1) := by decide +kernel
theorem d38_20 : decode cn37 20 = .ok (.istore 5, 2) := by decide +kernel
theorem d38_22 : decode cn37 22 = .ok (.iload_n 2, 1) := by decide +kernel
theorem d38_23 : decode cn37 23 = .ok (.istore 6, 2) := by decide +kernel
theorem d38_25 : decode cn37 25 = .ok (.iload 6, 2) := by decide +kernel
theorem d38_27 : decode cn37 27 = .ok (.iconst 1, 1) := by decide +kernel
theorem d38_28 : decode cn37 28 = .ok (.iadd, 1) := by decide +kernel
theorem d38_29 : decode cn37 29 = .ok (.iload 5, 2) := by decide +kernel
theorem d38_31 : decode cn37 31 = .ok (.iand, 1) := by decide +kernel
theorem d38_32 : decode cn37 32 = .ok (.istore 7, 2) := by decide +kernel
theorem d38_34 : decode cn37 34 = .ok (.aload_n 0, 1) := by decide +kernel
theorem d38_35 : decode cn37 35 = .ok (.getfield 17, 3) := by decide +kernel
theorem d38_38 : decode cn37 38 = .ok (.iload 7, 2) := by decide +kernel
theorem d38_40 : decode cn37 40 = .ok (.aaload, 1) := by decide +kernel
theorem d38_41 : decode cn37 41 = .ok (.ifnull 55, 3) := by decide +kernel
theorem d38_44 : decode cn37 44 = .ok (.iload 7, 2) := by decide +kernel
theorem d38_46 : decode cn37 46 = .ok (.aload_n 0, 1) := by decide +kernel
theorem d38_47 : decode cn37 47 = .ok (.aload_n 0, 1) := by decide +kernel
theorem d38_48 : decode cn37 48 = .ok (.getfield 39, 3) := by decide +kernel
theorem d38_51 : decode cn37 51 = .ok (.iload 7, 2) := by decide +kernel
theorem d38_53 : decode cn37 53 = .ok (.iaload, 1) := by decide +kernel
theorem d38_54 : decode cn37 54 = .ok (.invokevirtual 42, 3) := by decide +kernel
theorem d38_57 : decode cn37 57 = .ok (.isub, 1) := by decide +kernel
theorem d38_58 : decode cn37 58 = .ok (.iload 5, 2) := by decide +kernel
theorem d38_60 : decode cn37 60 = .ok (.iand, 1) := by decide +kernel
theorem d38_61 : decode cn37 61 = .ok (.iload 7, 2) := by decide +kernel
theorem d38_63 : decode cn37 63 = .ok (.iload 6, 2) := by decide +kernel
theorem d38_65 : decode cn37 65 = .ok (.isub, 1) := by decide +kernel
theorem d38_66 : decode cn37 66 = .ok (.iload 5, 2) := by decide +kernel
theorem d38_68 : decode cn37 68 = .ok (.iand, 1) := by decide +kernel
theorem d38_69 : decode cn37 69 = .ok (.if_icmp .lt 15, 3) := by decide +kernel
theorem d38_72 : decode cn37 72 = .ok (.aload_n 0, 1) := by decide +kernel
theorem d38_73 : decode cn37 73 = .ok (.iload 7, 2) := by decide +kernel
theorem d38_75 : decode cn37 75 = .ok (.iload 6, 2) := by decide +kernel
theorem d38_77 : decode cn37 77 = .ok (.invokevirtual 45, 3) := by decide +kernel
theorem d38_80 : decode cn37 80 = .ok (.iload 7, 2) := by decide +kernel
theorem d38_82 : decode cn37 82 = .ok (.istore 6, 2) := by decide +kernel
theorem d38_84 : decode cn37 84 = .ok (.iload 7, 2) := by decide +kernel
theorem d38_86 : decode cn37 86 = .ok (.iconst 1, 1) := by decide +kernel
theorem d38_87 : decode cn37 87 = .ok (.iadd, 1) := by decide +kernel
theorem d38_88 : decode cn37 88 = .ok (.iload 5, 2) := by decide +kernel
theorem d38_90 : decode cn37 90 = .ok (.iand, 1) := by decide +kernel
theorem d38_91 : decode cn37 91 = .ok (.istore 7, 2) := by decide +kernel
theorem d38_93 : decode cn37 93 = .ok (.goto (-59), 3) := by decide +kernel
theorem d38_96 : decode cn37 96 = .ok (.aload_n 0, 1) := by decide +kernel
theorem d38_97 : decode cn37 97 = .ok (.getfield 17, 3) := by decide +kernel
theorem d38_100 : decode cn37 100 = .ok (.iload 6, 2) := by decide +kernel
theorem d38_102 : decode cn37 102 = .ok (.aconst_null, 1) := by decide +kernel
theorem d38_103 : decode cn37 103 = .ok (.aastore, 1) := by decide +kernel
theorem d38_104 : decode cn37 104 = .ok (.aload_n 0, 1) := by decide +kernel
theorem d38_105 : decode cn37 105 = .ok (.dup, 1) := by decide +kernel
theorem d38_106 : decode cn37 106 = .ok (.getfield 7, 3) := by decide +kernel
theorem d38_109 : decode cn37 109 = .ok (.iconst 1, 1) := by decide +kernel
theorem d38_110 : decode cn37 110 = .ok (.isub, 1) := by decide +kernel
theorem d38_111 : decode cn37 111 = .ok (.putfield 7, 3) := by decide +kernel
theorem d38_114 : decode cn37 114 = .ok (.aload_n 0, 1) := by decide +kernel
theorem d38_115 : decode cn37 115 = .ok (.getfield 7, 3) := by decide +kernel
theorem d38_118 : decode cn37 118 = .ok (.ifCond .ne 31, 3) := by decide +kernel
theorem d38_121 : decode cn37 121 = .ok (.aload_n 0, 1) := by decide +kernel
theorem d38_122 : decode cn37 122 = .ok (.aconst_null, 1) := by decide +kernel
theorem d38_123 : decode cn37 123 = .ok (.putfield 39, 3) := by decide +kernel
theorem d38_126 : decode cn37 126 = .ok (.aload_n 0, 1) := by decide +kernel
theorem d38_127 : decode cn37 127 = .ok (.aconst_null, 1) := by decide +kernel
theorem d38_128 : decode cn37 128 = .ok (.putfield 17, 3) := by decide +kernel
theorem d38_131 : decode cn37 131 = .ok (.aload_n 0, 1) := by decide +kernel
theorem d38_132 : decode cn37 132 = .ok (.aconst_null, 1) := by decide +kernel
theorem d38_133 : decode cn37 133 = .ok (.putfield 28, 3) := by decide +kernel
theorem d38_136 : decode cn37 136 = .ok (.aload_n 0, 1) := by decide +kernel
theorem d38_137 : decode cn37 137 = .ok (.aconst_null, 1) := by decide +kernel
theorem d38_138 : decode cn37 138 = .ok (.putfield 32, 3) := by decide +kernel
theorem d38_141 : decode cn37 141 = .ok (.aload_n 0, 1) := by decide +kernel
theorem d38_142 : decode cn37 142 = .ok (.aconst_null, 1) := by decide +kernel
theorem d38_143 : decode cn37 143 = .ok (.putfield 36, 3) := by decide +kernel
theorem d38_146 : decode cn37 146 = .ok (.goto 7, 3) := by decide +kernel
theorem d38_149 : decode cn37 149 = .ok (.aload_n 0, 1) := by decide +kernel
theorem d38_150 : decode cn37 150 = .ok (.invokevirtual 49, 3) := by decide +kernel
theorem d38_153 : decode cn37 153 = .ok (.lload_n 3, 1) := by decide +kernel
theorem d38_154 : decode cn37 154 = .ok (.lreturn, 1) := by decide +kernel
theorem ef_38_4 (m : MethodId) (r0 : Addr) (p1 : Int32) : entryFrame m #[(.ref r0), (.int p1)] 8 = mkF m 0 #[rv r0, iv p1, un, un, un, un, un, un] [] := by first | (simp [entryFrame, mkF, argsToLocals, Value.category, iv, rv, lv, un, sd]; done) | rfl
set_option maxRecDepth 65536 in
set_option maxHeartbeats 40000000 in
theorem rm38_4 (l : Launch) (Z : State) (a0 : Array Value) (hw : ∀ d ∈ tables_1, d.before a0 Z = true) (ws : List Jvm.Cond) (r0 : Addr) (p1 : Int32) (hd : Addr) (F : Nat → Bool) (K : Nat → Int32) (ah : Addr) (ao : Addr) (au : Addr) (ab : Addr) (ar : Addr) (mp : Int32 → Bool) (Ls : List Nat) (n : Nat) (h0 : Heap) (n0 : Nat) (Z0 : n0 ≤ h0.size) (TB : Tb Z h0 n0 r0 hd 4 F K (own_i n) ah ao au ab ar) (hrep : RepH 4 own_P4 F K mp Ls) (hL : Ls.length ≤ n) (hmt : mp p1 = true) (hn : 1 ≤ n ∧ n ≤ 3) :
    Mzz l yn37 cn37 8 (some .long) ws (rk 5 5 20 80) #[(.ref r0), (.int p1)] Z h0 (QR Z r0 n h0 n0) := by
  refine Mzz.go (own := sn1) (nm := "remove") (L0 := #[rv r0, iv p1, un, un, un, un, un, un]) (plainFor_of_name pn_29) rfl rfl (fun m => ef_38_4 m r0 p1) ?_
  intro p e s m below meth c s₁ hx hby hml hown hnm X0 e0 hZ hrt hlk G hG
  have N0 := Fr.nil n0
  have K0 := Keep.refl h0 [r0, ah, ao, au, ab, ar]
  obtain ⟨tE, tH, t1, t2, t3, t4, t5, tS, i1, i2, ⟨fu, i3⟩, ⟨fb, i4⟩, ⟨fr, i5⟩, ⟨g_r0, g_ah, g_ao, g_au, g_ab, g_ar⟩, ⟨u_r0_ah, u_r0_ao, u_r0_au, u_r0_ab, u_r0_ar, u_ah_ao, u_ah_au, u_ah_ab, u_ah_ar, u_ao_au, u_ao_ab, u_ao_ar, u_au_ab, u_au_ar, u_ab_ar⟩⟩ := id TB
  obtain ⟨t, ht, hs, hm⟩ := hrep.2.1 p1
  have hFt : F (own_P4 p1 t) = true := hm.trans hmt
  show Go p.tables e below G (s₁.setTop (mkF m 0 #[rv r0, iv p1, un, un, un, un, un, un] []))
  refine zaloadN X0 hx (hb hby d38_0) rfl rfl ?_
  refine ziloadN X0 hx (hb hby d38_1) rfl ?_
  obtain ⟨cq1, qq1, qq1'⟩ := tE.cell
  obtain ⟨_, _, ⟨T1, L1, k1, n1⟩, -, X1, ⟨Lc1, hQ1, l1, y1, z1⟩, st1⟩ := X0.privateBack hx (y := yn29) hown (mvT hZ (wm hw 225 rfl)) (mvT hZ (wm hw 226 rfl)) (sel_priv (mvT hZ (wm hw 214 rfl)) (Cond.privateMethod_at (mvP hZ (wm hw 227 rfl) (args := #[]))) (mvT hZ (wm hw 226 rfl)) (by decide)) (Cond.privateMethod_at (mvP hZ (wm hw 227 rfl) (args := #[]))) (mvT hZ (wm hw 228 rfl)) (by decide) (backOf (W := 0) (rm31_4 l Z a0 hw [] r0 p1 hd F K ah ao t h0 n0 Z0 tE t1 t2 i1 i2 hs) hZ (wm hw 228 rfl) (wm hw 215 rfl) (by decide) (by decide)) (g := (mkF m 2 #[rv r0, iv p1, un, un, un, un, un, un] [(.int p1), (.ref r0)])) rfl (by rw [hml]; rfl) (Steps.refl _) (a := r0) (by rw [e0]; exact qq1) qq1' (argsL := [(.int p1)]) (rest := []) (lenOf pd_19 rfl) rfl (by show 2 * 0 + _ ≤ _; exact Nat.le_of_eq rfl) (hb hby d38_2) (fun _ _ => ⟨rfl, e0, (by decide : 0 + 0 ≤ _), (by decide : 0 + 0 ≤ _)⟩)
  dsimp only [Pt.U, Pt.locs, Pt.cells, Pt.slots] at X1 l1 y1 z1 st1 hQ1
  subst l1 y1 z1
  obtain ⟨rfl, Nq1, e1⟩ := hQ1
  have N1 := Fr.app N0 Nq1
  refine Go.stp (fun t_ k_ => st1.trans k_) ?_
  show Go p.tables e below G (T1.setTop (mkF m 5 #[rv r0, iv p1, un, un, un, un, un, un] [(.int (if F (own_P4 p1 t) = true then (own_it (own_hm4 p1) ((4 : Int32) - (1 : Int32)) t) else (-1 : Int32)))]))
  rw [if_pos hFt]
  show Go p.tables e below G (T1.setTop (mkF m 5 #[rv r0, iv p1, un, un, un, un, un, un] [(.int (own_it (own_hm4 p1) ((4 : Int32) - (1 : Int32)) t))]))
  suffices K2 : ∀ i0 : Int32, i0 = (own_it (own_hm4 p1) ((4 : Int32) - (1 : Int32)) t) → Go p.tables e below G (T1.setTop (mkF m 5 #[rv r0, iv p1, un, un, un, un, un, un] [(.int i0)])) from K2 _ rfl
  intro i0 hi0
  have hb0 : 0 ≤ (i0).toInt ∧ (i0).toInt < ((4 : Nat) : Int) := by rw [hi0]; exact own_tb4 p1 t
  have hF0 : F (i0).toNatClampNeg = true := by rw [hi0]; exact hFt
  obtain ⟨tt, htt, hst, het⟩ := row_free (p := own_S4 i0) hrep.1 (own_Sl4 i0 hb0) (own_Si4 i0 hb0) (by omega)
  show Go p.tables e below G (T1.setTop (mkF m 5 #[rv r0, iv p1, un, un, un, un, un, un] [(.int i0)]))
  refine zistoreN X1 hx (l' := #[rv r0, iv p1, iv i0, un, un, un, un, un]) (hb hby d38_5) rfl ?_
  refine zaloadN X1 hx (hb hby d38_6) rfl rfl ?_
  refine zgetF X1 hx hZ hown (wm hw 249 rfl) e1 t5 (hb hby d38_7) (fun T3 X3 e3 => ?_)
  refine ziloadN X3 hx (hb hby d38_10) rfl ?_
  refine zlal X3 hx hZ e3 i5 hb0 (hb hby d38_11) ?_
  refine zlstoreN X3 hx (l' := #[rv r0, iv p1, iv i0, lv (fr (i0).toNatClampNeg), sd, un, un, un]) (hb hby d38_12) rfl ?_
  refine zaloadN X3 hx (hb hby d38_13) rfl rfl ?_
  refine zgetF X3 hx hZ hown (wm hw 229 rfl) e3 t2 (hb hby d38_14) (fun T4 X4 e4 => ?_)
  obtain ⟨cl5, Ar5, Sz5, -, -⟩ := id i2
  refine zlen X4 hx hZ e4 Ar5 Sz5 (z := (4 : Int32)) rfl (hb hby d38_17) ?_
  refine ziconst X4 hx (hb hby d38_18) (z := (1 : Int32)) rfl ?_
  refine zisub X4 hx (hb hby d38_19) ?_
  refine zistore X4 hx (l' := #[rv r0, iv p1, iv i0, lv (fr (i0).toNatClampNeg), sd, iv ((4 : Int32) - (1 : Int32)), un, un]) (hb hby d38_20) rfl ?_
  refine ziloadN X4 hx (hb hby d38_22) rfl ?_
  refine zistore X4 hx (l' := #[rv r0, iv p1, iv i0, lv (fr (i0).toNatClampNeg), sd, iv ((4 : Int32) - (1 : Int32)), iv i0, un]) (hb hby d38_23) rfl ?_
  refine ziload X4 hx (hb hby d38_25) rfl ?_
  refine ziconst X4 hx (hb hby d38_27) (z := (1 : Int32)) rfl ?_
  refine ziadd X4 hx (hb hby d38_28) ?_
  refine ziload X4 hx (hb hby d38_29) rfl ?_
  refine ziand X4 hx (hb hby d38_31) ?_
  refine zistore X4 hx (l' := #[rv r0, iv p1, iv i0, lv (fr (i0).toNatClampNeg), sd, iv ((4 : Int32) - (1 : Int32)), iv i0, iv ((i0 + (1 : Int32)) &&& ((4 : Int32) - (1 : Int32)))]) (hb hby d38_32) rfl ?_
  show Go p.tables e below G (T4.setTop (mkF m 34 #[rv r0, iv p1, iv i0, lv (fr (i0).toNatClampNeg), sd, iv ((4 : Int32) - (1 : Int32)), iv i0, iv (own_it i0 ((4 : Int32) - (1 : Int32)) (0 + 1))] []))
  suffices LP : ∀ (k : Nat) (T : State) (locs : List Loc) (h : Heap) (u : Nat) (gp : Int32) (K' : Nat → Int32), Stand p l e (rk 5 5 20 80) s m #[(.ref r0), (.int p1)] below meth c T locs 0 0 → Fr n0 locs → T.heap = h → n0 ≤ h.size → Keep h0 h [r0, ah, ao, au, ab, ar] → (Tb Z h n0 r0 hd 4 F K' (own_i n) ah ao au ab ar) → ((0 ≤ (gp).toInt ∧ (gp).toInt < ((4 : Nat) : Int)) ∧ F (gp).toNatClampNeg = true) → (u + k = tt) → Go p.tables e below G (T.setTop (mkF m 34 #[rv r0, iv p1, iv i0, lv (fr (i0).toNatClampNeg), sd, iv ((4 : Int32) - (1 : Int32)), iv gp, iv (own_it i0 ((4 : Int32) - (1 : Int32)) (u + 1))] [])) from LP (tt) _ _ _ (0) (i0) (K) X4 N1 e4 Z0 K0 ⟨tE, tH, t1, t2, t3, t4, t5, tS, i1, i2, ⟨_, i3⟩, ⟨_, i4⟩, ⟨_, i5⟩, ⟨g_r0, g_ah, g_ao, g_au, g_ab, g_ar⟩, ⟨u_r0_ah, u_r0_ao, u_r0_au, u_r0_ab, u_r0_ar, u_ah_ao, u_ah_au, u_ah_ab, u_ah_ar, u_ao_au, u_ao_ab, u_ao_ar, u_au_ab, u_au_ar, u_ab_ar⟩⟩ ⟨hb0, hF0⟩ (by omega)
  intro k
  induction k with
  | zero =>
    intro T locs h u gp K' X N E Zh Kh TBv hgp hu
    obtain rfl : tt = u := by omega
    obtain ⟨tEv, tHv, t1v, t2v, t3v, t4v, t5v, tSv, i1v, i2v, ⟨fuv, i3v⟩, ⟨fbv, i4v⟩, ⟨frv, i5v⟩, -, -⟩ := id TBv
    show Go p.tables e below G (T.setTop (mkF m 34 #[rv r0, iv p1, iv i0, lv (fr (i0).toNatClampNeg), sd, iv ((4 : Int32) - (1 : Int32)), iv gp, iv (own_it i0 ((4 : Int32) - (1 : Int32)) (tt + 1))] []))
    refine zaloadN X hx (hb hby d38_34) rfl rfl ?_
    refine zgetF X hx hZ hown (wm hw 229 rfl) E t2v (hb hby d38_35) (fun T6 X6 e6 => ?_)
    refine ziload X6 hx (hb hby d38_38) rfl ?_
    refine zaal X6 hx hZ e6 i2v (own_rb4 i0 hb0 (tt + 1)) (hb hby d38_40) ?_
    rw [show (mkh hd (F ((own_it i0 ((4 : Int32) - (1 : Int32)) (tt + 1))).toNatClampNeg)) = Value.null from mkh_f het]
    show Go p.tables e below G (T6.setTop (mkF m 41 #[rv r0, iv p1, iv i0, lv (fr (i0).toNatClampNeg), sd, iv ((4 : Int32) - (1 : Int32)), iv gp, iv (own_it i0 ((4 : Int32) - (1 : Int32)) (tt + 1))] [.null]))
    refine zifnullYes X6 hx (pc' := 96) (hb hby d38_41) (by decide) (by decide) ?_
    refine zaloadN X6 hx (hb hby d38_96) rfl rfl ?_
    refine zgetF X6 hx hZ hown (wm hw 229 rfl) e6 t2v (hb hby d38_97) (fun T7 X7 e7 => ?_)
    refine ziload X7 hx (hb hby d38_100) rfl ?_
    refine zaconstNull X7 hx (hb hby d38_102) ?_
    refine zaas (b := false) X7 hx hZ e7 i2v tHv hgp.1 (hb hby d38_103) (fun T8 h8 X8 e8 W8 f9 => ?_)
    have f10 := tEv.wr W8
    have f11 := tHv.wr W8
    have f12 := t1v.other W8 (Or.inl u_r0_ao)
    have f13 := t2v.other W8 (Or.inl u_r0_ao)
    have f14 := t3v.other W8 (Or.inl u_r0_ao)
    have f15 := t4v.other W8 (Or.inl u_r0_ao)
    have f16 := t5v.other W8 (Or.inl u_r0_ao)
    have f17 := tSv.other W8 (Or.inl u_r0_ao)
    have f18 := i1v.other W8 u_ah_ao
    have f19 := i3v.other W8 (Ne.symm u_ao_au)
    have f20 := i4v.other W8 (Ne.symm u_ao_ab)
    have f21 := i5v.other W8 (Ne.symm u_ao_ar)
    have N8 := Fr.snoc X8 N g_ao
    have K8 := Kh.wr W8 (Or.inl (List.mem_of_getElem? (i := 2) rfl))
    have Z8 := Nat.le_trans Zh (Keep.of_wr W8).1
    refine zaloadN X8 hx (hb hby d38_104) rfl rfl ?_
    refine zdup X8 hx (hb hby d38_105) rfl ?_
    refine zgetF X8 hx hZ hown (wm hw 266 rfl) e8 f17 (hb hby d38_106) (fun T22 X22 e22 => ?_)
    refine ziconst X22 hx (hb hby d38_109) (z := (1 : Int32)) rfl ?_
    refine zisub X22 hx (hb hby d38_110) ?_
    refine zputF X22 hx hZ hown (wm hw 266 rfl) e22 f17 f10 (Or.inl (wm hw 267 rfl)) (wm hw 214 rfl) (ty := .int) (by decide) rfl rfl (hb hby d38_111) (fun T23 h23 X23 e23 W23 => ?_)
    have f24 := f17.same W23
    have f25 := f10.wr W23
    have f26 := f11.wr W23
    have f27 := f12.other W23 (Or.inr (slot_ne (Or.inl (wm hw 241 rfl)) (Or.inl (wm hw 267 rfl)) (by decide) (t := (.array .int)) (t' := .int) (by decide) (by decide)))
    have f28 := f13.other W23 (Or.inr (slot_ne (Or.inl (wm hw 230 rfl)) (Or.inl (wm hw 267 rfl)) (by decide) (t := (.array (.object sn0))) (t' := .int) (by decide) (by decide)))
    have f29 := f14.other W23 (Or.inr (slot_ne (Or.inl (wm hw 245 rfl)) (Or.inl (wm hw 267 rfl)) (by decide) (t := (.array .int)) (t' := .int) (by decide) (by decide)))
    have f30 := f15.other W23 (Or.inr (slot_ne (Or.inl (wm hw 248 rfl)) (Or.inl (wm hw 267 rfl)) (by decide) (t := (.array .long)) (t' := .int) (by decide) (by decide)))
    have f31 := f16.other W23 (Or.inr (slot_ne (Or.inl (wm hw 250 rfl)) (Or.inl (wm hw 267 rfl)) (by decide) (t := (.array .long)) (t' := .int) (by decide) (by decide)))
    have f32 := f18.other W23 (Ne.symm u_r0_ah)
    have f33 := f19.other W23 (Ne.symm u_r0_au)
    have f34 := f20.other W23 (Ne.symm u_r0_ab)
    have f35 := f21.other W23 (Ne.symm u_r0_ar)
    have f36 := f9.other W23 (Ne.symm u_r0_ao)
    have N23 := Fr.snoc X23 N8 g_r0
    have K23 := K8.wr W23 (Or.inl (List.mem_of_getElem? (i := 0) rfl))
    have Z23 := Nat.le_trans Z8 (Keep.of_wr W23).1
    have hz114 : Fld Z h23 r0 sn1 "size" "I" (.int (own_i (n - 1))) := own_is (n := n) (by omega) ▸ f24
    refine zaloadN X23 hx (hb hby d38_114) rfl rfl ?_
    refine zgetF X23 hx hZ hown (wm hw 266 rfl) e23 hz114 (hb hby d38_115) (fun T37 X37 e37 => ?_)
    by_cases hc118 : (own_i (n - 1)) = (0 : Int32)
    · refine zifNo X37 hx (hb hby d38_118) ((if0 _ _).trans (teq hc118).2) ?_
      refine zaloadN X37 hx (hb hby d38_121) rfl rfl ?_
      refine zaconstNull X37 hx (hb hby d38_122) ?_
      refine zputF X37 hx hZ hown (wm hw 240 rfl) e37 f27 f25 (Or.inl (wm hw 241 rfl)) (wm hw 214 rfl) (ty := (.array .int)) (by decide) rfl rfl (hb hby d38_123) (fun T38 h38 X38 e38 W38 => ?_)
      have f39 := f27.same W38
      have f40 := f25.wr W38
      have f41 := f26.wr W38
      have f42 := f28.other W38 (Or.inr (slot_ne (Or.inl (wm hw 230 rfl)) (Or.inl (wm hw 241 rfl)) (by decide) (t := (.array (.object sn0))) (t' := (.array .int)) (by decide) (by decide)))
      have f43 := f29.other W38 (Or.inr (slot_ne (Or.inl (wm hw 245 rfl)) (Or.inl (wm hw 241 rfl)) (by decide) (t := (.array .int)) (t' := (.array .int)) (by decide) (by decide)))
      have f44 := f30.other W38 (Or.inr (slot_ne (Or.inl (wm hw 248 rfl)) (Or.inl (wm hw 241 rfl)) (by decide) (t := (.array .long)) (t' := (.array .int)) (by decide) (by decide)))
      have f45 := f31.other W38 (Or.inr (slot_ne (Or.inl (wm hw 250 rfl)) (Or.inl (wm hw 241 rfl)) (by decide) (t := (.array .long)) (t' := (.array .int)) (by decide) (by decide)))
      have f46 := f32.other W38 (Ne.symm u_r0_ah)
      have f47 := f33.other W38 (Ne.symm u_r0_au)
      have f48 := f34.other W38 (Ne.symm u_r0_ab)
      have f49 := f35.other W38 (Ne.symm u_r0_ar)
      have f50 := f36.other W38 (Ne.symm u_r0_ao)
      have f51 := hz114.other W38 (Or.inr (slot_ne (Or.inl (wm hw 267 rfl)) (Or.inl (wm hw 241 rfl)) (by decide) (t := .int) (t' := (.array .int)) (by decide) (by decide)))
      have N38 := Fr.snoc X38 N23 g_r0
      have K38 := K23.wr W38 (Or.inl (List.mem_of_getElem? (i := 0) rfl))
      have Z38 := Nat.le_trans Z23 (Keep.of_wr W38).1
      refine zaloadN X38 hx (hb hby d38_126) rfl rfl ?_
      refine zaconstNull X38 hx (hb hby d38_127) ?_
      refine zputF X38 hx hZ hown (wm hw 229 rfl) e38 f42 f40 (Or.inl (wm hw 230 rfl)) (wm hw 214 rfl) (ty := (.array (.object sn0))) (by decide) rfl rfl (hb hby d38_128) (fun T52 h52 X52 e52 W52 => ?_)
      have f53 := f42.same W52
      have f54 := f40.wr W52
      have f55 := f41.wr W52
      have f56 := f43.other W52 (Or.inr (slot_ne (Or.inl (wm hw 245 rfl)) (Or.inl (wm hw 230 rfl)) (by decide) (t := (.array .int)) (t' := (.array (.object sn0))) (by decide) (by decide)))
      have f57 := f44.other W52 (Or.inr (slot_ne (Or.inl (wm hw 248 rfl)) (Or.inl (wm hw 230 rfl)) (by decide) (t := (.array .long)) (t' := (.array (.object sn0))) (by decide) (by decide)))
      have f58 := f45.other W52 (Or.inr (slot_ne (Or.inl (wm hw 250 rfl)) (Or.inl (wm hw 230 rfl)) (by decide) (t := (.array .long)) (t' := (.array (.object sn0))) (by decide) (by decide)))
      have f59 := f46.other W52 (Ne.symm u_r0_ah)
      have f60 := f47.other W52 (Ne.symm u_r0_au)
      have f61 := f48.other W52 (Ne.symm u_r0_ab)
      have f62 := f49.other W52 (Ne.symm u_r0_ar)
      have f63 := f50.other W52 (Ne.symm u_r0_ao)
      have f64 := f51.other W52 (Or.inr (slot_ne (Or.inl (wm hw 267 rfl)) (Or.inl (wm hw 230 rfl)) (by decide) (t := .int) (t' := (.array (.object sn0))) (by decide) (by decide)))
      have f65 := f39.other W52 (Or.inr (slot_ne (Or.inl (wm hw 241 rfl)) (Or.inl (wm hw 230 rfl)) (by decide) (t := (.array .int)) (t' := (.array (.object sn0))) (by decide) (by decide)))
      have N52 := Fr.snoc X52 N38 g_r0
      have K52 := K38.wr W52 (Or.inl (List.mem_of_getElem? (i := 0) rfl))
      have Z52 := Nat.le_trans Z38 (Keep.of_wr W52).1
      refine zaloadN X52 hx (hb hby d38_131) rfl rfl ?_
      refine zaconstNull X52 hx (hb hby d38_132) ?_
      refine zputF X52 hx hZ hown (wm hw 244 rfl) e52 f56 f54 (Or.inl (wm hw 245 rfl)) (wm hw 214 rfl) (ty := (.array .int)) (by decide) rfl rfl (hb hby d38_133) (fun T66 h66 X66 e66 W66 => ?_)
      have f67 := f56.same W66
      have f68 := f54.wr W66
      have f69 := f55.wr W66
      have f70 := f57.other W66 (Or.inr (slot_ne (Or.inl (wm hw 248 rfl)) (Or.inl (wm hw 245 rfl)) (by decide) (t := (.array .long)) (t' := (.array .int)) (by decide) (by decide)))
      have f71 := f58.other W66 (Or.inr (slot_ne (Or.inl (wm hw 250 rfl)) (Or.inl (wm hw 245 rfl)) (by decide) (t := (.array .long)) (t' := (.array .int)) (by decide) (by decide)))
      have f72 := f59.other W66 (Ne.symm u_r0_ah)
      have f73 := f60.other W66 (Ne.symm u_r0_au)
      have f74 := f61.other W66 (Ne.symm u_r0_ab)
      have f75 := f62.other W66 (Ne.symm u_r0_ar)
      have f76 := f63.other W66 (Ne.symm u_r0_ao)
      have f77 := f64.other W66 (Or.inr (slot_ne (Or.inl (wm hw 267 rfl)) (Or.inl (wm hw 245 rfl)) (by decide) (t := .int) (t' := (.array .int)) (by decide) (by decide)))
      have f78 := f65.other W66 (Or.inr (slot_ne (Or.inl (wm hw 241 rfl)) (Or.inl (wm hw 245 rfl)) (by decide) (t := (.array .int)) (t' := (.array .int)) (by decide) (by decide)))
      have f79 := f53.other W66 (Or.inr (slot_ne (Or.inl (wm hw 230 rfl)) (Or.inl (wm hw 245 rfl)) (by decide) (t := (.array (.object sn0))) (t' := (.array .int)) (by decide) (by decide)))
      have N66 := Fr.snoc X66 N52 g_r0
      have K66 := K52.wr W66 (Or.inl (List.mem_of_getElem? (i := 0) rfl))
      have Z66 := Nat.le_trans Z52 (Keep.of_wr W66).1
      refine zaloadN X66 hx (hb hby d38_136) rfl rfl ?_
      refine zaconstNull X66 hx (hb hby d38_137) ?_
      refine zputF X66 hx hZ hown (wm hw 247 rfl) e66 f70 f68 (Or.inl (wm hw 248 rfl)) (wm hw 214 rfl) (ty := (.array .long)) (by decide) rfl rfl (hb hby d38_138) (fun T80 h80 X80 e80 W80 => ?_)
      have f81 := f70.same W80
      have f82 := f68.wr W80
      have f83 := f69.wr W80
      have f84 := f71.other W80 (Or.inr (slot_ne (Or.inl (wm hw 250 rfl)) (Or.inl (wm hw 248 rfl)) (by decide) (t := (.array .long)) (t' := (.array .long)) (by decide) (by decide)))
      have f85 := f72.other W80 (Ne.symm u_r0_ah)
      have f86 := f73.other W80 (Ne.symm u_r0_au)
      have f87 := f74.other W80 (Ne.symm u_r0_ab)
      have f88 := f75.other W80 (Ne.symm u_r0_ar)
      have f89 := f76.other W80 (Ne.symm u_r0_ao)
      have f90 := f77.other W80 (Or.inr (slot_ne (Or.inl (wm hw 267 rfl)) (Or.inl (wm hw 248 rfl)) (by decide) (t := .int) (t' := (.array .long)) (by decide) (by decide)))
      have f91 := f78.other W80 (Or.inr (slot_ne (Or.inl (wm hw 241 rfl)) (Or.inl (wm hw 248 rfl)) (by decide) (t := (.array .int)) (t' := (.array .long)) (by decide) (by decide)))
      have f92 := f79.other W80 (Or.inr (slot_ne (Or.inl (wm hw 230 rfl)) (Or.inl (wm hw 248 rfl)) (by decide) (t := (.array (.object sn0))) (t' := (.array .long)) (by decide) (by decide)))
      have f93 := f67.other W80 (Or.inr (slot_ne (Or.inl (wm hw 245 rfl)) (Or.inl (wm hw 248 rfl)) (by decide) (t := (.array .int)) (t' := (.array .long)) (by decide) (by decide)))
      have N80 := Fr.snoc X80 N66 g_r0
      have K80 := K66.wr W80 (Or.inl (List.mem_of_getElem? (i := 0) rfl))
      have Z80 := Nat.le_trans Z66 (Keep.of_wr W80).1
      refine zaloadN X80 hx (hb hby d38_141) rfl rfl ?_
      refine zaconstNull X80 hx (hb hby d38_142) ?_
      refine zputF X80 hx hZ hown (wm hw 249 rfl) e80 f84 f82 (Or.inl (wm hw 250 rfl)) (wm hw 214 rfl) (ty := (.array .long)) (by decide) rfl rfl (hb hby d38_143) (fun T94 h94 X94 e94 W94 => ?_)
      have f95 := f84.same W94
      have f96 := f82.wr W94
      have f97 := f83.wr W94
      have f98 := f85.other W94 (Ne.symm u_r0_ah)
      have f99 := f86.other W94 (Ne.symm u_r0_au)
      have f100 := f87.other W94 (Ne.symm u_r0_ab)
      have f101 := f88.other W94 (Ne.symm u_r0_ar)
      have f102 := f89.other W94 (Ne.symm u_r0_ao)
      have f103 := f90.other W94 (Or.inr (slot_ne (Or.inl (wm hw 267 rfl)) (Or.inl (wm hw 250 rfl)) (by decide) (t := .int) (t' := (.array .long)) (by decide) (by decide)))
      have f104 := f91.other W94 (Or.inr (slot_ne (Or.inl (wm hw 241 rfl)) (Or.inl (wm hw 250 rfl)) (by decide) (t := (.array .int)) (t' := (.array .long)) (by decide) (by decide)))
      have f105 := f92.other W94 (Or.inr (slot_ne (Or.inl (wm hw 230 rfl)) (Or.inl (wm hw 250 rfl)) (by decide) (t := (.array (.object sn0))) (t' := (.array .long)) (by decide) (by decide)))
      have f106 := f93.other W94 (Or.inr (slot_ne (Or.inl (wm hw 245 rfl)) (Or.inl (wm hw 250 rfl)) (by decide) (t := (.array .int)) (t' := (.array .long)) (by decide) (by decide)))
      have f107 := f81.other W94 (Or.inr (slot_ne (Or.inl (wm hw 248 rfl)) (Or.inl (wm hw 250 rfl)) (by decide) (t := (.array .long)) (t' := (.array .long)) (by decide) (by decide)))
      have N94 := Fr.snoc X94 N80 g_r0
      have K94 := K80.wr W94 (Or.inl (List.mem_of_getElem? (i := 0) rfl))
      have Z94 := Nat.le_trans Z80 (Keep.of_wr W94).1
      refine zgoto X94 hx (pc' := 153) (hb hby d38_146) (by decide) (by decide) ?_
      refine zlloadN X94 hx (hb hby d38_153) rfl ?_
      refine zretL X94 hx hrt hlk (hb hby d38_154) e94 hG (by decide) (by decide) ?_
      exact ⟨_, rfl, N94, _, K94, f96, Or.inl ⟨own_m0 hc118 (by omega), f105⟩⟩
    · refine zifYes X37 hx (pc' := 149) (hb hby d38_118) ((if0 _ _).trans (feq hc118).2) (by decide) (by decide) ?_
      refine zaloadN X37 hx (hb hby d38_149) rfl rfl ?_
      obtain ⟨cq108, qq108, qq108'⟩ := f25.cell
      obtain ⟨_, _, ⟨T108, L108, k108, n108⟩, -, X108, ⟨Lc108, hQ108, l108, y108, z108⟩, st108⟩ := X37.privateBack hx (y := yn36) hown (mvT hZ (wm hw 283 rfl)) (mvT hZ (wm hw 284 rfl)) (sel_priv (mvT hZ (wm hw 214 rfl)) (Cond.privateMethod_at (mvP hZ (wm hw 285 rfl) (args := #[]))) (mvT hZ (wm hw 284 rfl)) (by decide)) (Cond.privateMethod_at (mvP hZ (wm hw 285 rfl) (args := #[]))) (mvT hZ (wm hw 286 rfl)) (by decide) (backOf (W := 0) (rm40_a l Z a0 hw [] r0 hd (upf F (gp).toNatClampNeg false) K' (own_i (n - 1)) ah ao au ab ar h23 n0 Z23 ⟨f25, f26, f27, f28, f29, f30, f31, hz114, f32, f36, ⟨_, f33⟩, ⟨_, f34⟩, ⟨_, f35⟩, ⟨g_r0, g_ah, g_ao, g_au, g_ab, g_ar⟩, ⟨u_r0_ah, u_r0_ao, u_r0_au, u_r0_ab, u_r0_ar, u_ah_ao, u_ah_au, u_ah_ab, u_ah_ar, u_ao_au, u_ao_ab, u_ao_ar, u_au_ab, u_au_ar, u_ab_ar⟩⟩) hZ (wm hw 286 rfl) (wm hw 215 rfl) (by decide) (by decide)) (g := (mkF m 150 #[rv r0, iv p1, iv i0, lv (fr (i0).toNatClampNeg), sd, iv ((4 : Int32) - (1 : Int32)), iv gp, iv (own_it i0 ((4 : Int32) - (1 : Int32)) (tt + 1))] [(.ref r0)])) rfl (by rw [hml]; rfl) (Steps.refl _) (a := r0) (by rw [e37]; exact qq108) qq108' (argsL := []) (rest := []) (lenOf pd_0 rfl) rfl (by show 2 * 0 + _ ≤ _; exact Nat.le_of_eq rfl) (hb hby d38_150) (fun _ _ => ⟨rfl, e37, (by decide : 0 + 5 ≤ _), (by decide : 0 + 20 ≤ _)⟩)
      dsimp only [Pt.U, Pt.locs, Pt.cells, Pt.slots] at X108 l108 y108 z108 st108 hQ108
      subst l108 y108 z108
      obtain ⟨rfl, Nq108, e108⟩ := hQ108
      have N108 := Fr.app N23 Nq108
      refine Go.stp (fun t_ k_ => st108.trans k_) ?_
      show Go p.tables e below G (T108.setTop (mkF m 153 #[rv r0, iv p1, iv i0, lv (fr (i0).toNatClampNeg), sd, iv ((4 : Int32) - (1 : Int32)), iv gp, iv (own_it i0 ((4 : Int32) - (1 : Int32)) (tt + 1))] []))
      refine zlloadN X108 hx (hb hby d38_153) rfl ?_
      refine zretL X108 hx hrt hlk (hb hby d38_154) e108 hG (by decide) (by decide) ?_
      exact ⟨_, rfl, N108, _, K23, f25, Or.inr (Or.inl ⟨by have : n ≠ 1 := (fun q => by subst q; exact hc118 (by decide)); omega, by omega, _, _, _, f28, f36⟩)⟩
  | succ k ih =>
    intro T locs h u gp K' X N E Zh Kh TBv hgp hu
    obtain ⟨tEv, tHv, t1v, t2v, t3v, t4v, t5v, tSv, i1v, i2v, ⟨fuv, i3v⟩, ⟨fbv, i4v⟩, ⟨frv, i5v⟩, -, -⟩ := id TBv
    have hsu : F ((own_it i0 ((4 : Int32) - (1 : Int32)) (u + 1))).toNatClampNeg = true := hst u (by omega)
    have hbu : 0 ≤ ((own_it i0 ((4 : Int32) - (1 : Int32)) (u + 1))).toInt ∧ ((own_it i0 ((4 : Int32) - (1 : Int32)) (u + 1))).toInt < ((4 : Nat) : Int) := own_rb4 i0 hb0 (u + 1)
    show Go p.tables e below G (T.setTop (mkF m 34 #[rv r0, iv p1, iv i0, lv (fr (i0).toNatClampNeg), sd, iv ((4 : Int32) - (1 : Int32)), iv gp, iv (own_it i0 ((4 : Int32) - (1 : Int32)) (u + 1))] []))
    refine zaloadN X hx (hb hby d38_34) rfl rfl ?_
    refine zgetF X hx hZ hown (wm hw 229 rfl) E t2v (hb hby d38_35) (fun T109 X109 e109 => ?_)
    refine ziload X109 hx (hb hby d38_38) rfl ?_
    refine zaal X109 hx hZ e109 i2v (own_rb4 i0 hb0 (u + 1)) (hb hby d38_40) ?_
    rw [show (mkh hd (F ((own_it i0 ((4 : Int32) - (1 : Int32)) (u + 1))).toNatClampNeg)) = Value.ref hd from mkh_t hsu]
    show Go p.tables e below G (T109.setTop (mkF m 41 #[rv r0, iv p1, iv i0, lv (fr (i0).toNatClampNeg), sd, iv ((4 : Int32) - (1 : Int32)), iv gp, iv (own_it i0 ((4 : Int32) - (1 : Int32)) (u + 1))] [(.ref hd)]))
    refine zifnullNo X109 hx (hb hby d38_41) ?_
    refine ziload X109 hx (hb hby d38_44) rfl ?_
    refine zaloadN X109 hx (hb hby d38_46) rfl rfl ?_
    refine zaloadN X109 hx (hb hby d38_47) rfl rfl ?_
    refine zgetF X109 hx hZ hown (wm hw 240 rfl) e109 t1v (hb hby d38_48) (fun T110 X110 e110 => ?_)
    refine ziload X110 hx (hb hby d38_51) rfl ?_
    refine zial X110 hx hZ e110 i1v (own_rb4 i0 hb0 (u + 1)) (hb hby d38_53) ?_
    obtain ⟨cq111, qq111, qq111'⟩ := tEv.cell
    obtain ⟨_, _, ⟨T111, L111, k111, n111⟩, -, X111, ⟨Lc111, hQ111, l111, y111, z111⟩, st111⟩ := X110.privateBack hx (y := yn28) hown (mvT hZ (wm hw 255 rfl)) (mvT hZ (wm hw 256 rfl)) (sel_priv (mvT hZ (wm hw 214 rfl)) (Cond.privateMethod_at (mvP hZ (wm hw 257 rfl) (args := #[]))) (mvT hZ (wm hw 256 rfl)) (by decide)) (Cond.privateMethod_at (mvP hZ (wm hw 257 rfl) (args := #[]))) (mvT hZ (wm hw 258 rfl)) (by decide) (backOf (W := 1) (rm35_4 l Z a0 hw [] r0 (K' ((own_it i0 ((4 : Int32) - (1 : Int32)) (u + 1))).toNatClampNeg) ao hd F h n0 Zh t2v i2v) hZ (wm hw 258 rfl) (wm hw 215 rfl) (by decide) (by decide)) (g := (mkF m 54 #[rv r0, iv p1, iv i0, lv (fr (i0).toNatClampNeg), sd, iv ((4 : Int32) - (1 : Int32)), iv gp, iv (own_it i0 ((4 : Int32) - (1 : Int32)) (u + 1))] [(.int (K' ((own_it i0 ((4 : Int32) - (1 : Int32)) (u + 1))).toNatClampNeg)), (.ref r0), (.int (own_it i0 ((4 : Int32) - (1 : Int32)) (u + 1)))])) rfl (by rw [hml]; rfl) (Steps.refl _) (a := r0) (by rw [e110]; exact qq111) qq111' (argsL := [(.int (K' ((own_it i0 ((4 : Int32) - (1 : Int32)) (u + 1))).toNatClampNeg))]) (rest := [(.int (own_it i0 ((4 : Int32) - (1 : Int32)) (u + 1)))]) (lenOf pd_19 rfl) rfl (by show 2 * 0 + _ ≤ _; exact Nat.le_of_eq rfl) (hb hby d38_54) (fun _ _ => ⟨rfl, e110, (by decide : 0 + 0 ≤ _), (by decide : 0 + 0 ≤ _)⟩)
    dsimp only [Pt.U, Pt.locs, Pt.cells, Pt.slots] at X111 l111 y111 z111 st111 hQ111
    subst l111 y111 z111
    obtain ⟨rfl, Nq111, e111⟩ := hQ111
    have N111 := Fr.app N Nq111
    refine Go.stp (fun t_ k_ => st111.trans k_) ?_
    show Go p.tables e below G (T111.setTop (mkF m 57 #[rv r0, iv p1, iv i0, lv (fr (i0).toNatClampNeg), sd, iv ((4 : Int32) - (1 : Int32)), iv gp, iv (own_it i0 ((4 : Int32) - (1 : Int32)) (u + 1))] [(.int (own_hm4 (K' ((own_it i0 ((4 : Int32) - (1 : Int32)) (u + 1))).toNatClampNeg))), (.int (own_it i0 ((4 : Int32) - (1 : Int32)) (u + 1)))]))
    refine zisub X111 hx (hb hby d38_57) ?_
    refine ziload X111 hx (hb hby d38_58) rfl ?_
    refine ziand X111 hx (hb hby d38_60) ?_
    refine ziload X111 hx (hb hby d38_61) rfl ?_
    refine ziload X111 hx (hb hby d38_63) rfl ?_
    refine zisub X111 hx (hb hby d38_65) ?_
    refine ziload X111 hx (hb hby d38_66) rfl ?_
    refine ziand X111 hx (hb hby d38_68) ?_
    by_cases hc69 : (((own_it i0 ((4 : Int32) - (1 : Int32)) (u + 1)) - (own_hm4 (K' ((own_it i0 ((4 : Int32) - (1 : Int32)) (u + 1))).toNatClampNeg))) &&& ((4 : Int32) - (1 : Int32))) < (((own_it i0 ((4 : Int32) - (1 : Int32)) (u + 1)) - gp) &&& ((4 : Int32) - (1 : Int32)))
    · refine zicmpYes X111 hx (pc' := 84) (hb hby d38_69) (tlt hc69).1 (by decide) (by decide) ?_
      refine ziload X111 hx (hb hby d38_84) rfl ?_
      refine ziconst X111 hx (hb hby d38_86) (z := (1 : Int32)) rfl ?_
      refine ziadd X111 hx (hb hby d38_87) ?_
      refine ziload X111 hx (hb hby d38_88) rfl ?_
      refine ziand X111 hx (hb hby d38_90) ?_
      refine zistore X111 hx (l' := #[rv r0, iv p1, iv i0, lv (fr (i0).toNatClampNeg), sd, iv ((4 : Int32) - (1 : Int32)), iv gp, iv (((own_it i0 ((4 : Int32) - (1 : Int32)) (u + 1)) + (1 : Int32)) &&& ((4 : Int32) - (1 : Int32)))]) (hb hby d38_91) rfl ?_
      refine zgoto X111 hx (pc' := 34) (hb hby d38_93) (by decide) (by decide) ?_
      exact ih _ _ _ (u + 1) _ _ X111 N111 e111 Zh Kh TBv hgp (by omega)
    · refine zicmpNo X111 hx (hb hby d38_69) (flt hc69).1 ?_
      refine zaloadN X111 hx (hb hby d38_72) rfl rfl ?_
      refine ziload X111 hx (hb hby d38_73) rfl ?_
      refine ziload X111 hx (hb hby d38_75) rfl ?_
      obtain ⟨cq112, qq112, qq112'⟩ := tEv.cell
      obtain ⟨_, _, ⟨T112, L112, k112, n112⟩, -, X112, ⟨Lc112, hQ112, l112, y112, z112⟩, st112⟩ := X111.privateBack hx (y := yn33) hown (mvT hZ (wm hw 279 rfl)) (mvT hZ (wm hw 280 rfl)) (sel_priv (mvT hZ (wm hw 214 rfl)) (Cond.privateMethod_at (mvP hZ (wm hw 281 rfl) (args := #[]))) (mvT hZ (wm hw 280 rfl)) (by decide)) (Cond.privateMethod_at (mvP hZ (wm hw 281 rfl) (args := #[]))) (mvT hZ (wm hw 282 rfl)) (by decide) (backOf (W := 0) (rm39_4 l Z a0 hw [] r0 (own_it i0 ((4 : Int32) - (1 : Int32)) (u + 1)) gp hd F K' (own_i n) ah ao au ab ar h n0 Zh ⟨tEv, tHv, t1v, t2v, t3v, t4v, t5v, tSv, i1v, i2v, ⟨_, i3v⟩, ⟨_, i4v⟩, ⟨_, i5v⟩, ⟨g_r0, g_ah, g_ao, g_au, g_ab, g_ar⟩, ⟨u_r0_ah, u_r0_ao, u_r0_au, u_r0_ab, u_r0_ar, u_ah_ao, u_ah_au, u_ah_ab, u_ah_ar, u_ao_au, u_ao_ab, u_ao_ar, u_au_ab, u_au_ar, u_ab_ar⟩⟩ hbu hgp.1 hsu hgp.2) hZ (wm hw 282 rfl) (wm hw 215 rfl) (by decide) (by decide)) (g := (mkF m 77 #[rv r0, iv p1, iv i0, lv (fr (i0).toNatClampNeg), sd, iv ((4 : Int32) - (1 : Int32)), iv gp, iv (own_it i0 ((4 : Int32) - (1 : Int32)) (u + 1))] [(.int gp), (.int (own_it i0 ((4 : Int32) - (1 : Int32)) (u + 1))), (.ref r0)])) rfl (by rw [hml]; rfl) (Steps.refl _) (a := r0) (by rw [e111]; exact qq112) qq112' (argsL := [(.int (own_it i0 ((4 : Int32) - (1 : Int32)) (u + 1))), (.int gp)]) (rest := []) (lenOf pd_5 rfl) rfl (by show 2 * 0 + _ ≤ _; exact Nat.le_of_eq rfl) (hb hby d38_77) (fun _ _ => ⟨rfl, e111, (by decide : 0 + 0 ≤ _), (by decide : 0 + 0 ≤ _)⟩)
      dsimp only [Pt.U, Pt.locs, Pt.cells, Pt.slots] at X112 l112 y112 z112 st112 hQ112
      subst l112 y112 z112
      obtain ⟨rfl, Nq112, Kc112, K112q, TB112⟩ := hQ112
      have N112 := Fr.app N111 Nq112
      have f113 := tEv.keep Kc112
      have f114 := tHv.keep Kc112
      have f115 := t1v.keep Kc112 (fun q => by simp only [List.mem_cons, List.not_mem_nil, or_false] at q; exact q.elim (fun q => u_r0_ah q) (fun q => q.elim (fun q => u_r0_ao q) (fun q => q.elim (fun q => u_r0_au q) (fun q => q.elim (fun q => u_r0_ab q) (fun q => u_r0_ar q)))))
      have f116 := t2v.keep Kc112 (fun q => by simp only [List.mem_cons, List.not_mem_nil, or_false] at q; exact q.elim (fun q => u_r0_ah q) (fun q => q.elim (fun q => u_r0_ao q) (fun q => q.elim (fun q => u_r0_au q) (fun q => q.elim (fun q => u_r0_ab q) (fun q => u_r0_ar q)))))
      have f117 := t3v.keep Kc112 (fun q => by simp only [List.mem_cons, List.not_mem_nil, or_false] at q; exact q.elim (fun q => u_r0_ah q) (fun q => q.elim (fun q => u_r0_ao q) (fun q => q.elim (fun q => u_r0_au q) (fun q => q.elim (fun q => u_r0_ab q) (fun q => u_r0_ar q)))))
      have f118 := t4v.keep Kc112 (fun q => by simp only [List.mem_cons, List.not_mem_nil, or_false] at q; exact q.elim (fun q => u_r0_ah q) (fun q => q.elim (fun q => u_r0_ao q) (fun q => q.elim (fun q => u_r0_au q) (fun q => q.elim (fun q => u_r0_ab q) (fun q => u_r0_ar q)))))
      have f119 := t5v.keep Kc112 (fun q => by simp only [List.mem_cons, List.not_mem_nil, or_false] at q; exact q.elim (fun q => u_r0_ah q) (fun q => q.elim (fun q => u_r0_ao q) (fun q => q.elim (fun q => u_r0_au q) (fun q => q.elim (fun q => u_r0_ab q) (fun q => u_r0_ar q)))))
      have f120 := tSv.keep Kc112 (fun q => by simp only [List.mem_cons, List.not_mem_nil, or_false] at q; exact q.elim (fun q => u_r0_ah q) (fun q => q.elim (fun q => u_r0_ao q) (fun q => q.elim (fun q => u_r0_au q) (fun q => q.elim (fun q => u_r0_ab q) (fun q => u_r0_ar q)))))
      have Z112 : n0 ≤ T112.heap.size := Nat.le_trans Zh Kc112.1
      have K112 := Kh.trans Kc112 (fun x q => by
          simp only [List.mem_cons, List.not_mem_nil, or_false] at q
          rcases q with rfl | rfl | rfl | rfl | rfl
          · exact (Or.inl (List.mem_of_getElem? (i := 1) rfl))
          · exact (Or.inl (List.mem_of_getElem? (i := 2) rfl))
          · exact (Or.inl (List.mem_of_getElem? (i := 3) rfl))
          · exact (Or.inl (List.mem_of_getElem? (i := 4) rfl))
          · exact (Or.inl (List.mem_of_getElem? (i := 5) rfl)))
      obtain ⟨tE112, tH112, t1112, t2112, t3112, t4112, t5112, tS112, i1112, i2112, ⟨fu112, i3112⟩, ⟨fb112, i4112⟩, ⟨fr112, i5112⟩, -, -⟩ := id TB112
      refine Go.stp (fun t_ k_ => st112.trans k_) ?_
      show Go p.tables e below G (T112.setTop (mkF m 80 #[rv r0, iv p1, iv i0, lv (fr (i0).toNatClampNeg), sd, iv ((4 : Int32) - (1 : Int32)), iv gp, iv (own_it i0 ((4 : Int32) - (1 : Int32)) (u + 1))] []))
      refine ziload X112 hx (hb hby d38_80) rfl ?_
      refine zistore X112 hx (l' := #[rv r0, iv p1, iv i0, lv (fr (i0).toNatClampNeg), sd, iv ((4 : Int32) - (1 : Int32)), iv (own_it i0 ((4 : Int32) - (1 : Int32)) (u + 1)), iv (own_it i0 ((4 : Int32) - (1 : Int32)) (u + 1))]) (hb hby d38_82) rfl ?_
      refine ziload X112 hx (hb hby d38_84) rfl ?_
      refine ziconst X112 hx (hb hby d38_86) (z := (1 : Int32)) rfl ?_
      refine ziadd X112 hx (hb hby d38_87) ?_
      refine ziload X112 hx (hb hby d38_88) rfl ?_
      refine ziand X112 hx (hb hby d38_90) ?_
      refine zistore X112 hx (l' := #[rv r0, iv p1, iv i0, lv (fr (i0).toNatClampNeg), sd, iv ((4 : Int32) - (1 : Int32)), iv (own_it i0 ((4 : Int32) - (1 : Int32)) (u + 1)), iv (((own_it i0 ((4 : Int32) - (1 : Int32)) (u + 1)) + (1 : Int32)) &&& ((4 : Int32) - (1 : Int32)))]) (hb hby d38_91) rfl ?_
      refine zgoto X112 hx (pc' := 34) (hb hby d38_93) (by decide) (by decide) ?_
      exact ih _ _ _ (u + 1) _ _ X112 N112 rfl Z112 K112 TB112 ⟨hbu, hsu⟩ (by omega)
theorem ef_38_8 (m : MethodId) (r0 : Addr) (p1 : Int32) : entryFrame m #[(.ref r0), (.int p1)] 8 = mkF m 0 #[rv r0, iv p1, un, un, un, un, un, un] [] := by first | (simp [entryFrame, mkF, argsToLocals, Value.category, iv, rv, lv, un, sd]; done) | rfl
set_option maxRecDepth 65536 in
set_option maxHeartbeats 40000000 in
theorem rm38_8 (l : Launch) (Z : State) (a0 : Array Value) (hw : ∀ d ∈ tables_1, d.before a0 Z = true) (ws : List Jvm.Cond) (r0 : Addr) (p1 : Int32) (hd : Addr) (F : Nat → Bool) (K : Nat → Int32) (ah : Addr) (ao : Addr) (au : Addr) (ab : Addr) (ar : Addr) (mp : Int32 → Bool) (Ls : List Nat) (n : Nat) (h0 : Heap) (n0 : Nat) (Z0 : n0 ≤ h0.size) (TB : Tb Z h0 n0 r0 hd 8 F K (own_i n) ah ao au ab ar) (hrep : RepH 8 own_P8 F K mp Ls) (hL : Ls.length ≤ n) (hmt : mp p1 = true) (hn : 4 ≤ n ∧ n ≤ 5) :
    Mzz l yn37 cn37 8 (some .long) ws (rk 5 5 20 80) #[(.ref r0), (.int p1)] Z h0 (QR Z r0 n h0 n0) := by
  refine Mzz.go (own := sn1) (nm := "remove") (L0 := #[rv r0, iv p1, un, un, un, un, un, un]) (plainFor_of_name pn_29) rfl rfl (fun m => ef_38_8 m r0 p1) ?_
  intro p e s m below meth c s₁ hx hby hml hown hnm X0 e0 hZ hrt hlk G hG
  have N0 := Fr.nil n0
  have K0 := Keep.refl h0 [r0, ah, ao, au, ab, ar]
  obtain ⟨tE, tH, t1, t2, t3, t4, t5, tS, i1, i2, ⟨fu, i3⟩, ⟨fb, i4⟩, ⟨fr, i5⟩, ⟨g_r0, g_ah, g_ao, g_au, g_ab, g_ar⟩, ⟨u_r0_ah, u_r0_ao, u_r0_au, u_r0_ab, u_r0_ar, u_ah_ao, u_ah_au, u_ah_ab, u_ah_ar, u_ao_au, u_ao_ab, u_ao_ar, u_au_ab, u_au_ar, u_ab_ar⟩⟩ := id TB
  obtain ⟨t, ht, hs, hm⟩ := hrep.2.1 p1
  have hFt : F (own_P8 p1 t) = true := hm.trans hmt
  show Go p.tables e below G (s₁.setTop (mkF m 0 #[rv r0, iv p1, un, un, un, un, un, un] []))
  refine zaloadN X0 hx (hb hby d38_0) rfl rfl ?_
  refine ziloadN X0 hx (hb hby d38_1) rfl ?_
  obtain ⟨cq1, qq1, qq1'⟩ := tE.cell
  obtain ⟨_, _, ⟨T1, L1, k1, n1⟩, -, X1, ⟨Lc1, hQ1, l1, y1, z1⟩, st1⟩ := X0.privateBack hx (y := yn29) hown (mvT hZ (wm hw 225 rfl)) (mvT hZ (wm hw 226 rfl)) (sel_priv (mvT hZ (wm hw 214 rfl)) (Cond.privateMethod_at (mvP hZ (wm hw 227 rfl) (args := #[]))) (mvT hZ (wm hw 226 rfl)) (by decide)) (Cond.privateMethod_at (mvP hZ (wm hw 227 rfl) (args := #[]))) (mvT hZ (wm hw 228 rfl)) (by decide) (backOf (W := 0) (rm31_8 l Z a0 hw [] r0 p1 hd F K ah ao t h0 n0 Z0 tE t1 t2 i1 i2 hs) hZ (wm hw 228 rfl) (wm hw 215 rfl) (by decide) (by decide)) (g := (mkF m 2 #[rv r0, iv p1, un, un, un, un, un, un] [(.int p1), (.ref r0)])) rfl (by rw [hml]; rfl) (Steps.refl _) (a := r0) (by rw [e0]; exact qq1) qq1' (argsL := [(.int p1)]) (rest := []) (lenOf pd_19 rfl) rfl (by show 2 * 0 + _ ≤ _; exact Nat.le_of_eq rfl) (hb hby d38_2) (fun _ _ => ⟨rfl, e0, (by decide : 0 + 0 ≤ _), (by decide : 0 + 0 ≤ _)⟩)
  dsimp only [Pt.U, Pt.locs, Pt.cells, Pt.slots] at X1 l1 y1 z1 st1 hQ1
  subst l1 y1 z1
  obtain ⟨rfl, Nq1, e1⟩ := hQ1
  have N1 := Fr.app N0 Nq1
  refine Go.stp (fun t_ k_ => st1.trans k_) ?_
  show Go p.tables e below G (T1.setTop (mkF m 5 #[rv r0, iv p1, un, un, un, un, un, un] [(.int (if F (own_P8 p1 t) = true then (own_it (own_hm8 p1) ((8 : Int32) - (1 : Int32)) t) else (-1 : Int32)))]))
  rw [if_pos hFt]
  show Go p.tables e below G (T1.setTop (mkF m 5 #[rv r0, iv p1, un, un, un, un, un, un] [(.int (own_it (own_hm8 p1) ((8 : Int32) - (1 : Int32)) t))]))
  suffices K2 : ∀ i0 : Int32, i0 = (own_it (own_hm8 p1) ((8 : Int32) - (1 : Int32)) t) → Go p.tables e below G (T1.setTop (mkF m 5 #[rv r0, iv p1, un, un, un, un, un, un] [(.int i0)])) from K2 _ rfl
  intro i0 hi0
  have hb0 : 0 ≤ (i0).toInt ∧ (i0).toInt < ((8 : Nat) : Int) := by rw [hi0]; exact own_tb8 p1 t
  have hF0 : F (i0).toNatClampNeg = true := by rw [hi0]; exact hFt
  obtain ⟨tt, htt, hst, het⟩ := row_free (p := own_S8 i0) hrep.1 (own_Sl8 i0 hb0) (own_Si8 i0 hb0) (by omega)
  show Go p.tables e below G (T1.setTop (mkF m 5 #[rv r0, iv p1, un, un, un, un, un, un] [(.int i0)]))
  refine zistoreN X1 hx (l' := #[rv r0, iv p1, iv i0, un, un, un, un, un]) (hb hby d38_5) rfl ?_
  refine zaloadN X1 hx (hb hby d38_6) rfl rfl ?_
  refine zgetF X1 hx hZ hown (wm hw 249 rfl) e1 t5 (hb hby d38_7) (fun T3 X3 e3 => ?_)
  refine ziloadN X3 hx (hb hby d38_10) rfl ?_
  refine zlal X3 hx hZ e3 i5 hb0 (hb hby d38_11) ?_
  refine zlstoreN X3 hx (l' := #[rv r0, iv p1, iv i0, lv (fr (i0).toNatClampNeg), sd, un, un, un]) (hb hby d38_12) rfl ?_
  refine zaloadN X3 hx (hb hby d38_13) rfl rfl ?_
  refine zgetF X3 hx hZ hown (wm hw 229 rfl) e3 t2 (hb hby d38_14) (fun T4 X4 e4 => ?_)
  obtain ⟨cl5, Ar5, Sz5, -, -⟩ := id i2
  refine zlen X4 hx hZ e4 Ar5 Sz5 (z := (8 : Int32)) rfl (hb hby d38_17) ?_
  refine ziconst X4 hx (hb hby d38_18) (z := (1 : Int32)) rfl ?_
  refine zisub X4 hx (hb hby d38_19) ?_
  refine zistore X4 hx (l' := #[rv r0, iv p1, iv i0, lv (fr (i0).toNatClampNeg), sd, iv ((8 : Int32) - (1 : Int32)), un, un]) (hb hby d38_20) rfl ?_
  refine ziloadN X4 hx (hb hby d38_22) rfl ?_
  refine zistore X4 hx (l' := #[rv r0, iv p1, iv i0, lv (fr (i0).toNatClampNeg), sd, iv ((8 : Int32) - (1 : Int32)), iv i0, un]) (hb hby d38_23) rfl ?_
  refine ziload X4 hx (hb hby d38_25) rfl ?_
  refine ziconst X4 hx (hb hby d38_27) (z := (1 : Int32)) rfl ?_
  refine ziadd X4 hx (hb hby d38_28) ?_
  refine ziload X4 hx (hb hby d38_29) rfl ?_
  refine ziand X4 hx (hb hby d38_31) ?_
  refine zistore X4 hx (l' := #[rv r0, iv p1, iv i0, lv (fr (i0).toNatClampNeg), sd, iv ((8 : Int32) - (1 : Int32)), iv i0, iv ((i0 + (1 : Int32)) &&& ((8 : Int32) - (1 : Int32)))]) (hb hby d38_32) rfl ?_
  show Go p.tables e below G (T4.setTop (mkF m 34 #[rv r0, iv p1, iv i0, lv (fr (i0).toNatClampNeg), sd, iv ((8 : Int32) - (1 : Int32)), iv i0, iv (own_it i0 ((8 : Int32) - (1 : Int32)) (0 + 1))] []))
  suffices LP : ∀ (k : Nat) (T : State) (locs : List Loc) (h : Heap) (u : Nat) (gp : Int32) (K' : Nat → Int32), Stand p l e (rk 5 5 20 80) s m #[(.ref r0), (.int p1)] below meth c T locs 0 0 → Fr n0 locs → T.heap = h → n0 ≤ h.size → Keep h0 h [r0, ah, ao, au, ab, ar] → (Tb Z h n0 r0 hd 8 F K' (own_i n) ah ao au ab ar) → ((0 ≤ (gp).toInt ∧ (gp).toInt < ((8 : Nat) : Int)) ∧ F (gp).toNatClampNeg = true) → (u + k = tt) → Go p.tables e below G (T.setTop (mkF m 34 #[rv r0, iv p1, iv i0, lv (fr (i0).toNatClampNeg), sd, iv ((8 : Int32) - (1 : Int32)), iv gp, iv (own_it i0 ((8 : Int32) - (1 : Int32)) (u + 1))] [])) from LP (tt) _ _ _ (0) (i0) (K) X4 N1 e4 Z0 K0 ⟨tE, tH, t1, t2, t3, t4, t5, tS, i1, i2, ⟨_, i3⟩, ⟨_, i4⟩, ⟨_, i5⟩, ⟨g_r0, g_ah, g_ao, g_au, g_ab, g_ar⟩, ⟨u_r0_ah, u_r0_ao, u_r0_au, u_r0_ab, u_r0_ar, u_ah_ao, u_ah_au, u_ah_ab, u_ah_ar, u_ao_au, u_ao_ab, u_ao_ar, u_au_ab, u_au_ar, u_ab_ar⟩⟩ ⟨hb0, hF0⟩ (by omega)
  intro k
  induction k with
  | zero =>
    intro T locs h u gp K' X N E Zh Kh TBv hgp hu
    obtain rfl : tt = u := by omega
    obtain ⟨tEv, tHv, t1v, t2v, t3v, t4v, t5v, tSv, i1v, i2v, ⟨fuv, i3v⟩, ⟨fbv, i4v⟩, ⟨frv, i5v⟩, -, -⟩ := id TBv
    show Go p.tables e below G (T.setTop (mkF m 34 #[rv r0, iv p1, iv i0, lv (fr (i0).toNatClampNeg), sd, iv ((8 : Int32) - (1 : Int32)), iv gp, iv (own_it i0 ((8 : Int32) - (1 : Int32)) (tt + 1))] []))
    refine zaloadN X hx (hb hby d38_34) rfl rfl ?_
    refine zgetF X hx hZ hown (wm hw 229 rfl) E t2v (hb hby d38_35) (fun T6 X6 e6 => ?_)
    refine ziload X6 hx (hb hby d38_38) rfl ?_
    refine zaal X6 hx hZ e6 i2v (own_rb8 i0 hb0 (tt + 1)) (hb hby d38_40) ?_
    rw [show (mkh hd (F ((own_it i0 ((8 : Int32) - (1 : Int32)) (tt + 1))).toNatClampNeg)) = Value.null from mkh_f het]
    show Go p.tables e below G (T6.setTop (mkF m 41 #[rv r0, iv p1, iv i0, lv (fr (i0).toNatClampNeg), sd, iv ((8 : Int32) - (1 : Int32)), iv gp, iv (own_it i0 ((8 : Int32) - (1 : Int32)) (tt + 1))] [.null]))
    refine zifnullYes X6 hx (pc' := 96) (hb hby d38_41) (by decide) (by decide) ?_
    refine zaloadN X6 hx (hb hby d38_96) rfl rfl ?_
    refine zgetF X6 hx hZ hown (wm hw 229 rfl) e6 t2v (hb hby d38_97) (fun T7 X7 e7 => ?_)
    refine ziload X7 hx (hb hby d38_100) rfl ?_
    refine zaconstNull X7 hx (hb hby d38_102) ?_
    refine zaas (b := false) X7 hx hZ e7 i2v tHv hgp.1 (hb hby d38_103) (fun T8 h8 X8 e8 W8 f9 => ?_)
    have f10 := tEv.wr W8
    have f11 := tHv.wr W8
    have f12 := t1v.other W8 (Or.inl u_r0_ao)
    have f13 := t2v.other W8 (Or.inl u_r0_ao)
    have f14 := t3v.other W8 (Or.inl u_r0_ao)
    have f15 := t4v.other W8 (Or.inl u_r0_ao)
    have f16 := t5v.other W8 (Or.inl u_r0_ao)
    have f17 := tSv.other W8 (Or.inl u_r0_ao)
    have f18 := i1v.other W8 u_ah_ao
    have f19 := i3v.other W8 (Ne.symm u_ao_au)
    have f20 := i4v.other W8 (Ne.symm u_ao_ab)
    have f21 := i5v.other W8 (Ne.symm u_ao_ar)
    have N8 := Fr.snoc X8 N g_ao
    have K8 := Kh.wr W8 (Or.inl (List.mem_of_getElem? (i := 2) rfl))
    have Z8 := Nat.le_trans Zh (Keep.of_wr W8).1
    refine zaloadN X8 hx (hb hby d38_104) rfl rfl ?_
    refine zdup X8 hx (hb hby d38_105) rfl ?_
    refine zgetF X8 hx hZ hown (wm hw 266 rfl) e8 f17 (hb hby d38_106) (fun T22 X22 e22 => ?_)
    refine ziconst X22 hx (hb hby d38_109) (z := (1 : Int32)) rfl ?_
    refine zisub X22 hx (hb hby d38_110) ?_
    refine zputF X22 hx hZ hown (wm hw 266 rfl) e22 f17 f10 (Or.inl (wm hw 267 rfl)) (wm hw 214 rfl) (ty := .int) (by decide) rfl rfl (hb hby d38_111) (fun T23 h23 X23 e23 W23 => ?_)
    have f24 := f17.same W23
    have f25 := f10.wr W23
    have f26 := f11.wr W23
    have f27 := f12.other W23 (Or.inr (slot_ne (Or.inl (wm hw 241 rfl)) (Or.inl (wm hw 267 rfl)) (by decide) (t := (.array .int)) (t' := .int) (by decide) (by decide)))
    have f28 := f13.other W23 (Or.inr (slot_ne (Or.inl (wm hw 230 rfl)) (Or.inl (wm hw 267 rfl)) (by decide) (t := (.array (.object sn0))) (t' := .int) (by decide) (by decide)))
    have f29 := f14.other W23 (Or.inr (slot_ne (Or.inl (wm hw 245 rfl)) (Or.inl (wm hw 267 rfl)) (by decide) (t := (.array .int)) (t' := .int) (by decide) (by decide)))
    have f30 := f15.other W23 (Or.inr (slot_ne (Or.inl (wm hw 248 rfl)) (Or.inl (wm hw 267 rfl)) (by decide) (t := (.array .long)) (t' := .int) (by decide) (by decide)))
    have f31 := f16.other W23 (Or.inr (slot_ne (Or.inl (wm hw 250 rfl)) (Or.inl (wm hw 267 rfl)) (by decide) (t := (.array .long)) (t' := .int) (by decide) (by decide)))
    have f32 := f18.other W23 (Ne.symm u_r0_ah)
    have f33 := f19.other W23 (Ne.symm u_r0_au)
    have f34 := f20.other W23 (Ne.symm u_r0_ab)
    have f35 := f21.other W23 (Ne.symm u_r0_ar)
    have f36 := f9.other W23 (Ne.symm u_r0_ao)
    have N23 := Fr.snoc X23 N8 g_r0
    have K23 := K8.wr W23 (Or.inl (List.mem_of_getElem? (i := 0) rfl))
    have Z23 := Nat.le_trans Z8 (Keep.of_wr W23).1
    have hz114 : Fld Z h23 r0 sn1 "size" "I" (.int (own_i (n - 1))) := own_is (n := n) (by omega) ▸ f24
    refine zaloadN X23 hx (hb hby d38_114) rfl rfl ?_
    refine zgetF X23 hx hZ hown (wm hw 266 rfl) e23 hz114 (hb hby d38_115) (fun T37 X37 e37 => ?_)
    have hd118 : ¬ ((own_i (n - 1)) = (0 : Int32)) := (fun q => by have := own_m0 q (by omega); omega)
    refine zifYes X37 hx (pc' := 149) (hb hby d38_118) ((if0 _ _).trans (feq hd118).2) (by decide) (by decide) ?_
    refine zaloadN X37 hx (hb hby d38_149) rfl rfl ?_
    have hc : n - 1 = 3 → cntF (upf F (gp).toNatClampNeg false) 8 < 4 := fun q => by have q := era_list hrep.1 (at_of hgp.1) hgp.2; omega
    obtain ⟨cq38, qq38, qq38'⟩ := f25.cell
    obtain ⟨_, _, ⟨T38, L38, k38, n38⟩, -, X38, ⟨Lc38, hQ38, l38, y38, z38⟩, st38⟩ := X37.privateBack hx (y := yn36) hown (mvT hZ (wm hw 283 rfl)) (mvT hZ (wm hw 284 rfl)) (sel_priv (mvT hZ (wm hw 214 rfl)) (Cond.privateMethod_at (mvP hZ (wm hw 285 rfl) (args := #[]))) (mvT hZ (wm hw 284 rfl)) (by decide)) (Cond.privateMethod_at (mvP hZ (wm hw 285 rfl) (args := #[]))) (mvT hZ (wm hw 286 rfl)) (by decide) (backOf (W := 0) (rm40_b l Z a0 hw [] r0 hd (upf F (gp).toNatClampNeg false) K' ah ao au ab ar (n - 1) h23 n0 Z23 ⟨f25, f26, f27, f28, f29, f30, f31, hz114, f32, f36, ⟨_, f33⟩, ⟨_, f34⟩, ⟨_, f35⟩, ⟨g_r0, g_ah, g_ao, g_au, g_ab, g_ar⟩, ⟨u_r0_ah, u_r0_ao, u_r0_au, u_r0_ab, u_r0_ar, u_ah_ao, u_ah_au, u_ah_ab, u_ah_ar, u_ao_au, u_ao_ab, u_ao_ar, u_au_ab, u_au_ar, u_ab_ar⟩⟩ (by omega) hc) hZ (wm hw 286 rfl) (wm hw 215 rfl) (by decide) (by decide)) (g := (mkF m 150 #[rv r0, iv p1, iv i0, lv (fr (i0).toNatClampNeg), sd, iv ((8 : Int32) - (1 : Int32)), iv gp, iv (own_it i0 ((8 : Int32) - (1 : Int32)) (tt + 1))] [(.ref r0)])) rfl (by rw [hml]; rfl) (Steps.refl _) (a := r0) (by rw [e37]; exact qq38) qq38' (argsL := []) (rest := []) (lenOf pd_0 rfl) rfl (by show 2 * 0 + _ ≤ _; exact Nat.le_of_eq rfl) (hb hby d38_150) (fun _ _ => ⟨rfl, e37, (by decide : 0 + 5 ≤ _), (by decide : 0 + 20 ≤ _)⟩)
    dsimp only [Pt.U, Pt.locs, Pt.cells, Pt.slots] at X38 l38 y38 z38 st38 hQ38
    subst l38 y38 z38
    obtain ⟨rfl, Nq38, wq38, Kc38, Cp38⟩ := hQ38
    have N38 := Fr.app N23 Nq38
    have K38 := keep_app K23 Kc38
    refine Go.stp (fun t_ k_ => st38.trans k_) ?_
    show Go p.tables e below G (T38.setTop (mkF m 153 #[rv r0, iv p1, iv i0, lv (fr (i0).toNatClampNeg), sd, iv ((8 : Int32) - (1 : Int32)), iv gp, iv (own_it i0 ((8 : Int32) - (1 : Int32)) (tt + 1))] []))
    refine zlloadN X38 hx (hb hby d38_153) rfl ?_
    refine zretL X38 hx hrt hlk (hb hby d38_154) rfl hG (by decide) (by decide) ?_
    exact ⟨_, rfl, N38, _, K38, Cp38⟩
  | succ k ih =>
    intro T locs h u gp K' X N E Zh Kh TBv hgp hu
    obtain ⟨tEv, tHv, t1v, t2v, t3v, t4v, t5v, tSv, i1v, i2v, ⟨fuv, i3v⟩, ⟨fbv, i4v⟩, ⟨frv, i5v⟩, -, -⟩ := id TBv
    have hsu : F ((own_it i0 ((8 : Int32) - (1 : Int32)) (u + 1))).toNatClampNeg = true := hst u (by omega)
    have hbu : 0 ≤ ((own_it i0 ((8 : Int32) - (1 : Int32)) (u + 1))).toInt ∧ ((own_it i0 ((8 : Int32) - (1 : Int32)) (u + 1))).toInt < ((8 : Nat) : Int) := own_rb8 i0 hb0 (u + 1)
    show Go p.tables e below G (T.setTop (mkF m 34 #[rv r0, iv p1, iv i0, lv (fr (i0).toNatClampNeg), sd, iv ((8 : Int32) - (1 : Int32)), iv gp, iv (own_it i0 ((8 : Int32) - (1 : Int32)) (u + 1))] []))
    refine zaloadN X hx (hb hby d38_34) rfl rfl ?_
    refine zgetF X hx hZ hown (wm hw 229 rfl) E t2v (hb hby d38_35) (fun T39 X39 e39 => ?_)
    refine ziload X39 hx (hb hby d38_38) rfl ?_
    refine zaal X39 hx hZ e39 i2v (own_rb8 i0 hb0 (u + 1)) (hb hby d38_40) ?_
    rw [show (mkh hd (F ((own_it i0 ((8 : Int32) - (1 : Int32)) (u + 1))).toNatClampNeg)) = Value.ref hd from mkh_t hsu]
    show Go p.tables e below G (T39.setTop (mkF m 41 #[rv r0, iv p1, iv i0, lv (fr (i0).toNatClampNeg), sd, iv ((8 : Int32) - (1 : Int32)), iv gp, iv (own_it i0 ((8 : Int32) - (1 : Int32)) (u + 1))] [(.ref hd)]))
    refine zifnullNo X39 hx (hb hby d38_41) ?_
    refine ziload X39 hx (hb hby d38_44) rfl ?_
    refine zaloadN X39 hx (hb hby d38_46) rfl rfl ?_
    refine zaloadN X39 hx (hb hby d38_47) rfl rfl ?_
    refine zgetF X39 hx hZ hown (wm hw 240 rfl) e39 t1v (hb hby d38_48) (fun T40 X40 e40 => ?_)
    refine ziload X40 hx (hb hby d38_51) rfl ?_
    refine zial X40 hx hZ e40 i1v (own_rb8 i0 hb0 (u + 1)) (hb hby d38_53) ?_
    obtain ⟨cq41, qq41, qq41'⟩ := tEv.cell
    obtain ⟨_, _, ⟨T41, L41, k41, n41⟩, -, X41, ⟨Lc41, hQ41, l41, y41, z41⟩, st41⟩ := X40.privateBack hx (y := yn28) hown (mvT hZ (wm hw 255 rfl)) (mvT hZ (wm hw 256 rfl)) (sel_priv (mvT hZ (wm hw 214 rfl)) (Cond.privateMethod_at (mvP hZ (wm hw 257 rfl) (args := #[]))) (mvT hZ (wm hw 256 rfl)) (by decide)) (Cond.privateMethod_at (mvP hZ (wm hw 257 rfl) (args := #[]))) (mvT hZ (wm hw 258 rfl)) (by decide) (backOf (W := 1) (rm35_8 l Z a0 hw [] r0 (K' ((own_it i0 ((8 : Int32) - (1 : Int32)) (u + 1))).toNatClampNeg) ao hd F h n0 Zh t2v i2v) hZ (wm hw 258 rfl) (wm hw 215 rfl) (by decide) (by decide)) (g := (mkF m 54 #[rv r0, iv p1, iv i0, lv (fr (i0).toNatClampNeg), sd, iv ((8 : Int32) - (1 : Int32)), iv gp, iv (own_it i0 ((8 : Int32) - (1 : Int32)) (u + 1))] [(.int (K' ((own_it i0 ((8 : Int32) - (1 : Int32)) (u + 1))).toNatClampNeg)), (.ref r0), (.int (own_it i0 ((8 : Int32) - (1 : Int32)) (u + 1)))])) rfl (by rw [hml]; rfl) (Steps.refl _) (a := r0) (by rw [e40]; exact qq41) qq41' (argsL := [(.int (K' ((own_it i0 ((8 : Int32) - (1 : Int32)) (u + 1))).toNatClampNeg))]) (rest := [(.int (own_it i0 ((8 : Int32) - (1 : Int32)) (u + 1)))]) (lenOf pd_19 rfl) rfl (by show 2 * 0 + _ ≤ _; exact Nat.le_of_eq rfl) (hb hby d38_54) (fun _ _ => ⟨rfl, e40, (by decide : 0 + 0 ≤ _), (by decide : 0 + 0 ≤ _)⟩)
    dsimp only [Pt.U, Pt.locs, Pt.cells, Pt.slots] at X41 l41 y41 z41 st41 hQ41
    subst l41 y41 z41
    obtain ⟨rfl, Nq41, e41⟩ := hQ41
    have N41 := Fr.app N Nq41
    refine Go.stp (fun t_ k_ => st41.trans k_) ?_
    show Go p.tables e below G (T41.setTop (mkF m 57 #[rv r0, iv p1, iv i0, lv (fr (i0).toNatClampNeg), sd, iv ((8 : Int32) - (1 : Int32)), iv gp, iv (own_it i0 ((8 : Int32) - (1 : Int32)) (u + 1))] [(.int (own_hm8 (K' ((own_it i0 ((8 : Int32) - (1 : Int32)) (u + 1))).toNatClampNeg))), (.int (own_it i0 ((8 : Int32) - (1 : Int32)) (u + 1)))]))
    refine zisub X41 hx (hb hby d38_57) ?_
    refine ziload X41 hx (hb hby d38_58) rfl ?_
    refine ziand X41 hx (hb hby d38_60) ?_
    refine ziload X41 hx (hb hby d38_61) rfl ?_
    refine ziload X41 hx (hb hby d38_63) rfl ?_
    refine zisub X41 hx (hb hby d38_65) ?_
    refine ziload X41 hx (hb hby d38_66) rfl ?_
    refine ziand X41 hx (hb hby d38_68) ?_
    by_cases hc69 : (((own_it i0 ((8 : Int32) - (1 : Int32)) (u + 1)) - (own_hm8 (K' ((own_it i0 ((8 : Int32) - (1 : Int32)) (u + 1))).toNatClampNeg))) &&& ((8 : Int32) - (1 : Int32))) < (((own_it i0 ((8 : Int32) - (1 : Int32)) (u + 1)) - gp) &&& ((8 : Int32) - (1 : Int32)))
    · refine zicmpYes X41 hx (pc' := 84) (hb hby d38_69) (tlt hc69).1 (by decide) (by decide) ?_
      refine ziload X41 hx (hb hby d38_84) rfl ?_
      refine ziconst X41 hx (hb hby d38_86) (z := (1 : Int32)) rfl ?_
      refine ziadd X41 hx (hb hby d38_87) ?_
      refine ziload X41 hx (hb hby d38_88) rfl ?_
      refine ziand X41 hx (hb hby d38_90) ?_
      refine zistore X41 hx (l' := #[rv r0, iv p1, iv i0, lv (fr (i0).toNatClampNeg), sd, iv ((8 : Int32) - (1 : Int32)), iv gp, iv (((own_it i0 ((8 : Int32) - (1 : Int32)) (u + 1)) + (1 : Int32)) &&& ((8 : Int32) - (1 : Int32)))]) (hb hby d38_91) rfl ?_
      refine zgoto X41 hx (pc' := 34) (hb hby d38_93) (by decide) (by decide) ?_
      exact ih _ _ _ (u + 1) _ _ X41 N41 e41 Zh Kh TBv hgp (by omega)
    · refine zicmpNo X41 hx (hb hby d38_69) (flt hc69).1 ?_
      refine zaloadN X41 hx (hb hby d38_72) rfl rfl ?_
      refine ziload X41 hx (hb hby d38_73) rfl ?_
      refine ziload X41 hx (hb hby d38_75) rfl ?_
      obtain ⟨cq42, qq42, qq42'⟩ := tEv.cell
      obtain ⟨_, _, ⟨T42, L42, k42, n42⟩, -, X42, ⟨Lc42, hQ42, l42, y42, z42⟩, st42⟩ := X41.privateBack hx (y := yn33) hown (mvT hZ (wm hw 279 rfl)) (mvT hZ (wm hw 280 rfl)) (sel_priv (mvT hZ (wm hw 214 rfl)) (Cond.privateMethod_at (mvP hZ (wm hw 281 rfl) (args := #[]))) (mvT hZ (wm hw 280 rfl)) (by decide)) (Cond.privateMethod_at (mvP hZ (wm hw 281 rfl) (args := #[]))) (mvT hZ (wm hw 282 rfl)) (by decide) (backOf (W := 0) (rm39_8 l Z a0 hw [] r0 (own_it i0 ((8 : Int32) - (1 : Int32)) (u + 1)) gp hd F K' (own_i n) ah ao au ab ar h n0 Zh ⟨tEv, tHv, t1v, t2v, t3v, t4v, t5v, tSv, i1v, i2v, ⟨_, i3v⟩, ⟨_, i4v⟩, ⟨_, i5v⟩, ⟨g_r0, g_ah, g_ao, g_au, g_ab, g_ar⟩, ⟨u_r0_ah, u_r0_ao, u_r0_au, u_r0_ab, u_r0_ar, u_ah_ao, u_ah_au, u_ah_ab, u_ah_ar, u_ao_au, u_ao_ab, u_ao_ar, u_au_ab, u_au_ar, u_ab_ar⟩⟩ hbu hgp.1 hsu hgp.2) hZ (wm hw 282 rfl) (wm hw 215 rfl) (by decide) (by decide)) (g := (mkF m 77 #[rv r0, iv p1, iv i0, lv (fr (i0).toNatClampNeg), sd, iv ((8 : Int32) - (1 : Int32)), iv gp, iv (own_it i0 ((8 : Int32) - (1 : Int32)) (u + 1))] [(.int gp), (.int (own_it i0 ((8 : Int32) - (1 : Int32)) (u + 1))), (.ref r0)])) rfl (by rw [hml]; rfl) (Steps.refl _) (a := r0) (by rw [e41]; exact qq42) qq42' (argsL := [(.int (own_it i0 ((8 : Int32) - (1 : Int32)) (u + 1))), (.int gp)]) (rest := []) (lenOf pd_5 rfl) rfl (by show 2 * 0 + _ ≤ _; exact Nat.le_of_eq rfl) (hb hby d38_77) (fun _ _ => ⟨rfl, e41, (by decide : 0 + 0 ≤ _), (by decide : 0 + 0 ≤ _)⟩)
      dsimp only [Pt.U, Pt.locs, Pt.cells, Pt.slots] at X42 l42 y42 z42 st42 hQ42
      subst l42 y42 z42
      obtain ⟨rfl, Nq42, Kc42, K42q, TB42⟩ := hQ42
      have N42 := Fr.app N41 Nq42
      have f43 := tEv.keep Kc42
      have f44 := tHv.keep Kc42
      have f45 := t1v.keep Kc42 (fun q => by simp only [List.mem_cons, List.not_mem_nil, or_false] at q; exact q.elim (fun q => u_r0_ah q) (fun q => q.elim (fun q => u_r0_ao q) (fun q => q.elim (fun q => u_r0_au q) (fun q => q.elim (fun q => u_r0_ab q) (fun q => u_r0_ar q)))))
      have f46 := t2v.keep Kc42 (fun q => by simp only [List.mem_cons, List.not_mem_nil, or_false] at q; exact q.elim (fun q => u_r0_ah q) (fun q => q.elim (fun q => u_r0_ao q) (fun q => q.elim (fun q => u_r0_au q) (fun q => q.elim (fun q => u_r0_ab q) (fun q => u_r0_ar q)))))
      have f47 := t3v.keep Kc42 (fun q => by simp only [List.mem_cons, List.not_mem_nil, or_false] at q; exact q.elim (fun q => u_r0_ah q) (fun q => q.elim (fun q => u_r0_ao q) (fun q => q.elim (fun q => u_r0_au q) (fun q => q.elim (fun q => u_r0_ab q) (fun q => u_r0_ar q)))))
      have f48 := t4v.keep Kc42 (fun q => by simp only [List.mem_cons, List.not_mem_nil, or_false] at q; exact q.elim (fun q => u_r0_ah q) (fun q => q.elim (fun q => u_r0_ao q) (fun q => q.elim (fun q => u_r0_au q) (fun q => q.elim (fun q => u_r0_ab q) (fun q => u_r0_ar q)))))
      have f49 := t5v.keep Kc42 (fun q => by simp only [List.mem_cons, List.not_mem_nil, or_false] at q; exact q.elim (fun q => u_r0_ah q) (fun q => q.elim (fun q => u_r0_ao q) (fun q => q.elim (fun q => u_r0_au q) (fun q => q.elim (fun q => u_r0_ab q) (fun q => u_r0_ar q)))))
      have f50 := tSv.keep Kc42 (fun q => by simp only [List.mem_cons, List.not_mem_nil, or_false] at q; exact q.elim (fun q => u_r0_ah q) (fun q => q.elim (fun q => u_r0_ao q) (fun q => q.elim (fun q => u_r0_au q) (fun q => q.elim (fun q => u_r0_ab q) (fun q => u_r0_ar q)))))
      have Z42 : n0 ≤ T42.heap.size := Nat.le_trans Zh Kc42.1
      have K42 := Kh.trans Kc42 (fun x q => by
          simp only [List.mem_cons, List.not_mem_nil, or_false] at q
          rcases q with rfl | rfl | rfl | rfl | rfl
          · exact (Or.inl (List.mem_of_getElem? (i := 1) rfl))
          · exact (Or.inl (List.mem_of_getElem? (i := 2) rfl))
          · exact (Or.inl (List.mem_of_getElem? (i := 3) rfl))
          · exact (Or.inl (List.mem_of_getElem? (i := 4) rfl))
          · exact (Or.inl (List.mem_of_getElem? (i := 5) rfl)))
      obtain ⟨tE42, tH42, t142, t242, t342, t442, t542, tS42, i142, i242, ⟨fu42, i342⟩, ⟨fb42, i442⟩, ⟨fr42, i542⟩, -, -⟩ := id TB42
      refine Go.stp (fun t_ k_ => st42.trans k_) ?_
      show Go p.tables e below G (T42.setTop (mkF m 80 #[rv r0, iv p1, iv i0, lv (fr (i0).toNatClampNeg), sd, iv ((8 : Int32) - (1 : Int32)), iv gp, iv (own_it i0 ((8 : Int32) - (1 : Int32)) (u + 1))] []))
      refine ziload X42 hx (hb hby d38_80) rfl ?_
      refine zistore X42 hx (l' := #[rv r0, iv p1, iv i0, lv (fr (i0).toNatClampNeg), sd, iv ((8 : Int32) - (1 : Int32)), iv (own_it i0 ((8 : Int32) - (1 : Int32)) (u + 1)), iv (own_it i0 ((8 : Int32) - (1 : Int32)) (u + 1))]) (hb hby d38_82) rfl ?_
      refine ziload X42 hx (hb hby d38_84) rfl ?_
      refine ziconst X42 hx (hb hby d38_86) (z := (1 : Int32)) rfl ?_
      refine ziadd X42 hx (hb hby d38_87) ?_
      refine ziload X42 hx (hb hby d38_88) rfl ?_
      refine ziand X42 hx (hb hby d38_90) ?_
      refine zistore X42 hx (l' := #[rv r0, iv p1, iv i0, lv (fr (i0).toNatClampNeg), sd, iv ((8 : Int32) - (1 : Int32)), iv (own_it i0 ((8 : Int32) - (1 : Int32)) (u + 1)), iv (((own_it i0 ((8 : Int32) - (1 : Int32)) (u + 1)) + (1 : Int32)) &&& ((8 : Int32) - (1 : Int32)))]) (hb hby d38_91) rfl ?_
      refine zgoto X42 hx (pc' := 34) (hb hby d38_93) (by decide) (by decide) ?_
      exact ih _ _ _ (u + 1) _ _ X42 N42 rfl Z42 K42 TB42 ⟨hbu, hsu⟩ (by omega)
def QC (n : Nat) (h0 : Heap) (n0 : Nat) (v : Option Value) (h : Heap) (L : List Loc) : Prop := v = some (.int (own_cap n)) ∧ Fr n0 L ∧ h = h0
theorem d37_0 : decode cn38 0 = .ok (.aload_n 0, 1) := by decide +kernel
theorem d37_1 : decode cn38 1 = .ok (.getfield 17, 3) := by decide +kernel
theorem d37_4 : decode cn38 4 = .ok (.ifnonnull 7, 3) := by decide +kernel
theorem d37_7 : decode cn38 7 = .ok (.iconst 0, 1) := by decide +kernel
theorem d37_8 : decode cn38 8 = .ok (.goto 8, 3) := by decide +kernel
theorem d37_16 : decode cn38 16 = .ok (.ireturn, 1) := by decide +kernel
theorem ef_37_0 (m : MethodId) (r0 : Addr) : entryFrame m #[(.ref r0)] 1 = mkF m 0 #[rv r0] [] := by first | (simp [entryFrame, mkF, argsToLocals, Value.category, iv, rv, lv, un, sd]; done) | rfl
set_option maxRecDepth 65536 in
set_option maxHeartbeats 40000000 in
theorem rm37_0 (l : Launch) (Z : State) (a0 : Array Value) (hw : ∀ d ∈ tables_1, d.before a0 Z = true) (ws : List Jvm.Cond) (r0 : Addr) (h0 : Heap) (n0 : Nat) (Z0 : n0 ≤ h0.size) (F_o : Fld Z h0 r0 sn1 "holders" sn2 .null) :
    Mzz l yn38 cn38 1 (some .int) ws (rk 0 0 0 0) #[(.ref r0)] Z h0 (QC 0 h0 n0) := by
  refine Mzz.go (own := sn1) (nm := "capacity") (L0 := #[rv r0]) (plainFor_of_name pn_29) rfl rfl (fun m => ef_37_0 m r0) ?_
  intro p e s m below meth c s₁ hx hby hml hown hnm X0 e0 hZ hrt hlk G hG
  have N0 := Fr.nil n0
  show Go p.tables e below G (s₁.setTop (mkF m 0 #[rv r0] []))
  refine zaloadN X0 hx (hb hby d37_0) rfl rfl ?_
  refine zgetF X0 hx hZ hown (wm hw 229 rfl) e0 F_o (hb hby d37_1) (fun T1 X1 e1 => ?_)
  refine zifnonnullNo X1 hx (hb hby d37_4) ?_
  refine ziconst X1 hx (hb hby d37_7) (z := (0 : Int32)) rfl ?_
  refine zgoto X1 hx (pc' := 16) (hb hby d37_8) (by decide) (by decide) ?_
  refine zretI X1 hx hrt hlk (hb hby d37_16) e1 hG (by decide) (by decide) ?_
  exact ⟨rfl, N0, rfl⟩
theorem d37_11 : decode cn38 11 = .ok (.aload_n 0, 1) := by decide +kernel
theorem d37_12 : decode cn38 12 = .ok (.getfield 17, 3) := by decide +kernel
theorem d37_15 : decode cn38 15 = .ok (.arraylength, 1) := by decide +kernel
theorem ef_37_4 (m : MethodId) (r0 : Addr) : entryFrame m #[(.ref r0)] 1 = mkF m 0 #[rv r0] [] := by first | (simp [entryFrame, mkF, argsToLocals, Value.category, iv, rv, lv, un, sd]; done) | rfl
set_option maxRecDepth 65536 in
set_option maxHeartbeats 40000000 in
theorem rm37_4 (l : Launch) (Z : State) (a0 : Array Value) (hw : ∀ d ∈ tables_1, d.before a0 Z = true) (ws : List Jvm.Cond) (r0 : Addr) (n : Nat) (ao : Addr) (hd : Addr) (F : Nat → Bool) (h0 : Heap) (n0 : Nat) (Z0 : n0 ≤ h0.size) (F_o : Fld Z h0 r0 sn1 "holders" sn2 (.ref ao)) (I_o : Ho Z h0 ao 4 hd F) (hn : 1 ≤ n ∧ n ≤ 3) :
    Mzz l yn38 cn38 1 (some .int) ws (rk 0 0 0 0) #[(.ref r0)] Z h0 (QC n h0 n0) := by
  refine Mzz.go (own := sn1) (nm := "capacity") (L0 := #[rv r0]) (plainFor_of_name pn_29) rfl rfl (fun m => ef_37_4 m r0) ?_
  intro p e s m below meth c s₁ hx hby hml hown hnm X0 e0 hZ hrt hlk G hG
  have N0 := Fr.nil n0
  show Go p.tables e below G (s₁.setTop (mkF m 0 #[rv r0] []))
  refine zaloadN X0 hx (hb hby d37_0) rfl rfl ?_
  refine zgetF X0 hx hZ hown (wm hw 229 rfl) e0 F_o (hb hby d37_1) (fun T1 X1 e1 => ?_)
  refine zifnonnullYes X1 hx (pc' := 11) (hb hby d37_4) (by decide) (by decide) ?_
  refine zaloadN X1 hx (hb hby d37_11) rfl rfl ?_
  refine zgetF X1 hx hZ hown (wm hw 229 rfl) e1 F_o (hb hby d37_12) (fun T2 X2 e2 => ?_)
  obtain ⟨cl3, Ar3, Sz3, -, -⟩ := id I_o
  refine zlen X2 hx hZ e2 Ar3 Sz3 (z := (4 : Int32)) rfl (hb hby d37_15) ?_
  refine zretI X2 hx hrt hlk (hb hby d37_16) e2 hG (by decide) (by decide) ?_
  exact ⟨congrArg (fun z => some (Value.int z)) (by unfold own_cap; rw [if_neg (by omega), if_pos (by omega)]), N0, rfl⟩
theorem ef_37_8 (m : MethodId) (r0 : Addr) : entryFrame m #[(.ref r0)] 1 = mkF m 0 #[rv r0] [] := by first | (simp [entryFrame, mkF, argsToLocals, Value.category, iv, rv, lv, un, sd]; done) | rfl
set_option maxRecDepth 65536 in
set_option maxHeartbeats 40000000 in
theorem rm37_8 (l : Launch) (Z : State) (a0 : Array Value) (hw : ∀ d ∈ tables_1, d.before a0 Z = true) (ws : List Jvm.Cond) (r0 : Addr) (n : Nat) (ao : Addr) (hd : Addr) (F : Nat → Bool) (h0 : Heap) (n0 : Nat) (Z0 : n0 ≤ h0.size) (F_o : Fld Z h0 r0 sn1 "holders" sn2 (.ref ao)) (I_o : Ho Z h0 ao 8 hd F) (hn : 4 ≤ n ∧ n ≤ 5) :
    Mzz l yn38 cn38 1 (some .int) ws (rk 0 0 0 0) #[(.ref r0)] Z h0 (QC n h0 n0) := by
  refine Mzz.go (own := sn1) (nm := "capacity") (L0 := #[rv r0]) (plainFor_of_name pn_29) rfl rfl (fun m => ef_37_8 m r0) ?_
  intro p e s m below meth c s₁ hx hby hml hown hnm X0 e0 hZ hrt hlk G hG
  have N0 := Fr.nil n0
  show Go p.tables e below G (s₁.setTop (mkF m 0 #[rv r0] []))
  refine zaloadN X0 hx (hb hby d37_0) rfl rfl ?_
  refine zgetF X0 hx hZ hown (wm hw 229 rfl) e0 F_o (hb hby d37_1) (fun T1 X1 e1 => ?_)
  refine zifnonnullYes X1 hx (pc' := 11) (hb hby d37_4) (by decide) (by decide) ?_
  refine zaloadN X1 hx (hb hby d37_11) rfl rfl ?_
  refine zgetF X1 hx hZ hown (wm hw 229 rfl) e1 F_o (hb hby d37_12) (fun T2 X2 e2 => ?_)
  obtain ⟨cl3, Ar3, Sz3, -, -⟩ := id I_o
  refine zlen X2 hx hZ e2 Ar3 Sz3 (z := (8 : Int32)) rfl (hb hby d37_15) ?_
  refine zretI X2 hx hrt hlk (hb hby d37_16) e2 hG (by decide) (by decide) ?_
  exact ⟨congrArg (fun z => some (Value.int z)) (by unfold own_cap; rw [if_neg (by omega), if_neg (by omega)]), N0, rfl⟩
theorem rm30 (l : Launch) (Z : State) (a0 : Array Value) (hw : ∀ d ∈ tables_1, d.before a0 Z = true) (ws : List Jvm.Cond) (r0 : Addr) (p1 : Int32) (hd : Addr) (q3 : Int64) (mp : Int32 → Bool) (n : Nat) (h0 : Heap) (n0 : Nat) (Z0 : n0 ≤ h0.size) (hT : Tab Z h0 n0 r0 hd mp n) (E_hd : Exa Z h0 hd sn0) (hn : n ≤ 4) :
    Mzz l yn35 cn35 6 none ws (rk 5 5 40 79) #[(.ref r0), (.int p1), (.ref hd), (.long q3)] Z h0 (QA Z r0 hd p1 mp n h0 n0) := by
  rcases hT with ⟨rfl, hT, rfl⟩ | ⟨h1, h2, F, K, Ls, ah, ao, au, ab, ar, hrep, hL, TB⟩ | ⟨h1, h2, F, K, Ls, ah, ao, au, ab, ar, hrep, hL, TB⟩
  · exact rm30_0 l Z a0 hw ws r0 p1 hd q3 h0 n0 Z0 hT E_hd
  · obtain rfl | rfl | rfl : n = 1 ∨ n = 2 ∨ n = 3 := by omega
    · rw [show own_i 1 = (1 : Int32) by decide] at TB
      exact rm30_1 l Z a0 hw ws r0 p1 hd q3 F K ah ao au ab ar mp Ls h0 n0 Z0 TB hrep hL
    · rw [show own_i 2 = (2 : Int32) by decide] at TB
      exact rm30_2 l Z a0 hw ws r0 p1 hd q3 F K ah ao au ab ar mp Ls h0 n0 Z0 TB hrep hL
    · rw [show own_i 3 = (3 : Int32) by decide] at TB
      exact rm30_3 l Z a0 hw ws r0 p1 hd q3 F K ah ao au ab ar mp Ls h0 n0 Z0 TB hrep hL
  · obtain rfl : n = 4 := by omega
    · rw [show own_i 4 = (4 : Int32) by decide] at TB
      exact rm30_4 l Z a0 hw ws r0 p1 hd q3 F K ah ao au ab ar mp Ls h0 n0 Z0 TB hrep hL
theorem rm38 (l : Launch) (Z : State) (a0 : Array Value) (hw : ∀ d ∈ tables_1, d.before a0 Z = true) (ws : List Jvm.Cond) (r0 : Addr) (p1 : Int32) (hd : Addr) (mp : Int32 → Bool) (n : Nat) (h0 : Heap) (n0 : Nat) (Z0 : n0 ≤ h0.size) (hT : Tab Z h0 n0 r0 hd mp n) (hmt : mp p1 = true) :
    Mzz l yn37 cn37 8 (some .long) ws (rk 5 5 20 80) #[(.ref r0), (.int p1)] Z h0 (QR Z r0 n h0 n0) := by
  rcases hT with ⟨rfl, hT, rfl⟩ | ⟨h1, h2, F, K, Ls, ah, ao, au, ab, ar, hrep, hL, TB⟩ | ⟨h1, h2, F, K, Ls, ah, ao, au, ab, ar, hrep, hL, TB⟩
  · cases hmt
  · exact rm38_4 l Z a0 hw ws r0 p1 hd F K ah ao au ab ar mp Ls n h0 n0 Z0 TB hrep hL hmt ⟨h1, h2⟩
  · exact rm38_8 l Z a0 hw ws r0 p1 hd F K ah ao au ab ar mp Ls n h0 n0 Z0 TB hrep hL hmt ⟨h1, h2⟩
theorem rm37 (l : Launch) (Z : State) (a0 : Array Value) (hw : ∀ d ∈ tables_1, d.before a0 Z = true) (ws : List Jvm.Cond) (r0 : Addr) (n : Nat) (h0 : Heap) (n0 : Nat) (Z0 : n0 ≤ h0.size) (hC : Cap Z h0 r0 n) :
    Mzz l yn38 cn38 1 (some .int) ws (rk 0 0 0 0) #[(.ref r0)] Z h0 (QC n h0 n0) := by
  rcases hC with ⟨-, ⟨rfl, hF⟩ | ⟨h1, h2, ao, hd, F, hF, hI⟩ | ⟨h1, h2, ao, hd, F, hF, hI⟩⟩
  · exact rm37_0 l Z a0 hw ws r0 h0 n0 Z0 hF
  · exact rm37_4 l Z a0 hw ws r0 n ao hd F h0 n0 Z0 hF hI ⟨h1, h2⟩
  · exact rm37_8 l Z a0 hw ws r0 n ao hd F h0 n0 Z0 hF hI ⟨h1, h2⟩
theorem pn_0 : plainName sn23 = true := by first | (simp [plainName, overriddenIn]; done) | decide +kernel
theorem ef_0 (m : MethodId) (p0 : Int32) (p1 : Int32) (p2 : Int32) (p3 : Int32) (p4 : Int32) (p5 : Int32) : entryFrame m #[(.int p0), (.int p1), (.int p2), (.int p3), (.int p4), (.int p5)] maxLocals = mkF m 0 #[iv p0, iv p1, iv p2, iv p3, iv p4, iv p5, un, un, un, un, un, un, un] [] := by first | (simp [entryFrame, mkF, argsToLocals, Value.category, iv, rv, lv, un, sd, maxLocals]; done) | rfl
def Q0 (Z : State) (p0 : Int32) (p1 : Int32) (p2 : Int32) (p3 : Int32) (p4 : Int32) (p5 : Int32) (kc : Int32) (sf : Value) (ks : Addr) (ep : Addr) (tu : Addr) (h0 : Heap) (n0 : Nat) (v : Option Value) (h : Heap) (L : List Loc) : Prop := v = some (.int (1 : Int32)) ∧ Fr n0 L
set_option maxRecDepth 65536 in
set_option maxHeartbeats 40000000 in
theorem rm0 (l : Launch) (Z : State) (a0 : Array Value) (hw : ∀ d ∈ tables_1, d.before a0 Z = true) (ws : List Jvm.Cond) (p0 : Int32) (p1 : Int32) (p2 : Int32) (p3 : Int32) (p4 : Int32) (p5 : Int32) (kc : Int32) (sf : Value) (ks : Addr) (ep : Addr) (tu : Addr) (h0 : Heap) (n0 : Nat) (Z0 : n0 ≤ h0.size) (S_cs : Sta Z h0 sn3 sn10 "Z" (.int kc)) (hkc : ¬ kc = (0 : Int32)) (S_sf : Sta Z h0 sn11 sn12 sn13 sf) (hsf : sf.isRef = true) (S_ks : Sta Z h0 sn5 "KEY_SHARED" sn15 (.ref ks)) (S_ep : Sta Z h0 sn6 "EARLIEST" sn16 (.ref ep)) (S_tu : Sta Z h0 sn18 "MILLISECONDS" "Ljava/util/concurrent/TimeUnit;" (.ref tu)) (E_tu : Exa Z h0 tu sn18) (F_sc : Fld Z h0 tu sn18 "scale" "J" (.long (1000000 : Int64))) (F_mn : Fld Z h0 tu sn18 "maxNanos" "J" (.long (9223372036854 : Int64))) (hheld : Jvm.Lit.constHeld Z sn23 10) (hcw : Jvm.Lit.compactW.before a0 Z = true) :
    MetFree l x (head1 (Jvm.Cond.code x code maxLocals ret :: ws) room_1) (fun a U => a = #[(.int p0), (.int p1), (.int p2), (.int p3), (.int p4), (.int p5)] ∧ U = Z ∧ U.heap = h0) (fun _ _ _ _ _ => True) (fun _ U o U' => ∃ v L, o = .returned v ∧ Q0 Z p0 p1 p2 p3 p4 p5 kc sf ks ep tu h0 n0 v U'.heap L ∧ ReturnedEndW U o U' L room_1.cells room_1.slots) := by
  refine MetFree.of_bodySF (plainFor_of_name pn_0) hisR ?_
  intro p e s m args below meth c s₁ Bd hml0 hP hK
  obtain ⟨rfl, hsZ, hh⟩ := hP
  have hZ : Z.Warmed39 s.vm := by rw [hsZ]; exact State.Warmed39.refl Z
  have hx := Bd.exec
  have hby := Bd.bytes
  have hml : c.maxLocals = 13 := hml0
  have hown : s.vm.findClass sn23 = some m.cls := findClass_of_methodNamed Bd.named
  have hnm := (name_of_methodNamed Bd.named Bd.method).1
  have X0 : Stand p l e room_1 s m #[(.int p0), (.int p1), (.int p2), (.int p3), (.int p4), (.int p5)] below meth c s₁ [] 0 0 := Stand.of_body Bd
  have e0 : s₁.heap = h0 := by rw [← hh, Bd.state]; rfl
  have N0 := Fr.nil n0
  suffices HH : ∀ G : Outcome → State → Prop, (∀ v L U', Q0 Z p0 p1 p2 p3 p4 p5 kc sf ks ep tu h0 n0 v U'.heap L → ReturnedEndW s (.returned v) U' L room_1.cells room_1.slots → G (.returned v) U') → Go p.tables e below G (s₁.setTop (mkF m 0 #[iv p0, iv p1, iv p2, iv p3, iv p4, iv p5, un, un, un, un, un, un, un] [])) by
    obtain ⟨s2, o, h1, h2, h3, h4⟩ := HH (fun o U' => ∃ v L, o = .returned v ∧ Q0 Z p0 p1 p2 p3 p4 p5 kc sf ks ep tu h0 n0 v U'.heap L ∧ ReturnedEndW s o U' L room_1.cells room_1.slots) (fun v L U' q f => ⟨v, L, rfl, q, f⟩)
    exact ⟨s2, o, castTop (ef_0 m p0 p1 p2 p3 p4 p5) h1, h2, h3, h4⟩
  intro G hG
  have hS0 : s.Since s.vm 0 := (State.WarmedH.refl s).since 0
  have hZ : Z.Warmed39 (s.setVm s.vm).vm := hZ
  have hown : (s.setVm s.vm).vm.findClass sn23 = some m.cls := hown
  have X0 : Stand p l e room_1 (s.setVm s.vm) m #[(.int p0), (.int p1), (.int p2), (.int p3), (.int p4), (.int p5)] below meth c s₁ [] 0 0 := X0
  have hk0 : Szk 0 h0 := Nat.zero_le _
  show Go p.tables e below G (s₁.setTop (mkF m 0 #[iv p0, iv p1, iv p2, iv p3, iv p4, iv p5, un, un, un, un, un, un, un] []))
  refine ziload X0 hx (hb hby at_0) rfl ?_
  refine Go.stp (fun t_ k_ => X0.ldcInt hx hown (mvT hZ (wm hw 0 rfl)) (g := (mkF m 2 #[iv p0, iv p1, iv p2, iv p3, iv p4, iv p5, un, un, un, un, un, un, un] [(.int p5)])) rfl (hb hby at_2) t_ k_) ?_
  show Go p.tables e below G (s₁.setTop (mkF m 4 #[iv p0, iv p1, iv p2, iv p3, iv p4, iv p5, un, un, un, un, un, un, un] [(.int (2147483647 : Int32)), (.int p5)]))
  refine ziand X0 hx (hb hby at_4) ?_
  refine zbipush X0 hx (hb hby at_5) (z := (6 : Int32)) rfl ?_
  refine zirem X0 hx (hb hby at_7) (by decide) ?_
  refine zistore X0 hx (l' := #[iv p0, iv p1, iv p2, iv p3, iv p4, iv p5, iv ((p5 &&& (2147483647 : Int32)) - ((p5 &&& (2147483647 : Int32)) / (6 : Int32)) * (6 : Int32)), un, un, un, un, un, un]) (hb hby at_8) rfl ?_
  suffices K1 : ∀ kk : Int32, kk = ((p5 &&& (2147483647 : Int32)) - ((p5 &&& (2147483647 : Int32)) / (6 : Int32)) * (6 : Int32)) → Go p.tables e below G (s₁.setTop (mkF m 10 #[iv p0, iv p1, iv p2, iv p3, iv p4, iv p5, iv kk, un, un, un, un, un, un] [])) from K1 _ rfl
  intro kk hkk
  obtain ⟨T2, h2, X2, e2, E2, A2, D2, -, st2⟩ := newO X0 hx hZ hown (wm hw 1 rfl) (wm hw 2 rfl) (wm hw 3 rfl) e0 (g := (mkF m 10 #[iv p0, iv p1, iv p2, iv p3, iv p4, iv p5, iv kk, un, un, un, un, un, un] [])) rfl (hb hby at_10) (by decide) (by decide)
  obtain ⟨b2, g2⟩ : ∃ z, z = h0.size := ⟨_, rfl⟩
  rw [← g2] at A2 D2 st2
  have u3 : tu ≠ b2 := Nat.ne_of_lt (Nat.lt_of_lt_of_le E_tu.lt (Nat.le_of_eq g2.symm))
  have g_b2 : n0 ≤ b2 := Nat.le_trans Z0 (Nat.le_of_eq g2.symm)
  have f4 := hk0.ext E2
  have f5 := S_cs.ext E2
  have f6 := S_sf.ext E2
  have f7 := S_ks.ext E2
  have f8 := S_ep.ext E2
  have f9 := S_tu.ext E2
  have f10 := E_tu.ext E2
  have f11 := F_sc.ext E2
  have f12 := F_mn.ext E2
  have Z2 : n0 ≤ h2.size := Nat.le_trans Z0 E2.1
  have f13 : Fld Z h2 b2 sn0 "unacked" "Ljava/util/NavigableSet;" .null := D2 (Or.inr (wm hw 182 rfl)) (ty := (.object sn22)) (by decide)
  have f14 : Fld Z h2 b2 sn0 "attached" "Z" (.int (0 : Int32)) := D2 (Or.inl (wm hw 184 rfl)) (ty := .boolean) (by decide)
  have f15 : Fld Z h2 b2 sn0 "id" sn14 .null := D2 (Or.inr (wm hw 186 rfl)) (ty := (.object sn3)) (by decide)
  have f16 : Fld Z h2 b2 sn0 "options" "Lcom/example/keys_in_order/keysinorder/ConsumerOptions;" .null := D2 (Or.inr (wm hw 188 rfl)) (ty := (.object sn7)) (by decide)
  have f17 : Fld Z h2 b2 sn0 "leaseNanos" "J" (.long (0 : Int64)) := D2 (Or.inr (wm hw 206 rfl)) (ty := .long) (by decide)
  have f18 : Fld Z h2 b2 sn0 "topic" "Lcom/example/keys_in_order/keysinorder/Topic;" .null := D2 (Or.inr (wm hw 208 rfl)) (ty := (.object sn8)) (by decide)
  have f19 : Fld Z h2 b2 sn0 "subscription" "Lcom/example/keys_in_order/keysinorder/Subscription;" .null := D2 (Or.inr (wm hw 210 rfl)) (ty := (.object sn9)) (by decide)
  have f20 : Fld Z h2 b2 sn0 "leaseEnds" "J" (.long (0 : Int64)) := D2 (Or.inl (wm hw 212 rfl)) (ty := .long) (by decide)
  refine Go.stp (fun t_ k_ => st2 t_ k_) ?_
  show Go p.tables e below G (T2.setTop (mkF m 13 #[iv p0, iv p1, iv p2, iv p3, iv p4, iv p5, iv kk, un, un, un, un, un, un] [(.ref b2)]))
  refine zdup X2 hx (hb hby at_13) rfl ?_
  obtain ⟨a21, T21, h21, k21, va, kk21, X21, e21, E21, hS21, hk21, hZ, hown, A21, Fc21, Fv21, Av21, -, -, -, Lt21, st21⟩ := ldcSVL X2 hx hZ hown (wm hw 4 rfl) (own_sA hw) e2 hS0 f4 (Fr.nil _) (fun b cl q => by rw [hsZ]; exact q) (show IB Z s.vm [] by rw [hsZ]; exact IB.start) (by simp) hheld hcw (vs := [.int 99]) (z := 1) ⟨by decide, by decide +kernel⟩ (by decide) (by decide) (g := (mkF m 14 #[iv p0, iv p1, iv p2, iv p3, iv p4, iv p5, iv kk, un, un, un, un, un, un] [(.ref b2), (.ref b2)])) rfl (hb hby at_14) (n := 4) (by decide) (by decide) (by decide) (by decide)
  have f22 := f5.ext E21
  have f23 := f6.ext E21
  have f24 := f7.ext E21
  have f25 := f8.ext E21
  have f26 := f9.ext E21
  have f27 := f10.ext E21
  have f28 := f11.ext E21
  have f29 := f12.ext E21
  have f30 := A2.ext E21
  have f31 := f13.ext E21
  have f32 := f14.ext E21
  have f33 := f15.ext E21
  have f34 := f16.ext E21
  have f35 := f17.ext E21
  have f36 := f18.ext E21
  have f37 := f19.ext E21
  have f38 := f20.ext E21
  have Z21 : n0 ≤ h21.size := Nat.le_trans Z2 E21.1
  have hk21 : Szk k21 h21 := hk21
  have Ic21 := ia_c Av21
  refine Go.stp (fun t_ k_ => st21 t_ k_) ?_
  show Go p.tables e below G (T21.setTop (mkF m 16 #[iv p0, iv p1, iv p2, iv p3, iv p4, iv p5, iv kk, un, un, un, un, un, un] [(.ref a21), (.ref b2), (.ref b2)]))
  obtain ⟨T39, h39, X39, e39, E39, A39, D39, -, st39⟩ := newO X21 hx hZ hown (wm hw 12 rfl) (wm hw 13 rfl) (wm hw 14 rfl) e21 (g := (mkF m 16 #[iv p0, iv p1, iv p2, iv p3, iv p4, iv p5, iv kk, un, un, un, un, un, un] [(.ref a21), (.ref b2), (.ref b2)])) rfl (hb hby at_16) (by decide) (by decide)
  obtain ⟨b39, g39⟩ : ∃ z, z = h21.size := ⟨_, rfl⟩
  rw [← g39] at A39 D39 st39
  have u40 : tu ≠ b39 := Nat.ne_of_lt (Nat.lt_of_lt_of_le f27.lt (Nat.le_of_eq g39.symm))
  have u41 : b2 ≠ b39 := Nat.ne_of_lt (Nat.lt_of_lt_of_le f30.lt (Nat.le_of_eq g39.symm))
  have u42 : a21 ≠ b39 := Nat.ne_of_lt (Nat.lt_of_lt_of_le A21.lt (Nat.le_of_eq g39.symm))
  have u43 : va ≠ b39 := Nat.ne_of_lt (Nat.lt_of_lt_of_le Ic21.lt (Nat.le_of_eq g39.symm))
  have g_b39 : n0 ≤ b39 := Nat.le_trans Z21 (Nat.le_of_eq g39.symm)
  have f44 := f22.ext E39
  have f45 := f23.ext E39
  have f46 := f24.ext E39
  have f47 := f25.ext E39
  have f48 := f26.ext E39
  have f49 := f27.ext E39
  have f50 := f28.ext E39
  have f51 := f29.ext E39
  have f52 := f30.ext E39
  have f53 := f31.ext E39
  have f54 := f32.ext E39
  have f55 := f33.ext E39
  have f56 := f34.ext E39
  have f57 := f35.ext E39
  have f58 := f36.ext E39
  have f59 := f37.ext E39
  have f60 := f38.ext E39
  have f61 := hk21.ext E39
  have f62 := A21.ext E39
  have f63 := Fv21.ext E39
  have f64 := Fc21.ext E39
  have f65 := Ic21.ext E39
  have Z39 : n0 ≤ h39.size := Nat.le_trans Z21 E39.1
  have f66 : Fld Z h39 b39 sn7 "name" sn14 .null := D39 (Or.inr (wm hw 121 rfl)) (ty := (.object sn3)) (by decide)
  have f67 : Fld Z h39 b39 sn7 "type" sn15 .null := D39 (Or.inr (wm hw 123 rfl)) (ty := (.object sn5)) (by decide)
  have f68 : Fld Z h39 b39 sn7 "initialPosition" sn16 .null := D39 (Or.inr (wm hw 125 rfl)) (ty := (.object sn6)) (by decide)
  have f69 : Fld Z h39 b39 sn7 "maxUnacked" "I" (.int (0 : Int32)) := D39 (Or.inr (wm hw 127 rfl)) (ty := .int) (by decide)
  have f70 : Fld Z h39 b39 sn7 "leaseMs" "J" (.long (0 : Int64)) := D39 (Or.inr (wm hw 129 rfl)) (ty := .long) (by decide)
  have f71 : Fld Z h39 b39 sn7 "nackBackoff" sn17 .null := D39 (Or.inr (wm hw 131 rfl)) (ty := (.object sn4)) (by decide)
  refine Go.stp (fun t_ k_ => st39 t_ k_) ?_
  show Go p.tables e below G (T39.setTop (mkF m 19 #[iv p0, iv p1, iv p2, iv p3, iv p4, iv p5, iv kk, un, un, un, un, un, un] [(.ref b39), (.ref a21), (.ref b2), (.ref b2)]))
  refine zdup X39 hx (hb hby at_19) rfl ?_
  refine Go.stp (fun t_ k_ => (ldcAgain X39 hx hZ hown (wm hw 4 rfl) Lt21 (g := (mkF m 20 #[iv p0, iv p1, iv p2, iv p3, iv p4, iv p5, iv kk, un, un, un, un, un, un] [(.ref b39), (.ref b39), (.ref a21), (.ref b2), (.ref b2)])) rfl (hb hby at_20)) t_ k_) ?_
  show Go p.tables e below G (T39.setTop (mkF m 22 #[iv p0, iv p1, iv p2, iv p3, iv p4, iv p5, iv kk, un, un, un, un, un, un] [(.ref a21), (.ref b39), (.ref b39), (.ref a21), (.ref b2), (.ref b2)]))
  obtain ⟨T73, X73, e73, st73⟩ := getS2 X39 hx hZ hown (host := "") (Or.inl (wm hw 15 rfl)) Via.refl e39 f46 (g := (mkF m 22 #[iv p0, iv p1, iv p2, iv p3, iv p4, iv p5, iv kk, un, un, un, un, un, un] [(.ref a21), (.ref b39), (.ref b39), (.ref a21), (.ref b2), (.ref b2)])) rfl (hb hby at_22)
  refine Go.stp (fun t_ k_ => st73 t_ k_) ?_
  show Go p.tables e below G (T73.setTop (mkF m 25 #[iv p0, iv p1, iv p2, iv p3, iv p4, iv p5, iv kk, un, un, un, un, un, un] [(.ref ks), (.ref a21), (.ref b39), (.ref b39), (.ref a21), (.ref b2), (.ref b2)]))
  obtain ⟨T74, X74, e74, st74⟩ := getS2 X73 hx hZ hown (host := "") (Or.inl (wm hw 18 rfl)) Via.refl e73 f47 (g := (mkF m 25 #[iv p0, iv p1, iv p2, iv p3, iv p4, iv p5, iv kk, un, un, un, un, un, un] [(.ref ks), (.ref a21), (.ref b39), (.ref b39), (.ref a21), (.ref b2), (.ref b2)])) rfl (hb hby at_25)
  refine Go.stp (fun t_ k_ => st74 t_ k_) ?_
  show Go p.tables e below G (T74.setTop (mkF m 28 #[iv p0, iv p1, iv p2, iv p3, iv p4, iv p5, iv kk, un, un, un, un, un, un] [(.ref ep), (.ref ks), (.ref a21), (.ref b39), (.ref b39), (.ref a21), (.ref b2), (.ref b2)]))
  refine ziconst X74 hx (hb hby at_28) (z := (1 : Int32)) rfl ?_
  obtain ⟨_, _, ⟨T75, L75, k75, n75⟩, -, X75, hS75, gr75, ⟨Lc75, hQ75, l75, y75, z75⟩, st75⟩ := X74.specialBackS hx (y := yn20) rfl hown (mvT hZ (wm hw 21 rfl)) (mvT hZ (wm hw 22 rfl)) (mvT hZ (wm hw 23 rfl)) (by decide) (backOfS (W := 4) (rm1 l Z a0 hw [] b39 a21 ks ep va kc sf h39 n0 Z39 A39 f66 f67 f68 f69 f70 f71 g_b39 f44 hkc f45 hsf f62 f63 f64 f65 u42 u43) hZ (wm hw 23 rfl) (wm hw 14 rfl) (by decide) (by decide)) (g := (mkF m 29 #[iv p0, iv p1, iv p2, iv p3, iv p4, iv p5, iv kk, un, un, un, un, un, un] [(.int (1 : Int32)), (.ref ep), (.ref ks), (.ref a21), (.ref b39), (.ref b39), (.ref a21), (.ref b2), (.ref b2)])) rfl (by rw [hml]; rfl) (Steps.refl _) (a := b39) (argsL := [(.ref a21), (.ref ks), (.ref ep), (.int (1 : Int32))]) (rest := [(.ref b39), (.ref a21), (.ref b2), (.ref b2)]) (lenOf pd_22 rfl) rfl (by show 2 * 0 + _ ≤ _; exact Nat.le_of_eq rfl) (hb hby at_29) (fun _ _ => ⟨rfl, e74, (by decide : 4 + 9 ≤ _), (by decide : 24 + 171 ≤ _)⟩)
  dsimp only [Pt.U, Pt.locs, Pt.cells, Pt.slots] at X75 l75 y75 z75 st75 hQ75
  subst l75 y75 z75
  dsimp only [Pt.U, Pt.locs, Pt.cells, Pt.slots] at hS75 gr75
  obtain ⟨X75, hS75, hZ, hown⟩ := rebS hS21 (by rw [e74]; exact f61) X75 hS75 gr75 hZ hown
  obtain ⟨rfl, Nq75, Kc75, Fq75⟩ := hQ75
  have N75 := Fr.app N0 Nq75
  have f76 := sta_keep f44 Kc75 A39
  have f77 := sta_keep f45 Kc75 A39
  have f78 := sta_keep f46 Kc75 A39
  have f79 := sta_keep f47 Kc75 A39
  have f80 := sta_keep f48 Kc75 A39
  have f81 := f49.keep Kc75
  have f82 := f50.keep Kc75 (fun q => by simp only [List.mem_cons, List.not_mem_nil, or_false] at q; exact u40 q)
  have f83 := f51.keep Kc75 (fun q => by simp only [List.mem_cons, List.not_mem_nil, or_false] at q; exact u40 q)
  have f84 := f52.keep Kc75
  have f85 := f53.keep Kc75 (fun q => by simp only [List.mem_cons, List.not_mem_nil, or_false] at q; exact u41 q)
  have f86 := f54.keep Kc75 (fun q => by simp only [List.mem_cons, List.not_mem_nil, or_false] at q; exact u41 q)
  have f87 := f55.keep Kc75 (fun q => by simp only [List.mem_cons, List.not_mem_nil, or_false] at q; exact u41 q)
  have f88 := f56.keep Kc75 (fun q => by simp only [List.mem_cons, List.not_mem_nil, or_false] at q; exact u41 q)
  have f89 := f57.keep Kc75 (fun q => by simp only [List.mem_cons, List.not_mem_nil, or_false] at q; exact u41 q)
  have f90 := f58.keep Kc75 (fun q => by simp only [List.mem_cons, List.not_mem_nil, or_false] at q; exact u41 q)
  have f91 := f59.keep Kc75 (fun q => by simp only [List.mem_cons, List.not_mem_nil, or_false] at q; exact u41 q)
  have f92 := f60.keep Kc75 (fun q => by simp only [List.mem_cons, List.not_mem_nil, or_false] at q; exact u41 q)
  have f93 := f62.keep Kc75
  have f94 := f63.keep Kc75 (fun q => by simp only [List.mem_cons, List.not_mem_nil, or_false] at q; exact u42 q)
  have f95 := f64.keep Kc75 (fun q => by simp only [List.mem_cons, List.not_mem_nil, or_false] at q; exact u42 q)
  have f96 := f65.keep Kc75 (fun q => by simp only [List.mem_cons, List.not_mem_nil, or_false] at q; exact u43 q)
  have f97 := A39.keep Kc75
  have Z75 : n0 ≤ T75.heap.size := Nat.le_trans Z39 Kc75.1
  have hk75 : Szk T75.heap.size T75.heap := Nat.le_refl _
  refine Go.stp (fun t_ k_ => st75.trans k_) ?_
  show Go p.tables e below G (T75.setTop (mkF m 32 #[iv p0, iv p1, iv p2, iv p3, iv p4, iv p5, iv kk, un, un, un, un, un, un] [(.ref b39), (.ref a21), (.ref b2), (.ref b2)]))
  refine zaconstNull X75 hx (hb hby at_32) ?_
  refine zaconstNull X75 hx (hb hby at_33) ?_
  refine zlconst X75 hx (hb hby at_34) (z := (0 : Int64)) rfl ?_
  obtain ⟨_, _, ⟨T98, L98, k98, n98⟩, -, X98, ⟨Lc98, hQ98, l98, y98, z98⟩, st98⟩ := X75.specialBack hx (y := yn26) rfl hown (mvT hZ (wm hw 132 rfl)) (mvT hZ (wm hw 133 rfl)) (mvT hZ (wm hw 134 rfl)) (by decide) (backOf (W := 1) (rm20 l Z a0 hw [] b2 a21 b39 tu T75.heap n0 Z75 f84 f85 f86 f87 f88 f89 f90 f91 f92 g_b2 f80 f81 f82 f83 f97 Fq75 u3 (Ne.symm u41)) hZ (wm hw 134 rfl) (wm hw 3 rfl) (by decide) (by decide)) (g := (mkF m 35 #[iv p0, iv p1, iv p2, iv p3, iv p4, iv p5, iv kk, un, un, un, un, un, un] [(.long (0 : Int64)), .null, .null, (.ref b39), (.ref a21), (.ref b2), (.ref b2)])) rfl (by rw [hml]; rfl) (Steps.refl _) (a := b2) (argsL := [(.ref a21), (.ref b39), .null, .null, (.long (0 : Int64))]) (rest := [(.ref b2)]) (lenOf pd_23 rfl) rfl (by show 2 * 0 + _ ≤ _; exact Nat.le_of_eq rfl) (hb hby at_35) (fun _ _ => ⟨rfl, rfl, (by decide : 13 + 2 ≤ _), (by decide : 195 + 10 ≤ _)⟩)
  dsimp only [Pt.U, Pt.locs, Pt.cells, Pt.slots] at X98 l98 y98 z98 st98 hQ98
  subst l98 y98 z98
  obtain ⟨rfl, Nq98, Kc98⟩ := hQ98
  have N98 := Fr.app N75 Nq98
  have f99 := sta_keep f76 Kc98 f84
  have f100 := sta_keep f77 Kc98 f84
  have f101 := sta_keep f78 Kc98 f84
  have f102 := sta_keep f79 Kc98 f84
  have f103 := sta_keep f80 Kc98 f84
  have f104 := f81.keep Kc98
  have f105 := f82.keep Kc98 (fun q => by simp only [List.mem_cons, List.not_mem_nil, or_false] at q; exact u3 q)
  have f106 := f83.keep Kc98 (fun q => by simp only [List.mem_cons, List.not_mem_nil, or_false] at q; exact u3 q)
  have f107 := f84.keep Kc98
  have f108 := f93.keep Kc98
  have f109 := f97.keep Kc98
  have f110 := Fq75.keep Kc98 (fun q => by simp only [List.mem_cons, List.not_mem_nil, or_false] at q; exact (Ne.symm u41) q)
  have f111 := hk75.keep Kc98
  have Z98 : n0 ≤ T98.heap.size := Nat.le_trans Z75 Kc98.1
  refine Go.stp (fun t_ k_ => st98.trans k_) ?_
  show Go p.tables e below G (T98.setTop (mkF m 38 #[iv p0, iv p1, iv p2, iv p3, iv p4, iv p5, iv kk, un, un, un, un, un, un] [(.ref b2)]))
  refine zastore X98 hx (l' := #[iv p0, iv p1, iv p2, iv p3, iv p4, iv p5, iv kk, rv b2, un, un, un, un, un]) (hb hby at_38) rfl rfl ?_
  obtain ⟨T112, h112, X112, e112, E112, A112, D112, -, st112⟩ := newO X98 hx hZ hown (wm hw 213 rfl) (wm hw 214 rfl) (wm hw 215 rfl) rfl (g := (mkF m 40 #[iv p0, iv p1, iv p2, iv p3, iv p4, iv p5, iv kk, rv b2, un, un, un, un, un] [])) rfl (hb hby at_40) (by decide) (by decide)
  obtain ⟨b112, g112⟩ : ∃ z, z = T98.heap.size := ⟨_, rfl⟩
  rw [← g112] at A112 D112 st112
  have u113 : tu ≠ b112 := Nat.ne_of_lt (Nat.lt_of_lt_of_le f104.lt (Nat.le_of_eq g112.symm))
  have u114 : b2 ≠ b112 := Nat.ne_of_lt (Nat.lt_of_lt_of_le f107.lt (Nat.le_of_eq g112.symm))
  have u115 : a21 ≠ b112 := Nat.ne_of_lt (Nat.lt_of_lt_of_le f108.lt (Nat.le_of_eq g112.symm))
  have u116 : b39 ≠ b112 := Nat.ne_of_lt (Nat.lt_of_lt_of_le f109.lt (Nat.le_of_eq g112.symm))
  have g_b112 : n0 ≤ b112 := Nat.le_trans Z98 (Nat.le_of_eq g112.symm)
  have f117 := f99.ext E112
  have f118 := f100.ext E112
  have f119 := f101.ext E112
  have f120 := f102.ext E112
  have f121 := f103.ext E112
  have f122 := f104.ext E112
  have f123 := f105.ext E112
  have f124 := f106.ext E112
  have f125 := f107.ext E112
  have f126 := f108.ext E112
  have f127 := f109.ext E112
  have f128 := f110.ext E112
  have f129 := f111.ext E112
  have Z112 : n0 ≤ h112.size := Nat.le_trans Z98 E112.1
  have f130 : Fld Z h112 b112 sn1 "holders" sn2 .null := D112 (Or.inl (wm hw 230 rfl)) (ty := (.array (.object sn0))) (by decide)
  have f131 : Fld Z h112 b112 sn1 "hashes" "[I" .null := D112 (Or.inl (wm hw 241 rfl)) (ty := (.array .int)) (by decide)
  have f132 : Fld Z h112 b112 sn1 "unacked" "[I" .null := D112 (Or.inl (wm hw 245 rfl)) (ty := (.array .int)) (by decide)
  have f133 : Fld Z h112 b112 sn1 "blocked" "[J" .null := D112 (Or.inl (wm hw 248 rfl)) (ty := (.array .long)) (by decide)
  have f134 : Fld Z h112 b112 sn1 "resumes" "[J" .null := D112 (Or.inl (wm hw 250 rfl)) (ty := (.array .long)) (by decide)
  have f135 : Fld Z h112 b112 sn1 "size" "I" (.int (0 : Int32)) := D112 (Or.inl (wm hw 267 rfl)) (ty := .int) (by decide)
  refine Go.stp (fun t_ k_ => st112 t_ k_) ?_
  show Go p.tables e below G (T112.setTop (mkF m 43 #[iv p0, iv p1, iv p2, iv p3, iv p4, iv p5, iv kk, rv b2, un, un, un, un, un] [(.ref b112)]))
  refine zdup X112 hx (hb hby at_43) rfl ?_
  obtain ⟨_, _, ⟨T136, L136, k136, n136⟩, -, X136, ⟨Lc136, hQ136, l136, y136, z136⟩, st136⟩ := X112.specialBack hx (y := yn4) rfl hown (mvT hZ (wm hw 216 rfl)) (mvT hZ (wm hw 217 rfl)) (mvT hZ (wm hw 218 rfl)) (by decide) (backOf (W := 1) (rm29 l Z a0 hw [] b112  h112 n0 Z112 ) hZ (wm hw 218 rfl) (wm hw 215 rfl) (by decide) (by decide)) (g := (mkF m 44 #[iv p0, iv p1, iv p2, iv p3, iv p4, iv p5, iv kk, rv b2, un, un, un, un, un] [(.ref b112), (.ref b112)])) rfl (by rw [hml]; rfl) (Steps.refl _) (a := b112) (argsL := []) (rest := [(.ref b112)]) (lenOf pd_0 rfl) rfl (by show 2 * 0 + _ ≤ _; exact Nat.le_of_eq rfl) (hb hby at_44) (fun _ _ => ⟨rfl, e112, (by decide : 16 + 0 ≤ _), (by decide : 211 + 0 ≤ _)⟩)
  dsimp only [Pt.U, Pt.locs, Pt.cells, Pt.slots] at X136 l136 y136 z136 st136 hQ136
  subst l136 y136 z136
  obtain ⟨rfl, Nq136, e136⟩ := hQ136
  have N136 := Fr.app N98 Nq136
  refine Go.stp (fun t_ k_ => st136.trans k_) ?_
  show Go p.tables e below G (T136.setTop (mkF m 47 #[iv p0, iv p1, iv p2, iv p3, iv p4, iv p5, iv kk, rv b2, un, un, un, un, un] [(.ref b112)]))
  refine zastore X136 hx (l' := #[iv p0, iv p1, iv p2, iv p3, iv p4, iv p5, iv kk, rv b2, rv b112, un, un, un, un]) (hb hby at_47) rfl rfl ?_
  have TB0 : Tab Z h112 n0 b112 b2 (fun _ => false) 0 := Or.inl ⟨rfl, ⟨A112, f131, f130, f132, f133, f134, f135, g_b112⟩, rfl⟩
  have hr := own_rem p5 (6 : Int32) 6 (by decide) (by decide)
  rw [← hkk] at hr
  rcases own_d6 kk hr.1 hr.2 with rfl | rfl | rfl | rfl | rfl | rfl
  · show Go p.tables e below G (T136.setTop (mkF m 49 #[iv p0, iv p1, iv p2, iv p3, iv p4, iv p5, iv (0 : Int32), rv b2, rv b112, un, un, un, un] []))
    refine ziload X136 hx (hb hby at_49) rfl ?_
    refine ziconst X136 hx (hb hby at_51) (z := (1 : Int32)) rfl ?_
    refine zicmpYes X136 hx (pc' := 64) (hb hby at_52) (tlt (by decide : (0 : Int32) < (1 : Int32))).1 (by decide) (by decide) ?_
    refine ziload X136 hx (hb hby at_64) rfl ?_
    refine ziconst X136 hx (hb hby at_66) (z := (2 : Int32)) rfl ?_
    refine zicmpYes X136 hx (pc' := 79) (hb hby at_67) (tlt (by decide : (0 : Int32) < (2 : Int32))).1 (by decide) (by decide) ?_
    refine ziload X136 hx (hb hby at_79) rfl ?_
    refine ziconst X136 hx (hb hby at_81) (z := (3 : Int32)) rfl ?_
    refine zicmpYes X136 hx (pc' := 96) (hb hby at_82) (tlt (by decide : (0 : Int32) < (3 : Int32))).1 (by decide) (by decide) ?_
    refine ziload X136 hx (hb hby at_96) rfl ?_
    refine ziconst X136 hx (hb hby at_98) (z := (4 : Int32)) rfl ?_
    refine zicmpYes X136 hx (pc' := 113) (hb hby at_99) (tlt (by decide : (0 : Int32) < (4 : Int32))).1 (by decide) (by decide) ?_
    refine ziload X136 hx (hb hby at_113) rfl ?_
    refine ziconst X136 hx (hb hby at_115) (z := (5 : Int32)) rfl ?_
    refine zicmpYes X136 hx (pc' := 131) (hb hby at_116) (tlt (by decide : (0 : Int32) < (5 : Int32))).1 (by decide) (by decide) ?_
    refine ziconst X136 hx (hb hby at_131) (z := (0 : Int32)) rfl ?_
    refine zistore X136 hx (l' := #[iv p0, iv p1, iv p2, iv p3, iv p4, iv p5, iv (0 : Int32), rv b2, rv b112, iv (0 : Int32), un, un, un]) (hb hby at_132) rfl ?_
    refine ziload X136 hx (hb hby at_134) rfl ?_
    refine ziconst X136 hx (hb hby at_136) (z := (1 : Int32)) rfl ?_
    refine zicmpYes X136 hx (pc' := 143) (hb hby at_137) (tlt (by decide : (0 : Int32) < (1 : Int32))).1 (by decide) (by decide) ?_
    refine ziload X136 hx (hb hby at_143) rfl ?_
    refine ziconst X136 hx (hb hby at_145) (z := (2 : Int32)) rfl ?_
    refine zicmpYes X136 hx (pc' := 157) (hb hby at_146) (tlt (by decide : (0 : Int32) < (2 : Int32))).1 (by decide) (by decide) ?_
    refine ziload X136 hx (hb hby at_157) rfl ?_
    refine ziconst X136 hx (hb hby at_159) (z := (3 : Int32)) rfl ?_
    refine zicmpYes X136 hx (pc' := 176) (hb hby at_160) (tlt (by decide : (0 : Int32) < (3 : Int32))).1 (by decide) (by decide) ?_
    refine ziload X136 hx (hb hby at_176) rfl ?_
    refine ziconst X136 hx (hb hby at_178) (z := (4 : Int32)) rfl ?_
    refine zicmpYes X136 hx (pc' := 200) (hb hby at_179) (tlt (by decide : (0 : Int32) < (4 : Int32))).1 (by decide) (by decide) ?_
    refine ziload X136 hx (hb hby at_200) rfl ?_
    refine ziconst X136 hx (hb hby at_202) (z := (5 : Int32)) rfl ?_
    refine zicmpYes X136 hx (pc' := 233) (hb hby at_203) (tlt (by decide : (0 : Int32) < (5 : Int32))).1 (by decide) (by decide) ?_
    refine ziload X136 hx (hb hby at_233) rfl ?_
    refine zifNo X136 hx (hb hby at_235) ((if0 _ _).trans (teq (by decide : (0 : Int32) = (0 : Int32))).2) ?_
    refine ziconst X136 hx (hb hby at_238) (z := (0 : Int32)) rfl ?_
    refine zgoto X136 hx (pc' := 254) (hb hby at_239) (by decide) (by decide) ?_
    refine zistore X136 hx (l' := #[iv p0, iv p1, iv p2, iv p3, iv p4, iv p5, iv (0 : Int32), rv b2, rv b112, iv (0 : Int32), iv (0 : Int32), un, un]) (hb hby at_254) rfl ?_
    refine zaload X136 hx (hb hby at_256) rfl rfl ?_
    obtain ⟨cq137, kq137, q137a, q137b, q137c⟩ := isOf hZ e136 A112
    obtain ⟨_, _, ⟨T137, L137, k137, n137⟩, -, X137, ⟨Lc137, hQ137, l137, y137, z137⟩, st137⟩ := X136.virtualBack hx (y := yn38) (z := yn38) hown (mvT hZ (wm hw 269 rfl)) (mvT hZ (wm hw 270 rfl)) (notFace_of_selects (args := #[]) (mvT hZ (wm hw 272 rfl))) (mvT hZ (wm hw 272 rfl)) (mvT hZ (wm hw 271 rfl)) (by decide) (backOf (W := 0) (rm37 l Z a0 hw [] b112 0 h112 n0 Z112 (Tab.cap TB0)) hZ (wm hw 273 rfl) (wm hw 215 rfl) (by decide) (by decide)) q137a q137c (g := (mkF m 258 #[iv p0, iv p1, iv p2, iv p3, iv p4, iv p5, iv (0 : Int32), rv b2, rv b112, iv (0 : Int32), iv (0 : Int32), un, un] [(.ref b112)])) rfl (by rw [hml]; rfl) (Steps.refl _) (argsL := []) (rest := []) (lenOf pd_9 rfl) rfl (by show 2 * 0 + _ ≤ _; exact Nat.le_of_eq rfl) (hb hby at_258) (fun _ _ => ⟨rfl, e136, (by decide : 16 + 0 ≤ _), (by decide : 211 + 0 ≤ _)⟩)
    dsimp only [Pt.U, Pt.locs, Pt.cells, Pt.slots] at X137 l137 y137 z137 st137 hQ137
    subst l137 y137 z137
    obtain ⟨rfl, Nq137, e137⟩ := hQ137
    have N137 := Fr.app N136 Nq137
    refine Go.stp (fun t_ k_ => st137.trans k_) ?_
    show Go p.tables e below G (T137.setTop (mkF m 261 #[iv p0, iv p1, iv p2, iv p3, iv p4, iv p5, iv (0 : Int32), rv b2, rv b112, iv (0 : Int32), iv (0 : Int32), un, un] [(.int (own_cap 0))]))
    refine ziload X137 hx (hb hby at_261) rfl ?_
    have hd263 : (own_cap 0) = (0 : Int32) := rfl
    refine zicmpYes X137 hx (pc' := 268) (hb hby at_263) (teq hd263).1 (by decide) (by decide) ?_
    refine ziload X137 hx (hb hby at_268) rfl ?_
    refine zifNo X137 hx (hb hby at_270) ((if0 _ _).trans (teq (by decide : (0 : Int32) = (0 : Int32))).2) ?_
    refine ziconst X137 hx (hb hby at_273) (z := (1 : Int32)) rfl ?_
    obtain ⟨fs, hr, hrun, hended, hEnd⟩ := X137.leaveW hS75 (by rw [e137]; exact f129) (v := some (.int (1 : Int32))) (fun h => by rw [Bd.returns] at h; cases h)
    refine ⟨_, _, retN X137 hx (t := .boolean) Bd.returns (by simp) (hb hby at_274) hr, hrun, hended, hG _ _ _ ?_ ⟨hEnd.1, hEnd.2.1, hEnd.2.2.1, hEnd.2.2.2.mono (by decide) (by decide)⟩⟩
    show Q0 Z p0 p1 p2 p3 p4 p5 kc sf ks ep tu h0 n0 _ T137.heap _
    rw [e137]
    exact ⟨rfl, N137⟩
  · show Go p.tables e below G (T136.setTop (mkF m 49 #[iv p0, iv p1, iv p2, iv p3, iv p4, iv p5, iv (1 : Int32), rv b2, rv b112, un, un, un, un] []))
    refine ziload X136 hx (hb hby at_49) rfl ?_
    refine ziconst X136 hx (hb hby at_51) (z := (1 : Int32)) rfl ?_
    refine zicmpNo X136 hx (hb hby at_52) (flt (by decide : ¬ ((1 : Int32) < (1 : Int32)))).1 ?_
    refine zaload X136 hx (hb hby at_55) rfl rfl ?_
    refine ziloadN X136 hx (hb hby at_57) rfl ?_
    refine zaload X136 hx (hb hby at_58) rfl rfl ?_
    refine zlconst X136 hx (hb hby at_60) (z := (0 : Int64)) rfl ?_
    obtain ⟨cq138, kq138, q138a, q138b, q138c⟩ := isOf hZ e136 A112
    obtain ⟨_, _, ⟨T138, L138, k138, n138⟩, -, X138, ⟨Lc138, hQ138, l138, y138, z138⟩, st138⟩ := X136.virtualBack hx (y := yn35) (z := yn35) hown (mvT hZ (wm hw 220 rfl)) (mvT hZ (wm hw 221 rfl)) (notFace_of_selects (args := #[]) (mvT hZ (wm hw 223 rfl))) (mvT hZ (wm hw 223 rfl)) (mvT hZ (wm hw 222 rfl)) (by decide) (backOf (W := 0) (rm30 l Z a0 hw [] b112 p0 b2 (0 : Int64) (fun _ => false) 0 h112 n0 Z112 TB0 f125 (by omega)) hZ (wm hw 224 rfl) (wm hw 215 rfl) (by decide) (by decide)) q138a q138c (g := (mkF m 61 #[iv p0, iv p1, iv p2, iv p3, iv p4, iv p5, iv (1 : Int32), rv b2, rv b112, un, un, un, un] [(.long (0 : Int64)), (.ref b2), (.int p0), (.ref b112)])) rfl (by rw [hml]; rfl) (Steps.refl _) (argsL := [(.int p0), (.ref b2), (.long (0 : Int64))]) (rest := []) (lenOf pd_24 rfl) rfl (by show 2 * 0 + _ ≤ _; exact Nat.le_of_eq rfl) (hb hby at_61) (fun _ _ => ⟨rfl, e136, (by decide : 16 + 5 ≤ _), (by decide : 211 + 40 ≤ _)⟩)
    dsimp only [Pt.U, Pt.locs, Pt.cells, Pt.slots] at X138 l138 y138 z138 st138 hQ138
    subst l138 y138 z138
    obtain ⟨rfl, Nq138, ws138, Kc138, Eh138, Tb138⟩ := hQ138
    have N138 := Fr.app N136 Nq138
    have f139 := f122.keep Kc138
    have f140 := f125.keep Kc138
    have f141 := f126.keep Kc138
    have f142 := f127.keep Kc138
    have f143 := f129.keep Kc138
    have f144 := A112.keep Kc138
    have Z138 : n0 ≤ T138.heap.size := Nat.le_trans Z112 Kc138.1
    obtain ⟨n1, hn1⟩ : ∃ z : Nat, z = (if (fun _ => false) p0 = true then 0 else 0 + 1) := ⟨_, rfl⟩
    rw [← hn1] at Tb138
    have hl1 : n1 = 1 := by rw [hn1]; rfl
    have hl1' : 1 ≤ n1 ∧ n1 ≤ 1 := by omega
    have hd1 : (1 : Int32) = own_i n1 := by rw [hl1]; decide
    have Et138 := (Tab.cap Tb138).1
    refine Go.stp (fun t_ k_ => st138.trans k_) ?_
    show Go p.tables e below G (T138.setTop (mkF m 64 #[iv p0, iv p1, iv p2, iv p3, iv p4, iv p5, iv (1 : Int32), rv b2, rv b112, un, un, un, un] []))
    refine ziload X138 hx (hb hby at_64) rfl ?_
    refine ziconst X138 hx (hb hby at_66) (z := (2 : Int32)) rfl ?_
    refine zicmpYes X138 hx (pc' := 79) (hb hby at_67) (tlt (by decide : (1 : Int32) < (2 : Int32))).1 (by decide) (by decide) ?_
    refine ziload X138 hx (hb hby at_79) rfl ?_
    refine ziconst X138 hx (hb hby at_81) (z := (3 : Int32)) rfl ?_
    refine zicmpYes X138 hx (pc' := 96) (hb hby at_82) (tlt (by decide : (1 : Int32) < (3 : Int32))).1 (by decide) (by decide) ?_
    refine ziload X138 hx (hb hby at_96) rfl ?_
    refine ziconst X138 hx (hb hby at_98) (z := (4 : Int32)) rfl ?_
    refine zicmpYes X138 hx (pc' := 113) (hb hby at_99) (tlt (by decide : (1 : Int32) < (4 : Int32))).1 (by decide) (by decide) ?_
    refine ziload X138 hx (hb hby at_113) rfl ?_
    refine ziconst X138 hx (hb hby at_115) (z := (5 : Int32)) rfl ?_
    refine zicmpYes X138 hx (pc' := 131) (hb hby at_116) (tlt (by decide : (1 : Int32) < (5 : Int32))).1 (by decide) (by decide) ?_
    refine ziconst X138 hx (hb hby at_131) (z := (0 : Int32)) rfl ?_
    refine zistore X138 hx (l' := #[iv p0, iv p1, iv p2, iv p3, iv p4, iv p5, iv (1 : Int32), rv b2, rv b112, iv (0 : Int32), un, un, un]) (hb hby at_132) rfl ?_
    refine ziload X138 hx (hb hby at_134) rfl ?_
    refine ziconst X138 hx (hb hby at_136) (z := (1 : Int32)) rfl ?_
    refine zicmpNo X138 hx (hb hby at_137) (flt (by decide : ¬ ((1 : Int32) < (1 : Int32)))).1 ?_
    refine ziconst X138 hx (hb hby at_140) (z := (1 : Int32)) rfl ?_
    refine zistore X138 hx (l' := #[iv p0, iv p1, iv p2, iv p3, iv p4, iv p5, iv (1 : Int32), rv b2, rv b112, iv (1 : Int32), un, un, un]) (hb hby at_141) rfl ?_
    refine ziload X138 hx (hb hby at_143) rfl ?_
    refine ziconst X138 hx (hb hby at_145) (z := (2 : Int32)) rfl ?_
    refine zicmpYes X138 hx (pc' := 157) (hb hby at_146) (tlt (by decide : (1 : Int32) < (2 : Int32))).1 (by decide) (by decide) ?_
    refine ziload X138 hx (hb hby at_157) rfl ?_
    refine ziconst X138 hx (hb hby at_159) (z := (3 : Int32)) rfl ?_
    refine zicmpYes X138 hx (pc' := 176) (hb hby at_160) (tlt (by decide : (1 : Int32) < (3 : Int32))).1 (by decide) (by decide) ?_
    refine ziload X138 hx (hb hby at_176) rfl ?_
    refine ziconst X138 hx (hb hby at_178) (z := (4 : Int32)) rfl ?_
    refine zicmpYes X138 hx (pc' := 200) (hb hby at_179) (tlt (by decide : (1 : Int32) < (4 : Int32))).1 (by decide) (by decide) ?_
    refine ziload X138 hx (hb hby at_200) rfl ?_
    refine ziconst X138 hx (hb hby at_202) (z := (5 : Int32)) rfl ?_
    refine zicmpYes X138 hx (pc' := 233) (hb hby at_203) (tlt (by decide : (1 : Int32) < (5 : Int32))).1 (by decide) (by decide) ?_
    refine ziload X138 hx (hb hby at_233) rfl ?_
    refine zifYes X138 hx (pc' := 242) (hb hby at_235) ((if0 _ _).trans (feq (by decide : ¬ ((1 : Int32) = (0 : Int32)))).2) (by decide) (by decide) ?_
    refine ziload X138 hx (hb hby at_242) rfl ?_
    refine ziconst X138 hx (hb hby at_244) (z := (3 : Int32)) rfl ?_
    refine zicmpNo X138 hx (hb hby at_245) (flt (by decide : ¬ ((3 : Int32) < (1 : Int32)))).2.2.1 ?_
    refine ziconst X138 hx (hb hby at_248) (z := (4 : Int32)) rfl ?_
    refine zgoto X138 hx (pc' := 254) (hb hby at_249) (by decide) (by decide) ?_
    refine zistore X138 hx (l' := #[iv p0, iv p1, iv p2, iv p3, iv p4, iv p5, iv (1 : Int32), rv b2, rv b112, iv (1 : Int32), iv (4 : Int32), un, un]) (hb hby at_254) rfl ?_
    refine zaload X138 hx (hb hby at_256) rfl rfl ?_
    obtain ⟨cq145, kq145, q145a, q145b, q145c⟩ := isOf hZ rfl Et138
    obtain ⟨_, _, ⟨T145, L145, k145, n145⟩, -, X145, ⟨Lc145, hQ145, l145, y145, z145⟩, st145⟩ := X138.virtualBack hx (y := yn38) (z := yn38) hown (mvT hZ (wm hw 269 rfl)) (mvT hZ (wm hw 270 rfl)) (notFace_of_selects (args := #[]) (mvT hZ (wm hw 272 rfl))) (mvT hZ (wm hw 272 rfl)) (mvT hZ (wm hw 271 rfl)) (by decide) (backOf (W := 0) (rm37 l Z a0 hw [] b112 n1 T138.heap n0 Z138 (Tab.cap Tb138)) hZ (wm hw 273 rfl) (wm hw 215 rfl) (by decide) (by decide)) q145a q145c (g := (mkF m 258 #[iv p0, iv p1, iv p2, iv p3, iv p4, iv p5, iv (1 : Int32), rv b2, rv b112, iv (1 : Int32), iv (4 : Int32), un, un] [(.ref b112)])) rfl (by rw [hml]; rfl) (Steps.refl _) (argsL := []) (rest := []) (lenOf pd_9 rfl) rfl (by show 2 * 0 + _ ≤ _; exact Nat.le_of_eq rfl) (hb hby at_258) (fun _ _ => ⟨rfl, rfl, (by decide : 21 + 0 ≤ _), (by decide : 251 + 0 ≤ _)⟩)
    dsimp only [Pt.U, Pt.locs, Pt.cells, Pt.slots] at X145 l145 y145 z145 st145 hQ145
    subst l145 y145 z145
    obtain ⟨rfl, Nq145, e145⟩ := hQ145
    have N145 := Fr.app N138 Nq145
    refine Go.stp (fun t_ k_ => st145.trans k_) ?_
    show Go p.tables e below G (T145.setTop (mkF m 261 #[iv p0, iv p1, iv p2, iv p3, iv p4, iv p5, iv (1 : Int32), rv b2, rv b112, iv (1 : Int32), iv (4 : Int32), un, un] [(.int (own_cap n1))]))
    refine ziload X145 hx (hb hby at_261) rfl ?_
    have hd263 : (own_cap n1) = (4 : Int32) := (by rw [hl1]; rfl)
    refine zicmpYes X145 hx (pc' := 268) (hb hby at_263) (teq hd263).1 (by decide) (by decide) ?_
    refine ziload X145 hx (hb hby at_268) rfl ?_
    refine zifYes X145 hx (pc' := 275) (hb hby at_270) ((if0 _ _).trans (feq (by decide : ¬ ((1 : Int32) = (0 : Int32)))).2) (by decide) (by decide) ?_
    refine zaload X145 hx (hb hby at_275) rfl rfl ?_
    refine ziloadN X145 hx (hb hby at_277) rfl ?_
    obtain ⟨cq146, kq146, q146a, q146b, q146c⟩ := isOf hZ e145 Et138
    obtain ⟨_, _, ⟨T146, L146, k146, n146⟩, -, X146, ⟨Lc146, hQ146, l146, y146, z146⟩, st146⟩ := X145.virtualBack hx (y := yn37) (z := yn37) hown (mvT hZ (wm hw 274 rfl)) (mvT hZ (wm hw 275 rfl)) (notFace_of_selects (args := #[]) (mvT hZ (wm hw 277 rfl))) (mvT hZ (wm hw 277 rfl)) (mvT hZ (wm hw 276 rfl)) (by decide) (backOf (W := 0) (rm38 l Z a0 hw [] b112 p0 b2 (ins (fun _ => false) p0) n1 T138.heap n0 Z138 Tb138 (by simp [ins])) hZ (wm hw 278 rfl) (wm hw 215 rfl) (by decide) (by decide)) q146a q146c (g := (mkF m 278 #[iv p0, iv p1, iv p2, iv p3, iv p4, iv p5, iv (1 : Int32), rv b2, rv b112, iv (1 : Int32), iv (4 : Int32), un, un] [(.int p0), (.ref b112)])) rfl (by rw [hml]; rfl) (Steps.refl _) (argsL := [(.int p0)]) (rest := []) (lenOf pd_25 rfl) rfl (by show 2 * 0 + _ ≤ _; exact Nat.le_of_eq rfl) (hb hby at_278) (fun _ _ => ⟨rfl, e145, (by decide : 21 + 5 ≤ _), (by decide : 251 + 20 ≤ _)⟩)
    dsimp only [Pt.U, Pt.locs, Pt.cells, Pt.slots] at X146 l146 y146 z146 st146 hQ146
    subst l146 y146 z146
    obtain ⟨z146, rfl, Nq146, ws146, Kc146, Cp146⟩ := hQ146
    have N146 := Fr.app N145 Nq146
    have f147 := f139.keep Kc146
    have f148 := f140.keep Kc146
    have f149 := f141.keep Kc146
    have f150 := f142.keep Kc146
    have f151 := f143.keep Kc146
    have f152 := Et138.keep Kc146
    have Z146 : n0 ≤ T146.heap.size := Nat.le_trans Z138 Kc146.1
    have Et146 := Cp146.1
    refine Go.stp (fun t_ k_ => st146.trans k_) ?_
    show Go p.tables e below G (T146.setTop (mkF m 281 #[iv p0, iv p1, iv p2, iv p3, iv p4, iv p5, iv (1 : Int32), rv b2, rv b112, iv (1 : Int32), iv (4 : Int32), un, un] [(.long z146)]))
    show Go p.tables e below G (T146.setTop (mkF m 281 #[iv p0, iv p1, iv p2, iv p3, iv p4, iv p5, iv (1 : Int32), rv b2, rv b112, iv (1 : Int32), iv (4 : Int32), un, un] [(.long z146)]))
    refine Go.stp (F' := T146.setTop (mkF m 282 #[iv p0, iv p1, iv p2, iv p3, iv p4, iv p5, iv (1 : Int32), rv b2, rv b112, iv (1 : Int32), iv (4 : Int32), un, un] [])) (fun t_ k_ => by jvm_step X146.here [X146.here.top, hx, (hb hby at_281), Value.category]; exact k_) ?_
    refine ziload X146 hx (hb hby at_282) rfl ?_
    refine ziconst X146 hx (hb hby at_284) (z := (1 : Int32)) rfl ?_
    refine zisub X146 hx (hb hby at_285) ?_
    refine zistore X146 hx (l' := #[iv p0, iv p1, iv p2, iv p3, iv p4, iv p5, iv (1 : Int32), rv b2, rv b112, iv (1 : Int32), iv (4 : Int32), iv ((1 : Int32) - (1 : Int32)), un]) (hb hby at_286) rfl ?_
    refine ziload X146 hx (hb hby at_288) rfl ?_
    refine zifNo X146 hx (hb hby at_290) ((if0 _ _).trans (teq (by decide : ((1 : Int32) - (1 : Int32)) = (0 : Int32))).2) ?_
    refine ziconst X146 hx (hb hby at_293) (z := (0 : Int32)) rfl ?_
    refine zgoto X146 hx (pc' := 309) (hb hby at_294) (by decide) (by decide) ?_
    refine zistore X146 hx (l' := #[iv p0, iv p1, iv p2, iv p3, iv p4, iv p5, iv (1 : Int32), rv b2, rv b112, iv (1 : Int32), iv (4 : Int32), iv ((1 : Int32) - (1 : Int32)), iv (0 : Int32)]) (hb hby at_309) rfl ?_
    refine zaload X146 hx (hb hby at_311) rfl rfl ?_
    obtain ⟨cq153, kq153, q153a, q153b, q153c⟩ := isOf hZ rfl Et146
    obtain ⟨_, _, ⟨T153, L153, k153, n153⟩, -, X153, ⟨Lc153, hQ153, l153, y153, z153⟩, st153⟩ := X146.virtualBack hx (y := yn38) (z := yn38) hown (mvT hZ (wm hw 269 rfl)) (mvT hZ (wm hw 270 rfl)) (notFace_of_selects (args := #[]) (mvT hZ (wm hw 272 rfl))) (mvT hZ (wm hw 272 rfl)) (mvT hZ (wm hw 271 rfl)) (by decide) (backOf (W := 0) (rm37 l Z a0 hw [] b112 (n1 - 1) T146.heap n0 Z146 Cp146) hZ (wm hw 273 rfl) (wm hw 215 rfl) (by decide) (by decide)) q153a q153c (g := (mkF m 313 #[iv p0, iv p1, iv p2, iv p3, iv p4, iv p5, iv (1 : Int32), rv b2, rv b112, iv (1 : Int32), iv (4 : Int32), iv ((1 : Int32) - (1 : Int32)), iv (0 : Int32)] [(.ref b112)])) rfl (by rw [hml]; rfl) (Steps.refl _) (argsL := []) (rest := []) (lenOf pd_9 rfl) rfl (by show 2 * 0 + _ ≤ _; exact Nat.le_of_eq rfl) (hb hby at_313) (fun _ _ => ⟨rfl, rfl, (by decide : 26 + 0 ≤ _), (by decide : 271 + 0 ≤ _)⟩)
    dsimp only [Pt.U, Pt.locs, Pt.cells, Pt.slots] at X153 l153 y153 z153 st153 hQ153
    subst l153 y153 z153
    obtain ⟨rfl, Nq153, e153⟩ := hQ153
    have N153 := Fr.app N146 Nq153
    refine Go.stp (fun t_ k_ => st153.trans k_) ?_
    show Go p.tables e below G (T153.setTop (mkF m 316 #[iv p0, iv p1, iv p2, iv p3, iv p4, iv p5, iv (1 : Int32), rv b2, rv b112, iv (1 : Int32), iv (4 : Int32), iv ((1 : Int32) - (1 : Int32)), iv (0 : Int32)] [(.int (own_cap (n1 - 1)))]))
    refine ziload X153 hx (hb hby at_316) rfl ?_
    have hd318 : (own_cap (n1 - 1)) = (0 : Int32) := (by rw [hl1]; rfl)
    refine zicmpNo X153 hx (hb hby at_318) (teq hd318).2 ?_
    refine ziconst X153 hx (hb hby at_321) (z := (1 : Int32)) rfl ?_
    refine zgoto X153 hx (pc' := 326) (hb hby at_322) (by decide) (by decide) ?_
    obtain ⟨fs, hr, hrun, hended, hEnd⟩ := X153.leaveW hS75 (by rw [e153]; exact f151) (v := some (.int (1 : Int32))) (fun h => by rw [Bd.returns] at h; cases h)
    refine ⟨_, _, retN X153 hx (t := .boolean) Bd.returns (by simp) (hb hby at_326) hr, hrun, hended, hG _ _ _ ?_ ⟨hEnd.1, hEnd.2.1, hEnd.2.2.1, hEnd.2.2.2.mono (by decide) (by decide)⟩⟩
    show Q0 Z p0 p1 p2 p3 p4 p5 kc sf ks ep tu h0 n0 _ T153.heap _
    rw [e153]
    exact ⟨rfl, N153⟩
  · show Go p.tables e below G (T136.setTop (mkF m 49 #[iv p0, iv p1, iv p2, iv p3, iv p4, iv p5, iv (2 : Int32), rv b2, rv b112, un, un, un, un] []))
    refine ziload X136 hx (hb hby at_49) rfl ?_
    refine ziconst X136 hx (hb hby at_51) (z := (1 : Int32)) rfl ?_
    refine zicmpNo X136 hx (hb hby at_52) (flt (by decide : ¬ ((2 : Int32) < (1 : Int32)))).1 ?_
    refine zaload X136 hx (hb hby at_55) rfl rfl ?_
    refine ziloadN X136 hx (hb hby at_57) rfl ?_
    refine zaload X136 hx (hb hby at_58) rfl rfl ?_
    refine zlconst X136 hx (hb hby at_60) (z := (0 : Int64)) rfl ?_
    obtain ⟨cq154, kq154, q154a, q154b, q154c⟩ := isOf hZ e136 A112
    obtain ⟨_, _, ⟨T154, L154, k154, n154⟩, -, X154, ⟨Lc154, hQ154, l154, y154, z154⟩, st154⟩ := X136.virtualBack hx (y := yn35) (z := yn35) hown (mvT hZ (wm hw 220 rfl)) (mvT hZ (wm hw 221 rfl)) (notFace_of_selects (args := #[]) (mvT hZ (wm hw 223 rfl))) (mvT hZ (wm hw 223 rfl)) (mvT hZ (wm hw 222 rfl)) (by decide) (backOf (W := 0) (rm30 l Z a0 hw [] b112 p0 b2 (0 : Int64) (fun _ => false) 0 h112 n0 Z112 TB0 f125 (by omega)) hZ (wm hw 224 rfl) (wm hw 215 rfl) (by decide) (by decide)) q154a q154c (g := (mkF m 61 #[iv p0, iv p1, iv p2, iv p3, iv p4, iv p5, iv (2 : Int32), rv b2, rv b112, un, un, un, un] [(.long (0 : Int64)), (.ref b2), (.int p0), (.ref b112)])) rfl (by rw [hml]; rfl) (Steps.refl _) (argsL := [(.int p0), (.ref b2), (.long (0 : Int64))]) (rest := []) (lenOf pd_24 rfl) rfl (by show 2 * 0 + _ ≤ _; exact Nat.le_of_eq rfl) (hb hby at_61) (fun _ _ => ⟨rfl, e136, (by decide : 16 + 5 ≤ _), (by decide : 211 + 40 ≤ _)⟩)
    dsimp only [Pt.U, Pt.locs, Pt.cells, Pt.slots] at X154 l154 y154 z154 st154 hQ154
    subst l154 y154 z154
    obtain ⟨rfl, Nq154, ws154, Kc154, Eh154, Tb154⟩ := hQ154
    have N154 := Fr.app N136 Nq154
    have f155 := f122.keep Kc154
    have f156 := f125.keep Kc154
    have f157 := f126.keep Kc154
    have f158 := f127.keep Kc154
    have f159 := f129.keep Kc154
    have f160 := A112.keep Kc154
    have Z154 : n0 ≤ T154.heap.size := Nat.le_trans Z112 Kc154.1
    obtain ⟨n1, hn1⟩ : ∃ z : Nat, z = (if (fun _ => false) p0 = true then 0 else 0 + 1) := ⟨_, rfl⟩
    rw [← hn1] at Tb154
    have hl1 : n1 = 1 := by rw [hn1]; rfl
    have hl1' : 1 ≤ n1 ∧ n1 ≤ 1 := by omega
    have hd1 : (1 : Int32) = own_i n1 := by rw [hl1]; decide
    have Et154 := (Tab.cap Tb154).1
    refine Go.stp (fun t_ k_ => st154.trans k_) ?_
    show Go p.tables e below G (T154.setTop (mkF m 64 #[iv p0, iv p1, iv p2, iv p3, iv p4, iv p5, iv (2 : Int32), rv b2, rv b112, un, un, un, un] []))
    refine ziload X154 hx (hb hby at_64) rfl ?_
    refine ziconst X154 hx (hb hby at_66) (z := (2 : Int32)) rfl ?_
    refine zicmpNo X154 hx (hb hby at_67) (flt (by decide : ¬ ((2 : Int32) < (2 : Int32)))).1 ?_
    refine zaload X154 hx (hb hby at_70) rfl rfl ?_
    refine ziloadN X154 hx (hb hby at_72) rfl ?_
    refine zaload X154 hx (hb hby at_73) rfl rfl ?_
    refine zlconst X154 hx (hb hby at_75) (z := (1 : Int64)) rfl ?_
    obtain ⟨cq161, kq161, q161a, q161b, q161c⟩ := isOf hZ rfl Et154
    obtain ⟨_, _, ⟨T161, L161, k161, n161⟩, -, X161, ⟨Lc161, hQ161, l161, y161, z161⟩, st161⟩ := X154.virtualBack hx (y := yn35) (z := yn35) hown (mvT hZ (wm hw 220 rfl)) (mvT hZ (wm hw 221 rfl)) (notFace_of_selects (args := #[]) (mvT hZ (wm hw 223 rfl))) (mvT hZ (wm hw 223 rfl)) (mvT hZ (wm hw 222 rfl)) (by decide) (backOf (W := 0) (rm30 l Z a0 hw [] b112 p1 b2 (1 : Int64) (ins (fun _ => false) p0) n1 T154.heap n0 Z154 Tb154 f156 (by omega)) hZ (wm hw 224 rfl) (wm hw 215 rfl) (by decide) (by decide)) q161a q161c (g := (mkF m 76 #[iv p0, iv p1, iv p2, iv p3, iv p4, iv p5, iv (2 : Int32), rv b2, rv b112, un, un, un, un] [(.long (1 : Int64)), (.ref b2), (.int p1), (.ref b112)])) rfl (by rw [hml]; rfl) (Steps.refl _) (argsL := [(.int p1), (.ref b2), (.long (1 : Int64))]) (rest := []) (lenOf pd_24 rfl) rfl (by show 2 * 0 + _ ≤ _; exact Nat.le_of_eq rfl) (hb hby at_76) (fun _ _ => ⟨rfl, rfl, (by decide : 21 + 5 ≤ _), (by decide : 251 + 40 ≤ _)⟩)
    dsimp only [Pt.U, Pt.locs, Pt.cells, Pt.slots] at X161 l161 y161 z161 st161 hQ161
    subst l161 y161 z161
    obtain ⟨rfl, Nq161, ws161, Kc161, Eh161, Tb161⟩ := hQ161
    have N161 := Fr.app N154 Nq161
    have f162 := f155.keep Kc161
    have f163 := f156.keep Kc161
    have f164 := f157.keep Kc161
    have f165 := f158.keep Kc161
    have f166 := f159.keep Kc161
    have f167 := Et154.keep Kc161
    have Z161 : n0 ≤ T161.heap.size := Nat.le_trans Z154 Kc161.1
    obtain ⟨n2, hn2⟩ : ∃ z : Nat, z = (if (ins (fun _ => false) p0) p1 = true then n1 else n1 + 1) := ⟨_, rfl⟩
    rw [← hn2] at Tb161
    have hl2' : 1 ≤ n2 ∧ n2 ≤ 2 := by rw [hn2]; split <;> omega
    have Et161 := (Tab.cap Tb161).1
    refine Go.stp (fun t_ k_ => st161.trans k_) ?_
    show Go p.tables e below G (T161.setTop (mkF m 79 #[iv p0, iv p1, iv p2, iv p3, iv p4, iv p5, iv (2 : Int32), rv b2, rv b112, un, un, un, un] []))
    refine ziload X161 hx (hb hby at_79) rfl ?_
    refine ziconst X161 hx (hb hby at_81) (z := (3 : Int32)) rfl ?_
    refine zicmpYes X161 hx (pc' := 96) (hb hby at_82) (tlt (by decide : (2 : Int32) < (3 : Int32))).1 (by decide) (by decide) ?_
    refine ziload X161 hx (hb hby at_96) rfl ?_
    refine ziconst X161 hx (hb hby at_98) (z := (4 : Int32)) rfl ?_
    refine zicmpYes X161 hx (pc' := 113) (hb hby at_99) (tlt (by decide : (2 : Int32) < (4 : Int32))).1 (by decide) (by decide) ?_
    refine ziload X161 hx (hb hby at_113) rfl ?_
    refine ziconst X161 hx (hb hby at_115) (z := (5 : Int32)) rfl ?_
    refine zicmpYes X161 hx (pc' := 131) (hb hby at_116) (tlt (by decide : (2 : Int32) < (5 : Int32))).1 (by decide) (by decide) ?_
    refine ziconst X161 hx (hb hby at_131) (z := (0 : Int32)) rfl ?_
    refine zistore X161 hx (l' := #[iv p0, iv p1, iv p2, iv p3, iv p4, iv p5, iv (2 : Int32), rv b2, rv b112, iv (0 : Int32), un, un, un]) (hb hby at_132) rfl ?_
    refine ziload X161 hx (hb hby at_134) rfl ?_
    refine ziconst X161 hx (hb hby at_136) (z := (1 : Int32)) rfl ?_
    refine zicmpNo X161 hx (hb hby at_137) (flt (by decide : ¬ ((2 : Int32) < (1 : Int32)))).1 ?_
    refine ziconst X161 hx (hb hby at_140) (z := (1 : Int32)) rfl ?_
    refine zistore X161 hx (l' := #[iv p0, iv p1, iv p2, iv p3, iv p4, iv p5, iv (2 : Int32), rv b2, rv b112, iv (1 : Int32), un, un, un]) (hb hby at_141) rfl ?_
    refine ziload X161 hx (hb hby at_143) rfl ?_
    refine ziconst X161 hx (hb hby at_145) (z := (2 : Int32)) rfl ?_
    refine zicmpNo X161 hx (hb hby at_146) (flt (by decide : ¬ ((2 : Int32) < (2 : Int32)))).1 ?_
    refine ziloadN X161 hx (hb hby at_149) rfl ?_
    refine ziloadN X161 hx (hb hby at_150) rfl ?_
    suffices J168 : ∀ (d2 : Int32), (((p1 = p0) ∧ d2 = (1 : Int32)) ∨ (¬ (p1 = p0) ∧ d2 = ((1 : Int32) + (1 : Int32)))) → Go p.tables e below G (T161.setTop (mkF m 157 #[iv p0, iv p1, iv p2, iv p3, iv p4, iv p5, iv (2 : Int32), rv b2, rv b112, iv d2, un, un, un] [])) by
      by_cases hc151 : p1 = p0
      · refine zicmpYes X161 hx (pc' := 157) (hb hby at_151) (teq hc151).1 (by decide) (by decide) ?_
        exact J168 _ (Or.inl ⟨hc151, rfl⟩)
      · refine zicmpNo X161 hx (hb hby at_151) (feq hc151).1 ?_
        refine ziinc X161 hx (l' := #[iv p0, iv p1, iv p2, iv p3, iv p4, iv p5, iv (2 : Int32), rv b2, rv b112, iv ((1 : Int32) + (1 : Int32)), un, un, un]) (hb hby at_154) rfl rfl ?_
        exact J168 _ (Or.inr ⟨hc151, rfl⟩)
    intro d2 hj157
    have hd2 : d2 = own_i n2 := by
      rcases hj157 with ⟨q0, hq⟩ | ⟨q0, hq⟩
      · rw [hq, hn2, if_pos (by simp [ins, q0])]
        exact hd1
      · rw [hq, hn2, if_neg (by simp [ins, q0])]
        exact congrArg (fun z => z + (1 : Int32)) hd1
    refine ziload X161 hx (hb hby at_157) rfl ?_
    refine ziconst X161 hx (hb hby at_159) (z := (3 : Int32)) rfl ?_
    refine zicmpYes X161 hx (pc' := 176) (hb hby at_160) (tlt (by decide : (2 : Int32) < (3 : Int32))).1 (by decide) (by decide) ?_
    refine ziload X161 hx (hb hby at_176) rfl ?_
    refine ziconst X161 hx (hb hby at_178) (z := (4 : Int32)) rfl ?_
    refine zicmpYes X161 hx (pc' := 200) (hb hby at_179) (tlt (by decide : (2 : Int32) < (4 : Int32))).1 (by decide) (by decide) ?_
    refine ziload X161 hx (hb hby at_200) rfl ?_
    refine ziconst X161 hx (hb hby at_202) (z := (5 : Int32)) rfl ?_
    refine zicmpYes X161 hx (pc' := 233) (hb hby at_203) (tlt (by decide : (2 : Int32) < (5 : Int32))).1 (by decide) (by decide) ?_
    refine ziload X161 hx (hb hby at_233) rfl ?_
    have hd235 : ¬ (d2 = (0 : Int32)) := (by rw [hd2]; exact own_ine (by omega) (by omega))
    refine zifYes X161 hx (pc' := 242) (hb hby at_235) ((if0 _ _).trans (feq hd235).2) (by decide) (by decide) ?_
    refine ziload X161 hx (hb hby at_242) rfl ?_
    refine ziconst X161 hx (hb hby at_244) (z := (3 : Int32)) rfl ?_
    suffices J169 : ∀ (ex : Int32), ((((3 : Int32) < d2) ∧ ex = (8 : Int32)) ∨ (¬ ((3 : Int32) < d2) ∧ ex = (4 : Int32))) → Go p.tables e below G (T161.setTop (mkF m 254 #[iv p0, iv p1, iv p2, iv p3, iv p4, iv p5, iv (2 : Int32), rv b2, rv b112, iv d2, un, un, un] [(.int ex)])) by
      by_cases hc245 : (3 : Int32) < d2
      · refine zicmpYes X161 hx (pc' := 252) (hb hby at_245) (tlt hc245).2.2.1 (by decide) (by decide) ?_
        refine zbipush X161 hx (hb hby at_252) (z := (8 : Int32)) rfl ?_
        exact J169 _ (Or.inl ⟨hc245, rfl⟩)
      · refine zicmpNo X161 hx (hb hby at_245) (flt hc245).2.2.1 ?_
        refine ziconst X161 hx (hb hby at_248) (z := (4 : Int32)) rfl ?_
        refine zgoto X161 hx (pc' := 254) (hb hby at_249) (by decide) (by decide) ?_
        exact J169 _ (Or.inr ⟨hc245, rfl⟩)
    intro ex hj254
    have hex : ex = own_cap n2 := by
      rcases hj254 with ⟨h1, h2⟩ | ⟨h1, h2⟩
      · rw [hd2] at h1; rw [h2]; exact own_c8 h1 (by omega) (by omega)
      · rw [hd2] at h1; rw [h2]; exact own_c4 h1 (by omega) (by omega)
    refine zistore X161 hx (l' := #[iv p0, iv p1, iv p2, iv p3, iv p4, iv p5, iv (2 : Int32), rv b2, rv b112, iv d2, iv ex, un, un]) (hb hby at_254) rfl ?_
    refine zaload X161 hx (hb hby at_256) rfl rfl ?_
    obtain ⟨cq170, kq170, q170a, q170b, q170c⟩ := isOf hZ rfl Et161
    obtain ⟨_, _, ⟨T170, L170, k170, n170⟩, -, X170, ⟨Lc170, hQ170, l170, y170, z170⟩, st170⟩ := X161.virtualBack hx (y := yn38) (z := yn38) hown (mvT hZ (wm hw 269 rfl)) (mvT hZ (wm hw 270 rfl)) (notFace_of_selects (args := #[]) (mvT hZ (wm hw 272 rfl))) (mvT hZ (wm hw 272 rfl)) (mvT hZ (wm hw 271 rfl)) (by decide) (backOf (W := 0) (rm37 l Z a0 hw [] b112 n2 T161.heap n0 Z161 (Tab.cap Tb161)) hZ (wm hw 273 rfl) (wm hw 215 rfl) (by decide) (by decide)) q170a q170c (g := (mkF m 258 #[iv p0, iv p1, iv p2, iv p3, iv p4, iv p5, iv (2 : Int32), rv b2, rv b112, iv d2, iv ex, un, un] [(.ref b112)])) rfl (by rw [hml]; rfl) (Steps.refl _) (argsL := []) (rest := []) (lenOf pd_9 rfl) rfl (by show 2 * 0 + _ ≤ _; exact Nat.le_of_eq rfl) (hb hby at_258) (fun _ _ => ⟨rfl, rfl, (by decide : 26 + 0 ≤ _), (by decide : 291 + 0 ≤ _)⟩)
    dsimp only [Pt.U, Pt.locs, Pt.cells, Pt.slots] at X170 l170 y170 z170 st170 hQ170
    subst l170 y170 z170
    obtain ⟨rfl, Nq170, e170⟩ := hQ170
    have N170 := Fr.app N161 Nq170
    refine Go.stp (fun t_ k_ => st170.trans k_) ?_
    show Go p.tables e below G (T170.setTop (mkF m 261 #[iv p0, iv p1, iv p2, iv p3, iv p4, iv p5, iv (2 : Int32), rv b2, rv b112, iv d2, iv ex, un, un] [(.int (own_cap n2))]))
    refine ziload X170 hx (hb hby at_261) rfl ?_
    have hd263 : (own_cap n2) = ex := hex.symm
    refine zicmpYes X170 hx (pc' := 268) (hb hby at_263) (teq hd263).1 (by decide) (by decide) ?_
    refine ziload X170 hx (hb hby at_268) rfl ?_
    refine zifYes X170 hx (pc' := 275) (hb hby at_270) ((if0 _ _).trans (feq (by decide : ¬ ((2 : Int32) = (0 : Int32)))).2) (by decide) (by decide) ?_
    refine zaload X170 hx (hb hby at_275) rfl rfl ?_
    refine ziloadN X170 hx (hb hby at_277) rfl ?_
    obtain ⟨cq171, kq171, q171a, q171b, q171c⟩ := isOf hZ e170 Et161
    obtain ⟨_, _, ⟨T171, L171, k171, n171⟩, -, X171, ⟨Lc171, hQ171, l171, y171, z171⟩, st171⟩ := X170.virtualBack hx (y := yn37) (z := yn37) hown (mvT hZ (wm hw 274 rfl)) (mvT hZ (wm hw 275 rfl)) (notFace_of_selects (args := #[]) (mvT hZ (wm hw 277 rfl))) (mvT hZ (wm hw 277 rfl)) (mvT hZ (wm hw 276 rfl)) (by decide) (backOf (W := 0) (rm38 l Z a0 hw [] b112 p0 b2 (ins (ins (fun _ => false) p0) p1) n2 T161.heap n0 Z161 Tb161 (by simp [ins])) hZ (wm hw 278 rfl) (wm hw 215 rfl) (by decide) (by decide)) q171a q171c (g := (mkF m 278 #[iv p0, iv p1, iv p2, iv p3, iv p4, iv p5, iv (2 : Int32), rv b2, rv b112, iv d2, iv ex, un, un] [(.int p0), (.ref b112)])) rfl (by rw [hml]; rfl) (Steps.refl _) (argsL := [(.int p0)]) (rest := []) (lenOf pd_25 rfl) rfl (by show 2 * 0 + _ ≤ _; exact Nat.le_of_eq rfl) (hb hby at_278) (fun _ _ => ⟨rfl, e170, (by decide : 26 + 5 ≤ _), (by decide : 291 + 20 ≤ _)⟩)
    dsimp only [Pt.U, Pt.locs, Pt.cells, Pt.slots] at X171 l171 y171 z171 st171 hQ171
    subst l171 y171 z171
    obtain ⟨z171, rfl, Nq171, ws171, Kc171, Cp171⟩ := hQ171
    have N171 := Fr.app N170 Nq171
    have f172 := f162.keep Kc171
    have f173 := f163.keep Kc171
    have f174 := f164.keep Kc171
    have f175 := f165.keep Kc171
    have f176 := f166.keep Kc171
    have f177 := Et161.keep Kc171
    have Z171 : n0 ≤ T171.heap.size := Nat.le_trans Z161 Kc171.1
    have Et171 := Cp171.1
    refine Go.stp (fun t_ k_ => st171.trans k_) ?_
    show Go p.tables e below G (T171.setTop (mkF m 281 #[iv p0, iv p1, iv p2, iv p3, iv p4, iv p5, iv (2 : Int32), rv b2, rv b112, iv d2, iv ex, un, un] [(.long z171)]))
    show Go p.tables e below G (T171.setTop (mkF m 281 #[iv p0, iv p1, iv p2, iv p3, iv p4, iv p5, iv (2 : Int32), rv b2, rv b112, iv d2, iv ex, un, un] [(.long z171)]))
    refine Go.stp (F' := T171.setTop (mkF m 282 #[iv p0, iv p1, iv p2, iv p3, iv p4, iv p5, iv (2 : Int32), rv b2, rv b112, iv d2, iv ex, un, un] [])) (fun t_ k_ => by jvm_step X171.here [X171.here.top, hx, (hb hby at_281), Value.category]; exact k_) ?_
    refine ziload X171 hx (hb hby at_282) rfl ?_
    refine ziconst X171 hx (hb hby at_284) (z := (1 : Int32)) rfl ?_
    refine zisub X171 hx (hb hby at_285) ?_
    refine zistore X171 hx (l' := #[iv p0, iv p1, iv p2, iv p3, iv p4, iv p5, iv (2 : Int32), rv b2, rv b112, iv d2, iv ex, iv (d2 - (1 : Int32)), un]) (hb hby at_286) rfl ?_
    refine ziload X171 hx (hb hby at_288) rfl ?_
    suffices J178 : ∀ (ea : Int32), ((((d2 - (1 : Int32)) = (0 : Int32)) ∧ ea = (0 : Int32)) ∨ (¬ ((d2 - (1 : Int32)) = (0 : Int32)) ∧ ((d2 - (1 : Int32)) < (4 : Int32)) ∧ ea = (4 : Int32)) ∨ (¬ ((d2 - (1 : Int32)) = (0 : Int32)) ∧ ¬ ((d2 - (1 : Int32)) < (4 : Int32)) ∧ ea = (8 : Int32))) → Go p.tables e below G (T171.setTop (mkF m 309 #[iv p0, iv p1, iv p2, iv p3, iv p4, iv p5, iv (2 : Int32), rv b2, rv b112, iv d2, iv ex, iv (d2 - (1 : Int32)), un] [(.int ea)])) by
      by_cases hc290 : (d2 - (1 : Int32)) = (0 : Int32)
      · refine zifNo X171 hx (hb hby at_290) ((if0 _ _).trans (teq hc290).2) ?_
        refine ziconst X171 hx (hb hby at_293) (z := (0 : Int32)) rfl ?_
        refine zgoto X171 hx (pc' := 309) (hb hby at_294) (by decide) (by decide) ?_
        exact J178 _ (Or.inl ⟨hc290, rfl⟩)
      · refine zifYes X171 hx (pc' := 297) (hb hby at_290) ((if0 _ _).trans (feq hc290).2) (by decide) (by decide) ?_
        refine ziload X171 hx (hb hby at_297) rfl ?_
        refine ziconst X171 hx (hb hby at_299) (z := (4 : Int32)) rfl ?_
        by_cases hc300 : (d2 - (1 : Int32)) < (4 : Int32)
        · refine zicmpYes X171 hx (pc' := 308) (hb hby at_300) (tlt hc300).1 (by decide) (by decide) ?_
          refine ziconst X171 hx (hb hby at_308) (z := (4 : Int32)) rfl ?_
          exact J178 _ (Or.inr (Or.inl ⟨hc290, hc300, rfl⟩))
        · refine zicmpNo X171 hx (hb hby at_300) (flt hc300).1 ?_
          refine zbipush X171 hx (hb hby at_303) (z := (8 : Int32)) rfl ?_
          refine zgoto X171 hx (pc' := 309) (hb hby at_305) (by decide) (by decide) ?_
          exact J178 _ (Or.inr (Or.inr ⟨hc290, hc300, rfl⟩))
    intro ea hj309
    have hea : ea = own_cap (n2 - 1) := by
      rcases hj309 with ⟨h1, h2⟩ | ⟨h1, h3, h2⟩ | ⟨h1, h3, h2⟩
      · rw [hd2] at h1; rw [h2]; exact own_r0 h1 (by omega) (by omega)
      · rw [hd2] at h1 h3; rw [h2]; exact own_r4 h1 h3 (by omega) (by omega)
      · rw [hd2] at h3; rw [h2]; exact own_r8 h3 (by omega) (by omega)
    refine zistore X171 hx (l' := #[iv p0, iv p1, iv p2, iv p3, iv p4, iv p5, iv (2 : Int32), rv b2, rv b112, iv d2, iv ex, iv (d2 - (1 : Int32)), iv ea]) (hb hby at_309) rfl ?_
    refine zaload X171 hx (hb hby at_311) rfl rfl ?_
    obtain ⟨cq179, kq179, q179a, q179b, q179c⟩ := isOf hZ rfl Et171
    obtain ⟨_, _, ⟨T179, L179, k179, n179⟩, -, X179, ⟨Lc179, hQ179, l179, y179, z179⟩, st179⟩ := X171.virtualBack hx (y := yn38) (z := yn38) hown (mvT hZ (wm hw 269 rfl)) (mvT hZ (wm hw 270 rfl)) (notFace_of_selects (args := #[]) (mvT hZ (wm hw 272 rfl))) (mvT hZ (wm hw 272 rfl)) (mvT hZ (wm hw 271 rfl)) (by decide) (backOf (W := 0) (rm37 l Z a0 hw [] b112 (n2 - 1) T171.heap n0 Z171 Cp171) hZ (wm hw 273 rfl) (wm hw 215 rfl) (by decide) (by decide)) q179a q179c (g := (mkF m 313 #[iv p0, iv p1, iv p2, iv p3, iv p4, iv p5, iv (2 : Int32), rv b2, rv b112, iv d2, iv ex, iv (d2 - (1 : Int32)), iv ea] [(.ref b112)])) rfl (by rw [hml]; rfl) (Steps.refl _) (argsL := []) (rest := []) (lenOf pd_9 rfl) rfl (by show 2 * 0 + _ ≤ _; exact Nat.le_of_eq rfl) (hb hby at_313) (fun _ _ => ⟨rfl, rfl, (by decide : 31 + 0 ≤ _), (by decide : 311 + 0 ≤ _)⟩)
    dsimp only [Pt.U, Pt.locs, Pt.cells, Pt.slots] at X179 l179 y179 z179 st179 hQ179
    subst l179 y179 z179
    obtain ⟨rfl, Nq179, e179⟩ := hQ179
    have N179 := Fr.app N171 Nq179
    refine Go.stp (fun t_ k_ => st179.trans k_) ?_
    show Go p.tables e below G (T179.setTop (mkF m 316 #[iv p0, iv p1, iv p2, iv p3, iv p4, iv p5, iv (2 : Int32), rv b2, rv b112, iv d2, iv ex, iv (d2 - (1 : Int32)), iv ea] [(.int (own_cap (n2 - 1)))]))
    refine ziload X179 hx (hb hby at_316) rfl ?_
    have hd318 : (own_cap (n2 - 1)) = ea := hea.symm
    refine zicmpNo X179 hx (hb hby at_318) (teq hd318).2 ?_
    refine ziconst X179 hx (hb hby at_321) (z := (1 : Int32)) rfl ?_
    refine zgoto X179 hx (pc' := 326) (hb hby at_322) (by decide) (by decide) ?_
    obtain ⟨fs, hr, hrun, hended, hEnd⟩ := X179.leaveW hS75 (by rw [e179]; exact f176) (v := some (.int (1 : Int32))) (fun h => by rw [Bd.returns] at h; cases h)
    refine ⟨_, _, retN X179 hx (t := .boolean) Bd.returns (by simp) (hb hby at_326) hr, hrun, hended, hG _ _ _ ?_ ⟨hEnd.1, hEnd.2.1, hEnd.2.2.1, hEnd.2.2.2.mono (by decide) (by decide)⟩⟩
    show Q0 Z p0 p1 p2 p3 p4 p5 kc sf ks ep tu h0 n0 _ T179.heap _
    rw [e179]
    exact ⟨rfl, N179⟩
  · show Go p.tables e below G (T136.setTop (mkF m 49 #[iv p0, iv p1, iv p2, iv p3, iv p4, iv p5, iv (3 : Int32), rv b2, rv b112, un, un, un, un] []))
    refine ziload X136 hx (hb hby at_49) rfl ?_
    refine ziconst X136 hx (hb hby at_51) (z := (1 : Int32)) rfl ?_
    refine zicmpNo X136 hx (hb hby at_52) (flt (by decide : ¬ ((3 : Int32) < (1 : Int32)))).1 ?_
    refine zaload X136 hx (hb hby at_55) rfl rfl ?_
    refine ziloadN X136 hx (hb hby at_57) rfl ?_
    refine zaload X136 hx (hb hby at_58) rfl rfl ?_
    refine zlconst X136 hx (hb hby at_60) (z := (0 : Int64)) rfl ?_
    obtain ⟨cq180, kq180, q180a, q180b, q180c⟩ := isOf hZ e136 A112
    obtain ⟨_, _, ⟨T180, L180, k180, n180⟩, -, X180, ⟨Lc180, hQ180, l180, y180, z180⟩, st180⟩ := X136.virtualBack hx (y := yn35) (z := yn35) hown (mvT hZ (wm hw 220 rfl)) (mvT hZ (wm hw 221 rfl)) (notFace_of_selects (args := #[]) (mvT hZ (wm hw 223 rfl))) (mvT hZ (wm hw 223 rfl)) (mvT hZ (wm hw 222 rfl)) (by decide) (backOf (W := 0) (rm30 l Z a0 hw [] b112 p0 b2 (0 : Int64) (fun _ => false) 0 h112 n0 Z112 TB0 f125 (by omega)) hZ (wm hw 224 rfl) (wm hw 215 rfl) (by decide) (by decide)) q180a q180c (g := (mkF m 61 #[iv p0, iv p1, iv p2, iv p3, iv p4, iv p5, iv (3 : Int32), rv b2, rv b112, un, un, un, un] [(.long (0 : Int64)), (.ref b2), (.int p0), (.ref b112)])) rfl (by rw [hml]; rfl) (Steps.refl _) (argsL := [(.int p0), (.ref b2), (.long (0 : Int64))]) (rest := []) (lenOf pd_24 rfl) rfl (by show 2 * 0 + _ ≤ _; exact Nat.le_of_eq rfl) (hb hby at_61) (fun _ _ => ⟨rfl, e136, (by decide : 16 + 5 ≤ _), (by decide : 211 + 40 ≤ _)⟩)
    dsimp only [Pt.U, Pt.locs, Pt.cells, Pt.slots] at X180 l180 y180 z180 st180 hQ180
    subst l180 y180 z180
    obtain ⟨rfl, Nq180, ws180, Kc180, Eh180, Tb180⟩ := hQ180
    have N180 := Fr.app N136 Nq180
    have f181 := f122.keep Kc180
    have f182 := f125.keep Kc180
    have f183 := f126.keep Kc180
    have f184 := f127.keep Kc180
    have f185 := f129.keep Kc180
    have f186 := A112.keep Kc180
    have Z180 : n0 ≤ T180.heap.size := Nat.le_trans Z112 Kc180.1
    obtain ⟨n1, hn1⟩ : ∃ z : Nat, z = (if (fun _ => false) p0 = true then 0 else 0 + 1) := ⟨_, rfl⟩
    rw [← hn1] at Tb180
    have hl1 : n1 = 1 := by rw [hn1]; rfl
    have hl1' : 1 ≤ n1 ∧ n1 ≤ 1 := by omega
    have hd1 : (1 : Int32) = own_i n1 := by rw [hl1]; decide
    have Et180 := (Tab.cap Tb180).1
    refine Go.stp (fun t_ k_ => st180.trans k_) ?_
    show Go p.tables e below G (T180.setTop (mkF m 64 #[iv p0, iv p1, iv p2, iv p3, iv p4, iv p5, iv (3 : Int32), rv b2, rv b112, un, un, un, un] []))
    refine ziload X180 hx (hb hby at_64) rfl ?_
    refine ziconst X180 hx (hb hby at_66) (z := (2 : Int32)) rfl ?_
    refine zicmpNo X180 hx (hb hby at_67) (flt (by decide : ¬ ((3 : Int32) < (2 : Int32)))).1 ?_
    refine zaload X180 hx (hb hby at_70) rfl rfl ?_
    refine ziloadN X180 hx (hb hby at_72) rfl ?_
    refine zaload X180 hx (hb hby at_73) rfl rfl ?_
    refine zlconst X180 hx (hb hby at_75) (z := (1 : Int64)) rfl ?_
    obtain ⟨cq187, kq187, q187a, q187b, q187c⟩ := isOf hZ rfl Et180
    obtain ⟨_, _, ⟨T187, L187, k187, n187⟩, -, X187, ⟨Lc187, hQ187, l187, y187, z187⟩, st187⟩ := X180.virtualBack hx (y := yn35) (z := yn35) hown (mvT hZ (wm hw 220 rfl)) (mvT hZ (wm hw 221 rfl)) (notFace_of_selects (args := #[]) (mvT hZ (wm hw 223 rfl))) (mvT hZ (wm hw 223 rfl)) (mvT hZ (wm hw 222 rfl)) (by decide) (backOf (W := 0) (rm30 l Z a0 hw [] b112 p1 b2 (1 : Int64) (ins (fun _ => false) p0) n1 T180.heap n0 Z180 Tb180 f182 (by omega)) hZ (wm hw 224 rfl) (wm hw 215 rfl) (by decide) (by decide)) q187a q187c (g := (mkF m 76 #[iv p0, iv p1, iv p2, iv p3, iv p4, iv p5, iv (3 : Int32), rv b2, rv b112, un, un, un, un] [(.long (1 : Int64)), (.ref b2), (.int p1), (.ref b112)])) rfl (by rw [hml]; rfl) (Steps.refl _) (argsL := [(.int p1), (.ref b2), (.long (1 : Int64))]) (rest := []) (lenOf pd_24 rfl) rfl (by show 2 * 0 + _ ≤ _; exact Nat.le_of_eq rfl) (hb hby at_76) (fun _ _ => ⟨rfl, rfl, (by decide : 21 + 5 ≤ _), (by decide : 251 + 40 ≤ _)⟩)
    dsimp only [Pt.U, Pt.locs, Pt.cells, Pt.slots] at X187 l187 y187 z187 st187 hQ187
    subst l187 y187 z187
    obtain ⟨rfl, Nq187, ws187, Kc187, Eh187, Tb187⟩ := hQ187
    have N187 := Fr.app N180 Nq187
    have f188 := f181.keep Kc187
    have f189 := f182.keep Kc187
    have f190 := f183.keep Kc187
    have f191 := f184.keep Kc187
    have f192 := f185.keep Kc187
    have f193 := Et180.keep Kc187
    have Z187 : n0 ≤ T187.heap.size := Nat.le_trans Z180 Kc187.1
    obtain ⟨n2, hn2⟩ : ∃ z : Nat, z = (if (ins (fun _ => false) p0) p1 = true then n1 else n1 + 1) := ⟨_, rfl⟩
    rw [← hn2] at Tb187
    have hl2' : 1 ≤ n2 ∧ n2 ≤ 2 := by rw [hn2]; split <;> omega
    have Et187 := (Tab.cap Tb187).1
    refine Go.stp (fun t_ k_ => st187.trans k_) ?_
    show Go p.tables e below G (T187.setTop (mkF m 79 #[iv p0, iv p1, iv p2, iv p3, iv p4, iv p5, iv (3 : Int32), rv b2, rv b112, un, un, un, un] []))
    refine ziload X187 hx (hb hby at_79) rfl ?_
    refine ziconst X187 hx (hb hby at_81) (z := (3 : Int32)) rfl ?_
    refine zicmpNo X187 hx (hb hby at_82) (flt (by decide : ¬ ((3 : Int32) < (3 : Int32)))).1 ?_
    refine zaload X187 hx (hb hby at_85) rfl rfl ?_
    refine ziloadN X187 hx (hb hby at_87) rfl ?_
    refine zaload X187 hx (hb hby at_88) rfl rfl ?_
    refine Go.stp (fun t_ k_ => X187.ldc2Long hx hown (mvT hZ (wm hw 268 rfl)) (g := (mkF m 90 #[iv p0, iv p1, iv p2, iv p3, iv p4, iv p5, iv (3 : Int32), rv b2, rv b112, un, un, un, un] [(.ref b2), (.int p2), (.ref b112)])) rfl (hb hby at_90) t_ k_) ?_
    show Go p.tables e below G (T187.setTop (mkF m 93 #[iv p0, iv p1, iv p2, iv p3, iv p4, iv p5, iv (3 : Int32), rv b2, rv b112, un, un, un, un] [(.long (2 : Int64)), (.ref b2), (.int p2), (.ref b112)]))
    obtain ⟨cq194, kq194, q194a, q194b, q194c⟩ := isOf hZ rfl Et187
    obtain ⟨_, _, ⟨T194, L194, k194, n194⟩, -, X194, ⟨Lc194, hQ194, l194, y194, z194⟩, st194⟩ := X187.virtualBack hx (y := yn35) (z := yn35) hown (mvT hZ (wm hw 220 rfl)) (mvT hZ (wm hw 221 rfl)) (notFace_of_selects (args := #[]) (mvT hZ (wm hw 223 rfl))) (mvT hZ (wm hw 223 rfl)) (mvT hZ (wm hw 222 rfl)) (by decide) (backOf (W := 0) (rm30 l Z a0 hw [] b112 p2 b2 (2 : Int64) (ins (ins (fun _ => false) p0) p1) n2 T187.heap n0 Z187 Tb187 f189 (by omega)) hZ (wm hw 224 rfl) (wm hw 215 rfl) (by decide) (by decide)) q194a q194c (g := (mkF m 93 #[iv p0, iv p1, iv p2, iv p3, iv p4, iv p5, iv (3 : Int32), rv b2, rv b112, un, un, un, un] [(.long (2 : Int64)), (.ref b2), (.int p2), (.ref b112)])) rfl (by rw [hml]; rfl) (Steps.refl _) (argsL := [(.int p2), (.ref b2), (.long (2 : Int64))]) (rest := []) (lenOf pd_24 rfl) rfl (by show 2 * 0 + _ ≤ _; exact Nat.le_of_eq rfl) (hb hby at_93) (fun _ _ => ⟨rfl, rfl, (by decide : 26 + 5 ≤ _), (by decide : 291 + 40 ≤ _)⟩)
    dsimp only [Pt.U, Pt.locs, Pt.cells, Pt.slots] at X194 l194 y194 z194 st194 hQ194
    subst l194 y194 z194
    obtain ⟨rfl, Nq194, ws194, Kc194, Eh194, Tb194⟩ := hQ194
    have N194 := Fr.app N187 Nq194
    have f195 := f188.keep Kc194
    have f196 := f189.keep Kc194
    have f197 := f190.keep Kc194
    have f198 := f191.keep Kc194
    have f199 := f192.keep Kc194
    have f200 := Et187.keep Kc194
    have Z194 : n0 ≤ T194.heap.size := Nat.le_trans Z187 Kc194.1
    obtain ⟨n3, hn3⟩ : ∃ z : Nat, z = (if (ins (ins (fun _ => false) p0) p1) p2 = true then n2 else n2 + 1) := ⟨_, rfl⟩
    rw [← hn3] at Tb194
    have hl3' : 1 ≤ n3 ∧ n3 ≤ 3 := by rw [hn3]; split <;> omega
    have Et194 := (Tab.cap Tb194).1
    refine Go.stp (fun t_ k_ => st194.trans k_) ?_
    show Go p.tables e below G (T194.setTop (mkF m 96 #[iv p0, iv p1, iv p2, iv p3, iv p4, iv p5, iv (3 : Int32), rv b2, rv b112, un, un, un, un] []))
    refine ziload X194 hx (hb hby at_96) rfl ?_
    refine ziconst X194 hx (hb hby at_98) (z := (4 : Int32)) rfl ?_
    refine zicmpYes X194 hx (pc' := 113) (hb hby at_99) (tlt (by decide : (3 : Int32) < (4 : Int32))).1 (by decide) (by decide) ?_
    refine ziload X194 hx (hb hby at_113) rfl ?_
    refine ziconst X194 hx (hb hby at_115) (z := (5 : Int32)) rfl ?_
    refine zicmpYes X194 hx (pc' := 131) (hb hby at_116) (tlt (by decide : (3 : Int32) < (5 : Int32))).1 (by decide) (by decide) ?_
    refine ziconst X194 hx (hb hby at_131) (z := (0 : Int32)) rfl ?_
    refine zistore X194 hx (l' := #[iv p0, iv p1, iv p2, iv p3, iv p4, iv p5, iv (3 : Int32), rv b2, rv b112, iv (0 : Int32), un, un, un]) (hb hby at_132) rfl ?_
    refine ziload X194 hx (hb hby at_134) rfl ?_
    refine ziconst X194 hx (hb hby at_136) (z := (1 : Int32)) rfl ?_
    refine zicmpNo X194 hx (hb hby at_137) (flt (by decide : ¬ ((3 : Int32) < (1 : Int32)))).1 ?_
    refine ziconst X194 hx (hb hby at_140) (z := (1 : Int32)) rfl ?_
    refine zistore X194 hx (l' := #[iv p0, iv p1, iv p2, iv p3, iv p4, iv p5, iv (3 : Int32), rv b2, rv b112, iv (1 : Int32), un, un, un]) (hb hby at_141) rfl ?_
    refine ziload X194 hx (hb hby at_143) rfl ?_
    refine ziconst X194 hx (hb hby at_145) (z := (2 : Int32)) rfl ?_
    refine zicmpNo X194 hx (hb hby at_146) (flt (by decide : ¬ ((3 : Int32) < (2 : Int32)))).1 ?_
    refine ziloadN X194 hx (hb hby at_149) rfl ?_
    refine ziloadN X194 hx (hb hby at_150) rfl ?_
    suffices J201 : ∀ (d2 : Int32), (((p1 = p0) ∧ d2 = (1 : Int32)) ∨ (¬ (p1 = p0) ∧ d2 = ((1 : Int32) + (1 : Int32)))) → Go p.tables e below G (T194.setTop (mkF m 157 #[iv p0, iv p1, iv p2, iv p3, iv p4, iv p5, iv (3 : Int32), rv b2, rv b112, iv d2, un, un, un] [])) by
      by_cases hc151 : p1 = p0
      · refine zicmpYes X194 hx (pc' := 157) (hb hby at_151) (teq hc151).1 (by decide) (by decide) ?_
        exact J201 _ (Or.inl ⟨hc151, rfl⟩)
      · refine zicmpNo X194 hx (hb hby at_151) (feq hc151).1 ?_
        refine ziinc X194 hx (l' := #[iv p0, iv p1, iv p2, iv p3, iv p4, iv p5, iv (3 : Int32), rv b2, rv b112, iv ((1 : Int32) + (1 : Int32)), un, un, un]) (hb hby at_154) rfl rfl ?_
        exact J201 _ (Or.inr ⟨hc151, rfl⟩)
    intro d2 hj157
    have hd2 : d2 = own_i n2 := by
      rcases hj157 with ⟨q0, hq⟩ | ⟨q0, hq⟩
      · rw [hq, hn2, if_pos (by simp [ins, q0])]
        exact hd1
      · rw [hq, hn2, if_neg (by simp [ins, q0])]
        exact congrArg (fun z => z + (1 : Int32)) hd1
    refine ziload X194 hx (hb hby at_157) rfl ?_
    refine ziconst X194 hx (hb hby at_159) (z := (3 : Int32)) rfl ?_
    refine zicmpNo X194 hx (hb hby at_160) (flt (by decide : ¬ ((3 : Int32) < (3 : Int32)))).1 ?_
    refine ziloadN X194 hx (hb hby at_163) rfl ?_
    refine ziloadN X194 hx (hb hby at_164) rfl ?_
    suffices J202 : ∀ (d3 : Int32), (((p2 = p0) ∧ d3 = d2) ∨ (¬ (p2 = p0) ∧ (p2 = p1) ∧ d3 = d2) ∨ (¬ (p2 = p0) ∧ ¬ (p2 = p1) ∧ d3 = (d2 + (1 : Int32)))) → Go p.tables e below G (T194.setTop (mkF m 176 #[iv p0, iv p1, iv p2, iv p3, iv p4, iv p5, iv (3 : Int32), rv b2, rv b112, iv d3, un, un, un] [])) by
      by_cases hc165 : p2 = p0
      · refine zicmpYes X194 hx (pc' := 176) (hb hby at_165) (teq hc165).1 (by decide) (by decide) ?_
        exact J202 _ (Or.inl ⟨hc165, rfl⟩)
      · refine zicmpNo X194 hx (hb hby at_165) (feq hc165).1 ?_
        refine ziloadN X194 hx (hb hby at_168) rfl ?_
        refine ziloadN X194 hx (hb hby at_169) rfl ?_
        by_cases hc170 : p2 = p1
        · refine zicmpYes X194 hx (pc' := 176) (hb hby at_170) (teq hc170).1 (by decide) (by decide) ?_
          exact J202 _ (Or.inr (Or.inl ⟨hc165, hc170, rfl⟩))
        · refine zicmpNo X194 hx (hb hby at_170) (feq hc170).1 ?_
          refine ziinc X194 hx (l' := #[iv p0, iv p1, iv p2, iv p3, iv p4, iv p5, iv (3 : Int32), rv b2, rv b112, iv (d2 + (1 : Int32)), un, un, un]) (hb hby at_173) rfl rfl ?_
          exact J202 _ (Or.inr (Or.inr ⟨hc165, hc170, rfl⟩))
    intro d3 hj176
    have hd3 : d3 = own_i n3 := by
      rcases hj176 with ⟨q0, hq⟩ | ⟨q0, q1, hq⟩ | ⟨q0, q1, hq⟩
      · rw [hq, hn3, if_pos (by simp [ins, q0])]
        exact hd2
      · rw [hq, hn3, if_pos (by simp [ins, q1])]
        exact hd2
      · rw [hq, hn3, if_neg (by simp [ins, q0, q1])]
        exact congrArg (fun z => z + (1 : Int32)) hd2
    refine ziload X194 hx (hb hby at_176) rfl ?_
    refine ziconst X194 hx (hb hby at_178) (z := (4 : Int32)) rfl ?_
    refine zicmpYes X194 hx (pc' := 200) (hb hby at_179) (tlt (by decide : (3 : Int32) < (4 : Int32))).1 (by decide) (by decide) ?_
    refine ziload X194 hx (hb hby at_200) rfl ?_
    refine ziconst X194 hx (hb hby at_202) (z := (5 : Int32)) rfl ?_
    refine zicmpYes X194 hx (pc' := 233) (hb hby at_203) (tlt (by decide : (3 : Int32) < (5 : Int32))).1 (by decide) (by decide) ?_
    refine ziload X194 hx (hb hby at_233) rfl ?_
    have hd235 : ¬ (d3 = (0 : Int32)) := (by rw [hd3]; exact own_ine (by omega) (by omega))
    refine zifYes X194 hx (pc' := 242) (hb hby at_235) ((if0 _ _).trans (feq hd235).2) (by decide) (by decide) ?_
    refine ziload X194 hx (hb hby at_242) rfl ?_
    refine ziconst X194 hx (hb hby at_244) (z := (3 : Int32)) rfl ?_
    suffices J203 : ∀ (ex : Int32), ((((3 : Int32) < d3) ∧ ex = (8 : Int32)) ∨ (¬ ((3 : Int32) < d3) ∧ ex = (4 : Int32))) → Go p.tables e below G (T194.setTop (mkF m 254 #[iv p0, iv p1, iv p2, iv p3, iv p4, iv p5, iv (3 : Int32), rv b2, rv b112, iv d3, un, un, un] [(.int ex)])) by
      by_cases hc245 : (3 : Int32) < d3
      · refine zicmpYes X194 hx (pc' := 252) (hb hby at_245) (tlt hc245).2.2.1 (by decide) (by decide) ?_
        refine zbipush X194 hx (hb hby at_252) (z := (8 : Int32)) rfl ?_
        exact J203 _ (Or.inl ⟨hc245, rfl⟩)
      · refine zicmpNo X194 hx (hb hby at_245) (flt hc245).2.2.1 ?_
        refine ziconst X194 hx (hb hby at_248) (z := (4 : Int32)) rfl ?_
        refine zgoto X194 hx (pc' := 254) (hb hby at_249) (by decide) (by decide) ?_
        exact J203 _ (Or.inr ⟨hc245, rfl⟩)
    intro ex hj254
    have hex : ex = own_cap n3 := by
      rcases hj254 with ⟨h1, h2⟩ | ⟨h1, h2⟩
      · rw [hd3] at h1; rw [h2]; exact own_c8 h1 (by omega) (by omega)
      · rw [hd3] at h1; rw [h2]; exact own_c4 h1 (by omega) (by omega)
    refine zistore X194 hx (l' := #[iv p0, iv p1, iv p2, iv p3, iv p4, iv p5, iv (3 : Int32), rv b2, rv b112, iv d3, iv ex, un, un]) (hb hby at_254) rfl ?_
    refine zaload X194 hx (hb hby at_256) rfl rfl ?_
    obtain ⟨cq204, kq204, q204a, q204b, q204c⟩ := isOf hZ rfl Et194
    obtain ⟨_, _, ⟨T204, L204, k204, n204⟩, -, X204, ⟨Lc204, hQ204, l204, y204, z204⟩, st204⟩ := X194.virtualBack hx (y := yn38) (z := yn38) hown (mvT hZ (wm hw 269 rfl)) (mvT hZ (wm hw 270 rfl)) (notFace_of_selects (args := #[]) (mvT hZ (wm hw 272 rfl))) (mvT hZ (wm hw 272 rfl)) (mvT hZ (wm hw 271 rfl)) (by decide) (backOf (W := 0) (rm37 l Z a0 hw [] b112 n3 T194.heap n0 Z194 (Tab.cap Tb194)) hZ (wm hw 273 rfl) (wm hw 215 rfl) (by decide) (by decide)) q204a q204c (g := (mkF m 258 #[iv p0, iv p1, iv p2, iv p3, iv p4, iv p5, iv (3 : Int32), rv b2, rv b112, iv d3, iv ex, un, un] [(.ref b112)])) rfl (by rw [hml]; rfl) (Steps.refl _) (argsL := []) (rest := []) (lenOf pd_9 rfl) rfl (by show 2 * 0 + _ ≤ _; exact Nat.le_of_eq rfl) (hb hby at_258) (fun _ _ => ⟨rfl, rfl, (by decide : 31 + 0 ≤ _), (by decide : 331 + 0 ≤ _)⟩)
    dsimp only [Pt.U, Pt.locs, Pt.cells, Pt.slots] at X204 l204 y204 z204 st204 hQ204
    subst l204 y204 z204
    obtain ⟨rfl, Nq204, e204⟩ := hQ204
    have N204 := Fr.app N194 Nq204
    refine Go.stp (fun t_ k_ => st204.trans k_) ?_
    show Go p.tables e below G (T204.setTop (mkF m 261 #[iv p0, iv p1, iv p2, iv p3, iv p4, iv p5, iv (3 : Int32), rv b2, rv b112, iv d3, iv ex, un, un] [(.int (own_cap n3))]))
    refine ziload X204 hx (hb hby at_261) rfl ?_
    have hd263 : (own_cap n3) = ex := hex.symm
    refine zicmpYes X204 hx (pc' := 268) (hb hby at_263) (teq hd263).1 (by decide) (by decide) ?_
    refine ziload X204 hx (hb hby at_268) rfl ?_
    refine zifYes X204 hx (pc' := 275) (hb hby at_270) ((if0 _ _).trans (feq (by decide : ¬ ((3 : Int32) = (0 : Int32)))).2) (by decide) (by decide) ?_
    refine zaload X204 hx (hb hby at_275) rfl rfl ?_
    refine ziloadN X204 hx (hb hby at_277) rfl ?_
    obtain ⟨cq205, kq205, q205a, q205b, q205c⟩ := isOf hZ e204 Et194
    obtain ⟨_, _, ⟨T205, L205, k205, n205⟩, -, X205, ⟨Lc205, hQ205, l205, y205, z205⟩, st205⟩ := X204.virtualBack hx (y := yn37) (z := yn37) hown (mvT hZ (wm hw 274 rfl)) (mvT hZ (wm hw 275 rfl)) (notFace_of_selects (args := #[]) (mvT hZ (wm hw 277 rfl))) (mvT hZ (wm hw 277 rfl)) (mvT hZ (wm hw 276 rfl)) (by decide) (backOf (W := 0) (rm38 l Z a0 hw [] b112 p0 b2 (ins (ins (ins (fun _ => false) p0) p1) p2) n3 T194.heap n0 Z194 Tb194 (by simp [ins])) hZ (wm hw 278 rfl) (wm hw 215 rfl) (by decide) (by decide)) q205a q205c (g := (mkF m 278 #[iv p0, iv p1, iv p2, iv p3, iv p4, iv p5, iv (3 : Int32), rv b2, rv b112, iv d3, iv ex, un, un] [(.int p0), (.ref b112)])) rfl (by rw [hml]; rfl) (Steps.refl _) (argsL := [(.int p0)]) (rest := []) (lenOf pd_25 rfl) rfl (by show 2 * 0 + _ ≤ _; exact Nat.le_of_eq rfl) (hb hby at_278) (fun _ _ => ⟨rfl, e204, (by decide : 31 + 5 ≤ _), (by decide : 331 + 20 ≤ _)⟩)
    dsimp only [Pt.U, Pt.locs, Pt.cells, Pt.slots] at X205 l205 y205 z205 st205 hQ205
    subst l205 y205 z205
    obtain ⟨z205, rfl, Nq205, ws205, Kc205, Cp205⟩ := hQ205
    have N205 := Fr.app N204 Nq205
    have f206 := f195.keep Kc205
    have f207 := f196.keep Kc205
    have f208 := f197.keep Kc205
    have f209 := f198.keep Kc205
    have f210 := f199.keep Kc205
    have f211 := Et194.keep Kc205
    have Z205 : n0 ≤ T205.heap.size := Nat.le_trans Z194 Kc205.1
    have Et205 := Cp205.1
    refine Go.stp (fun t_ k_ => st205.trans k_) ?_
    show Go p.tables e below G (T205.setTop (mkF m 281 #[iv p0, iv p1, iv p2, iv p3, iv p4, iv p5, iv (3 : Int32), rv b2, rv b112, iv d3, iv ex, un, un] [(.long z205)]))
    show Go p.tables e below G (T205.setTop (mkF m 281 #[iv p0, iv p1, iv p2, iv p3, iv p4, iv p5, iv (3 : Int32), rv b2, rv b112, iv d3, iv ex, un, un] [(.long z205)]))
    refine Go.stp (F' := T205.setTop (mkF m 282 #[iv p0, iv p1, iv p2, iv p3, iv p4, iv p5, iv (3 : Int32), rv b2, rv b112, iv d3, iv ex, un, un] [])) (fun t_ k_ => by jvm_step X205.here [X205.here.top, hx, (hb hby at_281), Value.category]; exact k_) ?_
    refine ziload X205 hx (hb hby at_282) rfl ?_
    refine ziconst X205 hx (hb hby at_284) (z := (1 : Int32)) rfl ?_
    refine zisub X205 hx (hb hby at_285) ?_
    refine zistore X205 hx (l' := #[iv p0, iv p1, iv p2, iv p3, iv p4, iv p5, iv (3 : Int32), rv b2, rv b112, iv d3, iv ex, iv (d3 - (1 : Int32)), un]) (hb hby at_286) rfl ?_
    refine ziload X205 hx (hb hby at_288) rfl ?_
    suffices J212 : ∀ (ea : Int32), ((((d3 - (1 : Int32)) = (0 : Int32)) ∧ ea = (0 : Int32)) ∨ (¬ ((d3 - (1 : Int32)) = (0 : Int32)) ∧ ((d3 - (1 : Int32)) < (4 : Int32)) ∧ ea = (4 : Int32)) ∨ (¬ ((d3 - (1 : Int32)) = (0 : Int32)) ∧ ¬ ((d3 - (1 : Int32)) < (4 : Int32)) ∧ ea = (8 : Int32))) → Go p.tables e below G (T205.setTop (mkF m 309 #[iv p0, iv p1, iv p2, iv p3, iv p4, iv p5, iv (3 : Int32), rv b2, rv b112, iv d3, iv ex, iv (d3 - (1 : Int32)), un] [(.int ea)])) by
      by_cases hc290 : (d3 - (1 : Int32)) = (0 : Int32)
      · refine zifNo X205 hx (hb hby at_290) ((if0 _ _).trans (teq hc290).2) ?_
        refine ziconst X205 hx (hb hby at_293) (z := (0 : Int32)) rfl ?_
        refine zgoto X205 hx (pc' := 309) (hb hby at_294) (by decide) (by decide) ?_
        exact J212 _ (Or.inl ⟨hc290, rfl⟩)
      · refine zifYes X205 hx (pc' := 297) (hb hby at_290) ((if0 _ _).trans (feq hc290).2) (by decide) (by decide) ?_
        refine ziload X205 hx (hb hby at_297) rfl ?_
        refine ziconst X205 hx (hb hby at_299) (z := (4 : Int32)) rfl ?_
        by_cases hc300 : (d3 - (1 : Int32)) < (4 : Int32)
        · refine zicmpYes X205 hx (pc' := 308) (hb hby at_300) (tlt hc300).1 (by decide) (by decide) ?_
          refine ziconst X205 hx (hb hby at_308) (z := (4 : Int32)) rfl ?_
          exact J212 _ (Or.inr (Or.inl ⟨hc290, hc300, rfl⟩))
        · refine zicmpNo X205 hx (hb hby at_300) (flt hc300).1 ?_
          refine zbipush X205 hx (hb hby at_303) (z := (8 : Int32)) rfl ?_
          refine zgoto X205 hx (pc' := 309) (hb hby at_305) (by decide) (by decide) ?_
          exact J212 _ (Or.inr (Or.inr ⟨hc290, hc300, rfl⟩))
    intro ea hj309
    have hea : ea = own_cap (n3 - 1) := by
      rcases hj309 with ⟨h1, h2⟩ | ⟨h1, h3, h2⟩ | ⟨h1, h3, h2⟩
      · rw [hd3] at h1; rw [h2]; exact own_r0 h1 (by omega) (by omega)
      · rw [hd3] at h1 h3; rw [h2]; exact own_r4 h1 h3 (by omega) (by omega)
      · rw [hd3] at h3; rw [h2]; exact own_r8 h3 (by omega) (by omega)
    refine zistore X205 hx (l' := #[iv p0, iv p1, iv p2, iv p3, iv p4, iv p5, iv (3 : Int32), rv b2, rv b112, iv d3, iv ex, iv (d3 - (1 : Int32)), iv ea]) (hb hby at_309) rfl ?_
    refine zaload X205 hx (hb hby at_311) rfl rfl ?_
    obtain ⟨cq213, kq213, q213a, q213b, q213c⟩ := isOf hZ rfl Et205
    obtain ⟨_, _, ⟨T213, L213, k213, n213⟩, -, X213, ⟨Lc213, hQ213, l213, y213, z213⟩, st213⟩ := X205.virtualBack hx (y := yn38) (z := yn38) hown (mvT hZ (wm hw 269 rfl)) (mvT hZ (wm hw 270 rfl)) (notFace_of_selects (args := #[]) (mvT hZ (wm hw 272 rfl))) (mvT hZ (wm hw 272 rfl)) (mvT hZ (wm hw 271 rfl)) (by decide) (backOf (W := 0) (rm37 l Z a0 hw [] b112 (n3 - 1) T205.heap n0 Z205 Cp205) hZ (wm hw 273 rfl) (wm hw 215 rfl) (by decide) (by decide)) q213a q213c (g := (mkF m 313 #[iv p0, iv p1, iv p2, iv p3, iv p4, iv p5, iv (3 : Int32), rv b2, rv b112, iv d3, iv ex, iv (d3 - (1 : Int32)), iv ea] [(.ref b112)])) rfl (by rw [hml]; rfl) (Steps.refl _) (argsL := []) (rest := []) (lenOf pd_9 rfl) rfl (by show 2 * 0 + _ ≤ _; exact Nat.le_of_eq rfl) (hb hby at_313) (fun _ _ => ⟨rfl, rfl, (by decide : 36 + 0 ≤ _), (by decide : 351 + 0 ≤ _)⟩)
    dsimp only [Pt.U, Pt.locs, Pt.cells, Pt.slots] at X213 l213 y213 z213 st213 hQ213
    subst l213 y213 z213
    obtain ⟨rfl, Nq213, e213⟩ := hQ213
    have N213 := Fr.app N205 Nq213
    refine Go.stp (fun t_ k_ => st213.trans k_) ?_
    show Go p.tables e below G (T213.setTop (mkF m 316 #[iv p0, iv p1, iv p2, iv p3, iv p4, iv p5, iv (3 : Int32), rv b2, rv b112, iv d3, iv ex, iv (d3 - (1 : Int32)), iv ea] [(.int (own_cap (n3 - 1)))]))
    refine ziload X213 hx (hb hby at_316) rfl ?_
    have hd318 : (own_cap (n3 - 1)) = ea := hea.symm
    refine zicmpNo X213 hx (hb hby at_318) (teq hd318).2 ?_
    refine ziconst X213 hx (hb hby at_321) (z := (1 : Int32)) rfl ?_
    refine zgoto X213 hx (pc' := 326) (hb hby at_322) (by decide) (by decide) ?_
    obtain ⟨fs, hr, hrun, hended, hEnd⟩ := X213.leaveW hS75 (by rw [e213]; exact f210) (v := some (.int (1 : Int32))) (fun h => by rw [Bd.returns] at h; cases h)
    refine ⟨_, _, retN X213 hx (t := .boolean) Bd.returns (by simp) (hb hby at_326) hr, hrun, hended, hG _ _ _ ?_ ⟨hEnd.1, hEnd.2.1, hEnd.2.2.1, hEnd.2.2.2.mono (by decide) (by decide)⟩⟩
    show Q0 Z p0 p1 p2 p3 p4 p5 kc sf ks ep tu h0 n0 _ T213.heap _
    rw [e213]
    exact ⟨rfl, N213⟩
  · show Go p.tables e below G (T136.setTop (mkF m 49 #[iv p0, iv p1, iv p2, iv p3, iv p4, iv p5, iv (4 : Int32), rv b2, rv b112, un, un, un, un] []))
    refine ziload X136 hx (hb hby at_49) rfl ?_
    refine ziconst X136 hx (hb hby at_51) (z := (1 : Int32)) rfl ?_
    refine zicmpNo X136 hx (hb hby at_52) (flt (by decide : ¬ ((4 : Int32) < (1 : Int32)))).1 ?_
    refine zaload X136 hx (hb hby at_55) rfl rfl ?_
    refine ziloadN X136 hx (hb hby at_57) rfl ?_
    refine zaload X136 hx (hb hby at_58) rfl rfl ?_
    refine zlconst X136 hx (hb hby at_60) (z := (0 : Int64)) rfl ?_
    obtain ⟨cq214, kq214, q214a, q214b, q214c⟩ := isOf hZ e136 A112
    obtain ⟨_, _, ⟨T214, L214, k214, n214⟩, -, X214, ⟨Lc214, hQ214, l214, y214, z214⟩, st214⟩ := X136.virtualBack hx (y := yn35) (z := yn35) hown (mvT hZ (wm hw 220 rfl)) (mvT hZ (wm hw 221 rfl)) (notFace_of_selects (args := #[]) (mvT hZ (wm hw 223 rfl))) (mvT hZ (wm hw 223 rfl)) (mvT hZ (wm hw 222 rfl)) (by decide) (backOf (W := 0) (rm30 l Z a0 hw [] b112 p0 b2 (0 : Int64) (fun _ => false) 0 h112 n0 Z112 TB0 f125 (by omega)) hZ (wm hw 224 rfl) (wm hw 215 rfl) (by decide) (by decide)) q214a q214c (g := (mkF m 61 #[iv p0, iv p1, iv p2, iv p3, iv p4, iv p5, iv (4 : Int32), rv b2, rv b112, un, un, un, un] [(.long (0 : Int64)), (.ref b2), (.int p0), (.ref b112)])) rfl (by rw [hml]; rfl) (Steps.refl _) (argsL := [(.int p0), (.ref b2), (.long (0 : Int64))]) (rest := []) (lenOf pd_24 rfl) rfl (by show 2 * 0 + _ ≤ _; exact Nat.le_of_eq rfl) (hb hby at_61) (fun _ _ => ⟨rfl, e136, (by decide : 16 + 5 ≤ _), (by decide : 211 + 40 ≤ _)⟩)
    dsimp only [Pt.U, Pt.locs, Pt.cells, Pt.slots] at X214 l214 y214 z214 st214 hQ214
    subst l214 y214 z214
    obtain ⟨rfl, Nq214, ws214, Kc214, Eh214, Tb214⟩ := hQ214
    have N214 := Fr.app N136 Nq214
    have f215 := f122.keep Kc214
    have f216 := f125.keep Kc214
    have f217 := f126.keep Kc214
    have f218 := f127.keep Kc214
    have f219 := f129.keep Kc214
    have f220 := A112.keep Kc214
    have Z214 : n0 ≤ T214.heap.size := Nat.le_trans Z112 Kc214.1
    obtain ⟨n1, hn1⟩ : ∃ z : Nat, z = (if (fun _ => false) p0 = true then 0 else 0 + 1) := ⟨_, rfl⟩
    rw [← hn1] at Tb214
    have hl1 : n1 = 1 := by rw [hn1]; rfl
    have hl1' : 1 ≤ n1 ∧ n1 ≤ 1 := by omega
    have hd1 : (1 : Int32) = own_i n1 := by rw [hl1]; decide
    have Et214 := (Tab.cap Tb214).1
    refine Go.stp (fun t_ k_ => st214.trans k_) ?_
    show Go p.tables e below G (T214.setTop (mkF m 64 #[iv p0, iv p1, iv p2, iv p3, iv p4, iv p5, iv (4 : Int32), rv b2, rv b112, un, un, un, un] []))
    refine ziload X214 hx (hb hby at_64) rfl ?_
    refine ziconst X214 hx (hb hby at_66) (z := (2 : Int32)) rfl ?_
    refine zicmpNo X214 hx (hb hby at_67) (flt (by decide : ¬ ((4 : Int32) < (2 : Int32)))).1 ?_
    refine zaload X214 hx (hb hby at_70) rfl rfl ?_
    refine ziloadN X214 hx (hb hby at_72) rfl ?_
    refine zaload X214 hx (hb hby at_73) rfl rfl ?_
    refine zlconst X214 hx (hb hby at_75) (z := (1 : Int64)) rfl ?_
    obtain ⟨cq221, kq221, q221a, q221b, q221c⟩ := isOf hZ rfl Et214
    obtain ⟨_, _, ⟨T221, L221, k221, n221⟩, -, X221, ⟨Lc221, hQ221, l221, y221, z221⟩, st221⟩ := X214.virtualBack hx (y := yn35) (z := yn35) hown (mvT hZ (wm hw 220 rfl)) (mvT hZ (wm hw 221 rfl)) (notFace_of_selects (args := #[]) (mvT hZ (wm hw 223 rfl))) (mvT hZ (wm hw 223 rfl)) (mvT hZ (wm hw 222 rfl)) (by decide) (backOf (W := 0) (rm30 l Z a0 hw [] b112 p1 b2 (1 : Int64) (ins (fun _ => false) p0) n1 T214.heap n0 Z214 Tb214 f216 (by omega)) hZ (wm hw 224 rfl) (wm hw 215 rfl) (by decide) (by decide)) q221a q221c (g := (mkF m 76 #[iv p0, iv p1, iv p2, iv p3, iv p4, iv p5, iv (4 : Int32), rv b2, rv b112, un, un, un, un] [(.long (1 : Int64)), (.ref b2), (.int p1), (.ref b112)])) rfl (by rw [hml]; rfl) (Steps.refl _) (argsL := [(.int p1), (.ref b2), (.long (1 : Int64))]) (rest := []) (lenOf pd_24 rfl) rfl (by show 2 * 0 + _ ≤ _; exact Nat.le_of_eq rfl) (hb hby at_76) (fun _ _ => ⟨rfl, rfl, (by decide : 21 + 5 ≤ _), (by decide : 251 + 40 ≤ _)⟩)
    dsimp only [Pt.U, Pt.locs, Pt.cells, Pt.slots] at X221 l221 y221 z221 st221 hQ221
    subst l221 y221 z221
    obtain ⟨rfl, Nq221, ws221, Kc221, Eh221, Tb221⟩ := hQ221
    have N221 := Fr.app N214 Nq221
    have f222 := f215.keep Kc221
    have f223 := f216.keep Kc221
    have f224 := f217.keep Kc221
    have f225 := f218.keep Kc221
    have f226 := f219.keep Kc221
    have f227 := Et214.keep Kc221
    have Z221 : n0 ≤ T221.heap.size := Nat.le_trans Z214 Kc221.1
    obtain ⟨n2, hn2⟩ : ∃ z : Nat, z = (if (ins (fun _ => false) p0) p1 = true then n1 else n1 + 1) := ⟨_, rfl⟩
    rw [← hn2] at Tb221
    have hl2' : 1 ≤ n2 ∧ n2 ≤ 2 := by rw [hn2]; split <;> omega
    have Et221 := (Tab.cap Tb221).1
    refine Go.stp (fun t_ k_ => st221.trans k_) ?_
    show Go p.tables e below G (T221.setTop (mkF m 79 #[iv p0, iv p1, iv p2, iv p3, iv p4, iv p5, iv (4 : Int32), rv b2, rv b112, un, un, un, un] []))
    refine ziload X221 hx (hb hby at_79) rfl ?_
    refine ziconst X221 hx (hb hby at_81) (z := (3 : Int32)) rfl ?_
    refine zicmpNo X221 hx (hb hby at_82) (flt (by decide : ¬ ((4 : Int32) < (3 : Int32)))).1 ?_
    refine zaload X221 hx (hb hby at_85) rfl rfl ?_
    refine ziloadN X221 hx (hb hby at_87) rfl ?_
    refine zaload X221 hx (hb hby at_88) rfl rfl ?_
    refine Go.stp (fun t_ k_ => X221.ldc2Long hx hown (mvT hZ (wm hw 268 rfl)) (g := (mkF m 90 #[iv p0, iv p1, iv p2, iv p3, iv p4, iv p5, iv (4 : Int32), rv b2, rv b112, un, un, un, un] [(.ref b2), (.int p2), (.ref b112)])) rfl (hb hby at_90) t_ k_) ?_
    show Go p.tables e below G (T221.setTop (mkF m 93 #[iv p0, iv p1, iv p2, iv p3, iv p4, iv p5, iv (4 : Int32), rv b2, rv b112, un, un, un, un] [(.long (2 : Int64)), (.ref b2), (.int p2), (.ref b112)]))
    obtain ⟨cq228, kq228, q228a, q228b, q228c⟩ := isOf hZ rfl Et221
    obtain ⟨_, _, ⟨T228, L228, k228, n228⟩, -, X228, ⟨Lc228, hQ228, l228, y228, z228⟩, st228⟩ := X221.virtualBack hx (y := yn35) (z := yn35) hown (mvT hZ (wm hw 220 rfl)) (mvT hZ (wm hw 221 rfl)) (notFace_of_selects (args := #[]) (mvT hZ (wm hw 223 rfl))) (mvT hZ (wm hw 223 rfl)) (mvT hZ (wm hw 222 rfl)) (by decide) (backOf (W := 0) (rm30 l Z a0 hw [] b112 p2 b2 (2 : Int64) (ins (ins (fun _ => false) p0) p1) n2 T221.heap n0 Z221 Tb221 f223 (by omega)) hZ (wm hw 224 rfl) (wm hw 215 rfl) (by decide) (by decide)) q228a q228c (g := (mkF m 93 #[iv p0, iv p1, iv p2, iv p3, iv p4, iv p5, iv (4 : Int32), rv b2, rv b112, un, un, un, un] [(.long (2 : Int64)), (.ref b2), (.int p2), (.ref b112)])) rfl (by rw [hml]; rfl) (Steps.refl _) (argsL := [(.int p2), (.ref b2), (.long (2 : Int64))]) (rest := []) (lenOf pd_24 rfl) rfl (by show 2 * 0 + _ ≤ _; exact Nat.le_of_eq rfl) (hb hby at_93) (fun _ _ => ⟨rfl, rfl, (by decide : 26 + 5 ≤ _), (by decide : 291 + 40 ≤ _)⟩)
    dsimp only [Pt.U, Pt.locs, Pt.cells, Pt.slots] at X228 l228 y228 z228 st228 hQ228
    subst l228 y228 z228
    obtain ⟨rfl, Nq228, ws228, Kc228, Eh228, Tb228⟩ := hQ228
    have N228 := Fr.app N221 Nq228
    have f229 := f222.keep Kc228
    have f230 := f223.keep Kc228
    have f231 := f224.keep Kc228
    have f232 := f225.keep Kc228
    have f233 := f226.keep Kc228
    have f234 := Et221.keep Kc228
    have Z228 : n0 ≤ T228.heap.size := Nat.le_trans Z221 Kc228.1
    obtain ⟨n3, hn3⟩ : ∃ z : Nat, z = (if (ins (ins (fun _ => false) p0) p1) p2 = true then n2 else n2 + 1) := ⟨_, rfl⟩
    rw [← hn3] at Tb228
    have hl3' : 1 ≤ n3 ∧ n3 ≤ 3 := by rw [hn3]; split <;> omega
    have Et228 := (Tab.cap Tb228).1
    refine Go.stp (fun t_ k_ => st228.trans k_) ?_
    show Go p.tables e below G (T228.setTop (mkF m 96 #[iv p0, iv p1, iv p2, iv p3, iv p4, iv p5, iv (4 : Int32), rv b2, rv b112, un, un, un, un] []))
    refine ziload X228 hx (hb hby at_96) rfl ?_
    refine ziconst X228 hx (hb hby at_98) (z := (4 : Int32)) rfl ?_
    refine zicmpNo X228 hx (hb hby at_99) (flt (by decide : ¬ ((4 : Int32) < (4 : Int32)))).1 ?_
    refine zaload X228 hx (hb hby at_102) rfl rfl ?_
    refine ziloadN X228 hx (hb hby at_104) rfl ?_
    refine zaload X228 hx (hb hby at_105) rfl rfl ?_
    refine Go.stp (fun t_ k_ => X228.ldc2Long hx hown (mvT hZ (wm hw 287 rfl)) (g := (mkF m 107 #[iv p0, iv p1, iv p2, iv p3, iv p4, iv p5, iv (4 : Int32), rv b2, rv b112, un, un, un, un] [(.ref b2), (.int p3), (.ref b112)])) rfl (hb hby at_107) t_ k_) ?_
    show Go p.tables e below G (T228.setTop (mkF m 110 #[iv p0, iv p1, iv p2, iv p3, iv p4, iv p5, iv (4 : Int32), rv b2, rv b112, un, un, un, un] [(.long (3 : Int64)), (.ref b2), (.int p3), (.ref b112)]))
    obtain ⟨cq235, kq235, q235a, q235b, q235c⟩ := isOf hZ rfl Et228
    obtain ⟨_, _, ⟨T235, L235, k235, n235⟩, -, X235, ⟨Lc235, hQ235, l235, y235, z235⟩, st235⟩ := X228.virtualBack hx (y := yn35) (z := yn35) hown (mvT hZ (wm hw 220 rfl)) (mvT hZ (wm hw 221 rfl)) (notFace_of_selects (args := #[]) (mvT hZ (wm hw 223 rfl))) (mvT hZ (wm hw 223 rfl)) (mvT hZ (wm hw 222 rfl)) (by decide) (backOf (W := 0) (rm30 l Z a0 hw [] b112 p3 b2 (3 : Int64) (ins (ins (ins (fun _ => false) p0) p1) p2) n3 T228.heap n0 Z228 Tb228 f230 (by omega)) hZ (wm hw 224 rfl) (wm hw 215 rfl) (by decide) (by decide)) q235a q235c (g := (mkF m 110 #[iv p0, iv p1, iv p2, iv p3, iv p4, iv p5, iv (4 : Int32), rv b2, rv b112, un, un, un, un] [(.long (3 : Int64)), (.ref b2), (.int p3), (.ref b112)])) rfl (by rw [hml]; rfl) (Steps.refl _) (argsL := [(.int p3), (.ref b2), (.long (3 : Int64))]) (rest := []) (lenOf pd_24 rfl) rfl (by show 2 * 0 + _ ≤ _; exact Nat.le_of_eq rfl) (hb hby at_110) (fun _ _ => ⟨rfl, rfl, (by decide : 31 + 5 ≤ _), (by decide : 331 + 40 ≤ _)⟩)
    dsimp only [Pt.U, Pt.locs, Pt.cells, Pt.slots] at X235 l235 y235 z235 st235 hQ235
    subst l235 y235 z235
    obtain ⟨rfl, Nq235, ws235, Kc235, Eh235, Tb235⟩ := hQ235
    have N235 := Fr.app N228 Nq235
    have f236 := f229.keep Kc235
    have f237 := f230.keep Kc235
    have f238 := f231.keep Kc235
    have f239 := f232.keep Kc235
    have f240 := f233.keep Kc235
    have f241 := Et228.keep Kc235
    have Z235 : n0 ≤ T235.heap.size := Nat.le_trans Z228 Kc235.1
    obtain ⟨n4, hn4⟩ : ∃ z : Nat, z = (if (ins (ins (ins (fun _ => false) p0) p1) p2) p3 = true then n3 else n3 + 1) := ⟨_, rfl⟩
    rw [← hn4] at Tb235
    have hl4' : 1 ≤ n4 ∧ n4 ≤ 4 := by rw [hn4]; split <;> omega
    have Et235 := (Tab.cap Tb235).1
    refine Go.stp (fun t_ k_ => st235.trans k_) ?_
    show Go p.tables e below G (T235.setTop (mkF m 113 #[iv p0, iv p1, iv p2, iv p3, iv p4, iv p5, iv (4 : Int32), rv b2, rv b112, un, un, un, un] []))
    refine ziload X235 hx (hb hby at_113) rfl ?_
    refine ziconst X235 hx (hb hby at_115) (z := (5 : Int32)) rfl ?_
    refine zicmpYes X235 hx (pc' := 131) (hb hby at_116) (tlt (by decide : (4 : Int32) < (5 : Int32))).1 (by decide) (by decide) ?_
    refine ziconst X235 hx (hb hby at_131) (z := (0 : Int32)) rfl ?_
    refine zistore X235 hx (l' := #[iv p0, iv p1, iv p2, iv p3, iv p4, iv p5, iv (4 : Int32), rv b2, rv b112, iv (0 : Int32), un, un, un]) (hb hby at_132) rfl ?_
    refine ziload X235 hx (hb hby at_134) rfl ?_
    refine ziconst X235 hx (hb hby at_136) (z := (1 : Int32)) rfl ?_
    refine zicmpNo X235 hx (hb hby at_137) (flt (by decide : ¬ ((4 : Int32) < (1 : Int32)))).1 ?_
    refine ziconst X235 hx (hb hby at_140) (z := (1 : Int32)) rfl ?_
    refine zistore X235 hx (l' := #[iv p0, iv p1, iv p2, iv p3, iv p4, iv p5, iv (4 : Int32), rv b2, rv b112, iv (1 : Int32), un, un, un]) (hb hby at_141) rfl ?_
    refine ziload X235 hx (hb hby at_143) rfl ?_
    refine ziconst X235 hx (hb hby at_145) (z := (2 : Int32)) rfl ?_
    refine zicmpNo X235 hx (hb hby at_146) (flt (by decide : ¬ ((4 : Int32) < (2 : Int32)))).1 ?_
    refine ziloadN X235 hx (hb hby at_149) rfl ?_
    refine ziloadN X235 hx (hb hby at_150) rfl ?_
    suffices J242 : ∀ (d2 : Int32), (((p1 = p0) ∧ d2 = (1 : Int32)) ∨ (¬ (p1 = p0) ∧ d2 = ((1 : Int32) + (1 : Int32)))) → Go p.tables e below G (T235.setTop (mkF m 157 #[iv p0, iv p1, iv p2, iv p3, iv p4, iv p5, iv (4 : Int32), rv b2, rv b112, iv d2, un, un, un] [])) by
      by_cases hc151 : p1 = p0
      · refine zicmpYes X235 hx (pc' := 157) (hb hby at_151) (teq hc151).1 (by decide) (by decide) ?_
        exact J242 _ (Or.inl ⟨hc151, rfl⟩)
      · refine zicmpNo X235 hx (hb hby at_151) (feq hc151).1 ?_
        refine ziinc X235 hx (l' := #[iv p0, iv p1, iv p2, iv p3, iv p4, iv p5, iv (4 : Int32), rv b2, rv b112, iv ((1 : Int32) + (1 : Int32)), un, un, un]) (hb hby at_154) rfl rfl ?_
        exact J242 _ (Or.inr ⟨hc151, rfl⟩)
    intro d2 hj157
    have hd2 : d2 = own_i n2 := by
      rcases hj157 with ⟨q0, hq⟩ | ⟨q0, hq⟩
      · rw [hq, hn2, if_pos (by simp [ins, q0])]
        exact hd1
      · rw [hq, hn2, if_neg (by simp [ins, q0])]
        exact congrArg (fun z => z + (1 : Int32)) hd1
    refine ziload X235 hx (hb hby at_157) rfl ?_
    refine ziconst X235 hx (hb hby at_159) (z := (3 : Int32)) rfl ?_
    refine zicmpNo X235 hx (hb hby at_160) (flt (by decide : ¬ ((4 : Int32) < (3 : Int32)))).1 ?_
    refine ziloadN X235 hx (hb hby at_163) rfl ?_
    refine ziloadN X235 hx (hb hby at_164) rfl ?_
    suffices J243 : ∀ (d3 : Int32), (((p2 = p0) ∧ d3 = d2) ∨ (¬ (p2 = p0) ∧ (p2 = p1) ∧ d3 = d2) ∨ (¬ (p2 = p0) ∧ ¬ (p2 = p1) ∧ d3 = (d2 + (1 : Int32)))) → Go p.tables e below G (T235.setTop (mkF m 176 #[iv p0, iv p1, iv p2, iv p3, iv p4, iv p5, iv (4 : Int32), rv b2, rv b112, iv d3, un, un, un] [])) by
      by_cases hc165 : p2 = p0
      · refine zicmpYes X235 hx (pc' := 176) (hb hby at_165) (teq hc165).1 (by decide) (by decide) ?_
        exact J243 _ (Or.inl ⟨hc165, rfl⟩)
      · refine zicmpNo X235 hx (hb hby at_165) (feq hc165).1 ?_
        refine ziloadN X235 hx (hb hby at_168) rfl ?_
        refine ziloadN X235 hx (hb hby at_169) rfl ?_
        by_cases hc170 : p2 = p1
        · refine zicmpYes X235 hx (pc' := 176) (hb hby at_170) (teq hc170).1 (by decide) (by decide) ?_
          exact J243 _ (Or.inr (Or.inl ⟨hc165, hc170, rfl⟩))
        · refine zicmpNo X235 hx (hb hby at_170) (feq hc170).1 ?_
          refine ziinc X235 hx (l' := #[iv p0, iv p1, iv p2, iv p3, iv p4, iv p5, iv (4 : Int32), rv b2, rv b112, iv (d2 + (1 : Int32)), un, un, un]) (hb hby at_173) rfl rfl ?_
          exact J243 _ (Or.inr (Or.inr ⟨hc165, hc170, rfl⟩))
    intro d3 hj176
    have hd3 : d3 = own_i n3 := by
      rcases hj176 with ⟨q0, hq⟩ | ⟨q0, q1, hq⟩ | ⟨q0, q1, hq⟩
      · rw [hq, hn3, if_pos (by simp [ins, q0])]
        exact hd2
      · rw [hq, hn3, if_pos (by simp [ins, q1])]
        exact hd2
      · rw [hq, hn3, if_neg (by simp [ins, q0, q1])]
        exact congrArg (fun z => z + (1 : Int32)) hd2
    refine ziload X235 hx (hb hby at_176) rfl ?_
    refine ziconst X235 hx (hb hby at_178) (z := (4 : Int32)) rfl ?_
    refine zicmpNo X235 hx (hb hby at_179) (flt (by decide : ¬ ((4 : Int32) < (4 : Int32)))).1 ?_
    refine ziloadN X235 hx (hb hby at_182) rfl ?_
    refine ziloadN X235 hx (hb hby at_183) rfl ?_
    suffices J244 : ∀ (d4 : Int32), (((p3 = p0) ∧ d4 = d3) ∨ (¬ (p3 = p0) ∧ (p3 = p1) ∧ d4 = d3) ∨ (¬ (p3 = p0) ∧ ¬ (p3 = p1) ∧ (p3 = p2) ∧ d4 = d3) ∨ (¬ (p3 = p0) ∧ ¬ (p3 = p1) ∧ ¬ (p3 = p2) ∧ d4 = (d3 + (1 : Int32)))) → Go p.tables e below G (T235.setTop (mkF m 200 #[iv p0, iv p1, iv p2, iv p3, iv p4, iv p5, iv (4 : Int32), rv b2, rv b112, iv d4, un, un, un] [])) by
      by_cases hc184 : p3 = p0
      · refine zicmpYes X235 hx (pc' := 200) (hb hby at_184) (teq hc184).1 (by decide) (by decide) ?_
        exact J244 _ (Or.inl ⟨hc184, rfl⟩)
      · refine zicmpNo X235 hx (hb hby at_184) (feq hc184).1 ?_
        refine ziloadN X235 hx (hb hby at_187) rfl ?_
        refine ziloadN X235 hx (hb hby at_188) rfl ?_
        by_cases hc189 : p3 = p1
        · refine zicmpYes X235 hx (pc' := 200) (hb hby at_189) (teq hc189).1 (by decide) (by decide) ?_
          exact J244 _ (Or.inr (Or.inl ⟨hc184, hc189, rfl⟩))
        · refine zicmpNo X235 hx (hb hby at_189) (feq hc189).1 ?_
          refine ziloadN X235 hx (hb hby at_192) rfl ?_
          refine ziloadN X235 hx (hb hby at_193) rfl ?_
          by_cases hc194 : p3 = p2
          · refine zicmpYes X235 hx (pc' := 200) (hb hby at_194) (teq hc194).1 (by decide) (by decide) ?_
            exact J244 _ (Or.inr (Or.inr (Or.inl ⟨hc184, hc189, hc194, rfl⟩)))
          · refine zicmpNo X235 hx (hb hby at_194) (feq hc194).1 ?_
            refine ziinc X235 hx (l' := #[iv p0, iv p1, iv p2, iv p3, iv p4, iv p5, iv (4 : Int32), rv b2, rv b112, iv (d3 + (1 : Int32)), un, un, un]) (hb hby at_197) rfl rfl ?_
            exact J244 _ (Or.inr (Or.inr (Or.inr ⟨hc184, hc189, hc194, rfl⟩)))
    intro d4 hj200
    have hd4 : d4 = own_i n4 := by
      rcases hj200 with ⟨q0, hq⟩ | ⟨q0, q1, hq⟩ | ⟨q0, q1, q2, hq⟩ | ⟨q0, q1, q2, hq⟩
      · rw [hq, hn4, if_pos (by simp [ins, q0])]
        exact hd3
      · rw [hq, hn4, if_pos (by simp [ins, q1])]
        exact hd3
      · rw [hq, hn4, if_pos (by simp [ins, q2])]
        exact hd3
      · rw [hq, hn4, if_neg (by simp [ins, q0, q1, q2])]
        exact congrArg (fun z => z + (1 : Int32)) hd3
    refine ziload X235 hx (hb hby at_200) rfl ?_
    refine ziconst X235 hx (hb hby at_202) (z := (5 : Int32)) rfl ?_
    refine zicmpYes X235 hx (pc' := 233) (hb hby at_203) (tlt (by decide : (4 : Int32) < (5 : Int32))).1 (by decide) (by decide) ?_
    refine ziload X235 hx (hb hby at_233) rfl ?_
    have hd235 : ¬ (d4 = (0 : Int32)) := (by rw [hd4]; exact own_ine (by omega) (by omega))
    refine zifYes X235 hx (pc' := 242) (hb hby at_235) ((if0 _ _).trans (feq hd235).2) (by decide) (by decide) ?_
    refine ziload X235 hx (hb hby at_242) rfl ?_
    refine ziconst X235 hx (hb hby at_244) (z := (3 : Int32)) rfl ?_
    suffices J245 : ∀ (ex : Int32), ((((3 : Int32) < d4) ∧ ex = (8 : Int32)) ∨ (¬ ((3 : Int32) < d4) ∧ ex = (4 : Int32))) → Go p.tables e below G (T235.setTop (mkF m 254 #[iv p0, iv p1, iv p2, iv p3, iv p4, iv p5, iv (4 : Int32), rv b2, rv b112, iv d4, un, un, un] [(.int ex)])) by
      by_cases hc245 : (3 : Int32) < d4
      · refine zicmpYes X235 hx (pc' := 252) (hb hby at_245) (tlt hc245).2.2.1 (by decide) (by decide) ?_
        refine zbipush X235 hx (hb hby at_252) (z := (8 : Int32)) rfl ?_
        exact J245 _ (Or.inl ⟨hc245, rfl⟩)
      · refine zicmpNo X235 hx (hb hby at_245) (flt hc245).2.2.1 ?_
        refine ziconst X235 hx (hb hby at_248) (z := (4 : Int32)) rfl ?_
        refine zgoto X235 hx (pc' := 254) (hb hby at_249) (by decide) (by decide) ?_
        exact J245 _ (Or.inr ⟨hc245, rfl⟩)
    intro ex hj254
    have hex : ex = own_cap n4 := by
      rcases hj254 with ⟨h1, h2⟩ | ⟨h1, h2⟩
      · rw [hd4] at h1; rw [h2]; exact own_c8 h1 (by omega) (by omega)
      · rw [hd4] at h1; rw [h2]; exact own_c4 h1 (by omega) (by omega)
    refine zistore X235 hx (l' := #[iv p0, iv p1, iv p2, iv p3, iv p4, iv p5, iv (4 : Int32), rv b2, rv b112, iv d4, iv ex, un, un]) (hb hby at_254) rfl ?_
    refine zaload X235 hx (hb hby at_256) rfl rfl ?_
    obtain ⟨cq246, kq246, q246a, q246b, q246c⟩ := isOf hZ rfl Et235
    obtain ⟨_, _, ⟨T246, L246, k246, n246⟩, -, X246, ⟨Lc246, hQ246, l246, y246, z246⟩, st246⟩ := X235.virtualBack hx (y := yn38) (z := yn38) hown (mvT hZ (wm hw 269 rfl)) (mvT hZ (wm hw 270 rfl)) (notFace_of_selects (args := #[]) (mvT hZ (wm hw 272 rfl))) (mvT hZ (wm hw 272 rfl)) (mvT hZ (wm hw 271 rfl)) (by decide) (backOf (W := 0) (rm37 l Z a0 hw [] b112 n4 T235.heap n0 Z235 (Tab.cap Tb235)) hZ (wm hw 273 rfl) (wm hw 215 rfl) (by decide) (by decide)) q246a q246c (g := (mkF m 258 #[iv p0, iv p1, iv p2, iv p3, iv p4, iv p5, iv (4 : Int32), rv b2, rv b112, iv d4, iv ex, un, un] [(.ref b112)])) rfl (by rw [hml]; rfl) (Steps.refl _) (argsL := []) (rest := []) (lenOf pd_9 rfl) rfl (by show 2 * 0 + _ ≤ _; exact Nat.le_of_eq rfl) (hb hby at_258) (fun _ _ => ⟨rfl, rfl, (by decide : 36 + 0 ≤ _), (by decide : 371 + 0 ≤ _)⟩)
    dsimp only [Pt.U, Pt.locs, Pt.cells, Pt.slots] at X246 l246 y246 z246 st246 hQ246
    subst l246 y246 z246
    obtain ⟨rfl, Nq246, e246⟩ := hQ246
    have N246 := Fr.app N235 Nq246
    refine Go.stp (fun t_ k_ => st246.trans k_) ?_
    show Go p.tables e below G (T246.setTop (mkF m 261 #[iv p0, iv p1, iv p2, iv p3, iv p4, iv p5, iv (4 : Int32), rv b2, rv b112, iv d4, iv ex, un, un] [(.int (own_cap n4))]))
    refine ziload X246 hx (hb hby at_261) rfl ?_
    have hd263 : (own_cap n4) = ex := hex.symm
    refine zicmpYes X246 hx (pc' := 268) (hb hby at_263) (teq hd263).1 (by decide) (by decide) ?_
    refine ziload X246 hx (hb hby at_268) rfl ?_
    refine zifYes X246 hx (pc' := 275) (hb hby at_270) ((if0 _ _).trans (feq (by decide : ¬ ((4 : Int32) = (0 : Int32)))).2) (by decide) (by decide) ?_
    refine zaload X246 hx (hb hby at_275) rfl rfl ?_
    refine ziloadN X246 hx (hb hby at_277) rfl ?_
    obtain ⟨cq247, kq247, q247a, q247b, q247c⟩ := isOf hZ e246 Et235
    obtain ⟨_, _, ⟨T247, L247, k247, n247⟩, -, X247, ⟨Lc247, hQ247, l247, y247, z247⟩, st247⟩ := X246.virtualBack hx (y := yn37) (z := yn37) hown (mvT hZ (wm hw 274 rfl)) (mvT hZ (wm hw 275 rfl)) (notFace_of_selects (args := #[]) (mvT hZ (wm hw 277 rfl))) (mvT hZ (wm hw 277 rfl)) (mvT hZ (wm hw 276 rfl)) (by decide) (backOf (W := 0) (rm38 l Z a0 hw [] b112 p0 b2 (ins (ins (ins (ins (fun _ => false) p0) p1) p2) p3) n4 T235.heap n0 Z235 Tb235 (by simp [ins])) hZ (wm hw 278 rfl) (wm hw 215 rfl) (by decide) (by decide)) q247a q247c (g := (mkF m 278 #[iv p0, iv p1, iv p2, iv p3, iv p4, iv p5, iv (4 : Int32), rv b2, rv b112, iv d4, iv ex, un, un] [(.int p0), (.ref b112)])) rfl (by rw [hml]; rfl) (Steps.refl _) (argsL := [(.int p0)]) (rest := []) (lenOf pd_25 rfl) rfl (by show 2 * 0 + _ ≤ _; exact Nat.le_of_eq rfl) (hb hby at_278) (fun _ _ => ⟨rfl, e246, (by decide : 36 + 5 ≤ _), (by decide : 371 + 20 ≤ _)⟩)
    dsimp only [Pt.U, Pt.locs, Pt.cells, Pt.slots] at X247 l247 y247 z247 st247 hQ247
    subst l247 y247 z247
    obtain ⟨z247, rfl, Nq247, ws247, Kc247, Cp247⟩ := hQ247
    have N247 := Fr.app N246 Nq247
    have f248 := f236.keep Kc247
    have f249 := f237.keep Kc247
    have f250 := f238.keep Kc247
    have f251 := f239.keep Kc247
    have f252 := f240.keep Kc247
    have f253 := Et235.keep Kc247
    have Z247 : n0 ≤ T247.heap.size := Nat.le_trans Z235 Kc247.1
    have Et247 := Cp247.1
    refine Go.stp (fun t_ k_ => st247.trans k_) ?_
    show Go p.tables e below G (T247.setTop (mkF m 281 #[iv p0, iv p1, iv p2, iv p3, iv p4, iv p5, iv (4 : Int32), rv b2, rv b112, iv d4, iv ex, un, un] [(.long z247)]))
    show Go p.tables e below G (T247.setTop (mkF m 281 #[iv p0, iv p1, iv p2, iv p3, iv p4, iv p5, iv (4 : Int32), rv b2, rv b112, iv d4, iv ex, un, un] [(.long z247)]))
    refine Go.stp (F' := T247.setTop (mkF m 282 #[iv p0, iv p1, iv p2, iv p3, iv p4, iv p5, iv (4 : Int32), rv b2, rv b112, iv d4, iv ex, un, un] [])) (fun t_ k_ => by jvm_step X247.here [X247.here.top, hx, (hb hby at_281), Value.category]; exact k_) ?_
    refine ziload X247 hx (hb hby at_282) rfl ?_
    refine ziconst X247 hx (hb hby at_284) (z := (1 : Int32)) rfl ?_
    refine zisub X247 hx (hb hby at_285) ?_
    refine zistore X247 hx (l' := #[iv p0, iv p1, iv p2, iv p3, iv p4, iv p5, iv (4 : Int32), rv b2, rv b112, iv d4, iv ex, iv (d4 - (1 : Int32)), un]) (hb hby at_286) rfl ?_
    refine ziload X247 hx (hb hby at_288) rfl ?_
    suffices J254 : ∀ (ea : Int32), ((((d4 - (1 : Int32)) = (0 : Int32)) ∧ ea = (0 : Int32)) ∨ (¬ ((d4 - (1 : Int32)) = (0 : Int32)) ∧ ((d4 - (1 : Int32)) < (4 : Int32)) ∧ ea = (4 : Int32)) ∨ (¬ ((d4 - (1 : Int32)) = (0 : Int32)) ∧ ¬ ((d4 - (1 : Int32)) < (4 : Int32)) ∧ ea = (8 : Int32))) → Go p.tables e below G (T247.setTop (mkF m 309 #[iv p0, iv p1, iv p2, iv p3, iv p4, iv p5, iv (4 : Int32), rv b2, rv b112, iv d4, iv ex, iv (d4 - (1 : Int32)), un] [(.int ea)])) by
      by_cases hc290 : (d4 - (1 : Int32)) = (0 : Int32)
      · refine zifNo X247 hx (hb hby at_290) ((if0 _ _).trans (teq hc290).2) ?_
        refine ziconst X247 hx (hb hby at_293) (z := (0 : Int32)) rfl ?_
        refine zgoto X247 hx (pc' := 309) (hb hby at_294) (by decide) (by decide) ?_
        exact J254 _ (Or.inl ⟨hc290, rfl⟩)
      · refine zifYes X247 hx (pc' := 297) (hb hby at_290) ((if0 _ _).trans (feq hc290).2) (by decide) (by decide) ?_
        refine ziload X247 hx (hb hby at_297) rfl ?_
        refine ziconst X247 hx (hb hby at_299) (z := (4 : Int32)) rfl ?_
        by_cases hc300 : (d4 - (1 : Int32)) < (4 : Int32)
        · refine zicmpYes X247 hx (pc' := 308) (hb hby at_300) (tlt hc300).1 (by decide) (by decide) ?_
          refine ziconst X247 hx (hb hby at_308) (z := (4 : Int32)) rfl ?_
          exact J254 _ (Or.inr (Or.inl ⟨hc290, hc300, rfl⟩))
        · refine zicmpNo X247 hx (hb hby at_300) (flt hc300).1 ?_
          refine zbipush X247 hx (hb hby at_303) (z := (8 : Int32)) rfl ?_
          refine zgoto X247 hx (pc' := 309) (hb hby at_305) (by decide) (by decide) ?_
          exact J254 _ (Or.inr (Or.inr ⟨hc290, hc300, rfl⟩))
    intro ea hj309
    have hea : ea = own_cap (n4 - 1) := by
      rcases hj309 with ⟨h1, h2⟩ | ⟨h1, h3, h2⟩ | ⟨h1, h3, h2⟩
      · rw [hd4] at h1; rw [h2]; exact own_r0 h1 (by omega) (by omega)
      · rw [hd4] at h1 h3; rw [h2]; exact own_r4 h1 h3 (by omega) (by omega)
      · rw [hd4] at h3; rw [h2]; exact own_r8 h3 (by omega) (by omega)
    refine zistore X247 hx (l' := #[iv p0, iv p1, iv p2, iv p3, iv p4, iv p5, iv (4 : Int32), rv b2, rv b112, iv d4, iv ex, iv (d4 - (1 : Int32)), iv ea]) (hb hby at_309) rfl ?_
    refine zaload X247 hx (hb hby at_311) rfl rfl ?_
    obtain ⟨cq255, kq255, q255a, q255b, q255c⟩ := isOf hZ rfl Et247
    obtain ⟨_, _, ⟨T255, L255, k255, n255⟩, -, X255, ⟨Lc255, hQ255, l255, y255, z255⟩, st255⟩ := X247.virtualBack hx (y := yn38) (z := yn38) hown (mvT hZ (wm hw 269 rfl)) (mvT hZ (wm hw 270 rfl)) (notFace_of_selects (args := #[]) (mvT hZ (wm hw 272 rfl))) (mvT hZ (wm hw 272 rfl)) (mvT hZ (wm hw 271 rfl)) (by decide) (backOf (W := 0) (rm37 l Z a0 hw [] b112 (n4 - 1) T247.heap n0 Z247 Cp247) hZ (wm hw 273 rfl) (wm hw 215 rfl) (by decide) (by decide)) q255a q255c (g := (mkF m 313 #[iv p0, iv p1, iv p2, iv p3, iv p4, iv p5, iv (4 : Int32), rv b2, rv b112, iv d4, iv ex, iv (d4 - (1 : Int32)), iv ea] [(.ref b112)])) rfl (by rw [hml]; rfl) (Steps.refl _) (argsL := []) (rest := []) (lenOf pd_9 rfl) rfl (by show 2 * 0 + _ ≤ _; exact Nat.le_of_eq rfl) (hb hby at_313) (fun _ _ => ⟨rfl, rfl, (by decide : 41 + 0 ≤ _), (by decide : 391 + 0 ≤ _)⟩)
    dsimp only [Pt.U, Pt.locs, Pt.cells, Pt.slots] at X255 l255 y255 z255 st255 hQ255
    subst l255 y255 z255
    obtain ⟨rfl, Nq255, e255⟩ := hQ255
    have N255 := Fr.app N247 Nq255
    refine Go.stp (fun t_ k_ => st255.trans k_) ?_
    show Go p.tables e below G (T255.setTop (mkF m 316 #[iv p0, iv p1, iv p2, iv p3, iv p4, iv p5, iv (4 : Int32), rv b2, rv b112, iv d4, iv ex, iv (d4 - (1 : Int32)), iv ea] [(.int (own_cap (n4 - 1)))]))
    refine ziload X255 hx (hb hby at_316) rfl ?_
    have hd318 : (own_cap (n4 - 1)) = ea := hea.symm
    refine zicmpNo X255 hx (hb hby at_318) (teq hd318).2 ?_
    refine ziconst X255 hx (hb hby at_321) (z := (1 : Int32)) rfl ?_
    refine zgoto X255 hx (pc' := 326) (hb hby at_322) (by decide) (by decide) ?_
    obtain ⟨fs, hr, hrun, hended, hEnd⟩ := X255.leaveW hS75 (by rw [e255]; exact f252) (v := some (.int (1 : Int32))) (fun h => by rw [Bd.returns] at h; cases h)
    refine ⟨_, _, retN X255 hx (t := .boolean) Bd.returns (by simp) (hb hby at_326) hr, hrun, hended, hG _ _ _ ?_ ⟨hEnd.1, hEnd.2.1, hEnd.2.2.1, hEnd.2.2.2.mono (by decide) (by decide)⟩⟩
    show Q0 Z p0 p1 p2 p3 p4 p5 kc sf ks ep tu h0 n0 _ T255.heap _
    rw [e255]
    exact ⟨rfl, N255⟩
  · show Go p.tables e below G (T136.setTop (mkF m 49 #[iv p0, iv p1, iv p2, iv p3, iv p4, iv p5, iv (5 : Int32), rv b2, rv b112, un, un, un, un] []))
    refine ziload X136 hx (hb hby at_49) rfl ?_
    refine ziconst X136 hx (hb hby at_51) (z := (1 : Int32)) rfl ?_
    refine zicmpNo X136 hx (hb hby at_52) (flt (by decide : ¬ ((5 : Int32) < (1 : Int32)))).1 ?_
    refine zaload X136 hx (hb hby at_55) rfl rfl ?_
    refine ziloadN X136 hx (hb hby at_57) rfl ?_
    refine zaload X136 hx (hb hby at_58) rfl rfl ?_
    refine zlconst X136 hx (hb hby at_60) (z := (0 : Int64)) rfl ?_
    obtain ⟨cq256, kq256, q256a, q256b, q256c⟩ := isOf hZ e136 A112
    obtain ⟨_, _, ⟨T256, L256, k256, n256⟩, -, X256, ⟨Lc256, hQ256, l256, y256, z256⟩, st256⟩ := X136.virtualBack hx (y := yn35) (z := yn35) hown (mvT hZ (wm hw 220 rfl)) (mvT hZ (wm hw 221 rfl)) (notFace_of_selects (args := #[]) (mvT hZ (wm hw 223 rfl))) (mvT hZ (wm hw 223 rfl)) (mvT hZ (wm hw 222 rfl)) (by decide) (backOf (W := 0) (rm30 l Z a0 hw [] b112 p0 b2 (0 : Int64) (fun _ => false) 0 h112 n0 Z112 TB0 f125 (by omega)) hZ (wm hw 224 rfl) (wm hw 215 rfl) (by decide) (by decide)) q256a q256c (g := (mkF m 61 #[iv p0, iv p1, iv p2, iv p3, iv p4, iv p5, iv (5 : Int32), rv b2, rv b112, un, un, un, un] [(.long (0 : Int64)), (.ref b2), (.int p0), (.ref b112)])) rfl (by rw [hml]; rfl) (Steps.refl _) (argsL := [(.int p0), (.ref b2), (.long (0 : Int64))]) (rest := []) (lenOf pd_24 rfl) rfl (by show 2 * 0 + _ ≤ _; exact Nat.le_of_eq rfl) (hb hby at_61) (fun _ _ => ⟨rfl, e136, (by decide : 16 + 5 ≤ _), (by decide : 211 + 40 ≤ _)⟩)
    dsimp only [Pt.U, Pt.locs, Pt.cells, Pt.slots] at X256 l256 y256 z256 st256 hQ256
    subst l256 y256 z256
    obtain ⟨rfl, Nq256, ws256, Kc256, Eh256, Tb256⟩ := hQ256
    have N256 := Fr.app N136 Nq256
    have f257 := f122.keep Kc256
    have f258 := f125.keep Kc256
    have f259 := f126.keep Kc256
    have f260 := f127.keep Kc256
    have f261 := f129.keep Kc256
    have f262 := A112.keep Kc256
    have Z256 : n0 ≤ T256.heap.size := Nat.le_trans Z112 Kc256.1
    obtain ⟨n1, hn1⟩ : ∃ z : Nat, z = (if (fun _ => false) p0 = true then 0 else 0 + 1) := ⟨_, rfl⟩
    rw [← hn1] at Tb256
    have hl1 : n1 = 1 := by rw [hn1]; rfl
    have hl1' : 1 ≤ n1 ∧ n1 ≤ 1 := by omega
    have hd1 : (1 : Int32) = own_i n1 := by rw [hl1]; decide
    have Et256 := (Tab.cap Tb256).1
    refine Go.stp (fun t_ k_ => st256.trans k_) ?_
    show Go p.tables e below G (T256.setTop (mkF m 64 #[iv p0, iv p1, iv p2, iv p3, iv p4, iv p5, iv (5 : Int32), rv b2, rv b112, un, un, un, un] []))
    refine ziload X256 hx (hb hby at_64) rfl ?_
    refine ziconst X256 hx (hb hby at_66) (z := (2 : Int32)) rfl ?_
    refine zicmpNo X256 hx (hb hby at_67) (flt (by decide : ¬ ((5 : Int32) < (2 : Int32)))).1 ?_
    refine zaload X256 hx (hb hby at_70) rfl rfl ?_
    refine ziloadN X256 hx (hb hby at_72) rfl ?_
    refine zaload X256 hx (hb hby at_73) rfl rfl ?_
    refine zlconst X256 hx (hb hby at_75) (z := (1 : Int64)) rfl ?_
    obtain ⟨cq263, kq263, q263a, q263b, q263c⟩ := isOf hZ rfl Et256
    obtain ⟨_, _, ⟨T263, L263, k263, n263⟩, -, X263, ⟨Lc263, hQ263, l263, y263, z263⟩, st263⟩ := X256.virtualBack hx (y := yn35) (z := yn35) hown (mvT hZ (wm hw 220 rfl)) (mvT hZ (wm hw 221 rfl)) (notFace_of_selects (args := #[]) (mvT hZ (wm hw 223 rfl))) (mvT hZ (wm hw 223 rfl)) (mvT hZ (wm hw 222 rfl)) (by decide) (backOf (W := 0) (rm30 l Z a0 hw [] b112 p1 b2 (1 : Int64) (ins (fun _ => false) p0) n1 T256.heap n0 Z256 Tb256 f258 (by omega)) hZ (wm hw 224 rfl) (wm hw 215 rfl) (by decide) (by decide)) q263a q263c (g := (mkF m 76 #[iv p0, iv p1, iv p2, iv p3, iv p4, iv p5, iv (5 : Int32), rv b2, rv b112, un, un, un, un] [(.long (1 : Int64)), (.ref b2), (.int p1), (.ref b112)])) rfl (by rw [hml]; rfl) (Steps.refl _) (argsL := [(.int p1), (.ref b2), (.long (1 : Int64))]) (rest := []) (lenOf pd_24 rfl) rfl (by show 2 * 0 + _ ≤ _; exact Nat.le_of_eq rfl) (hb hby at_76) (fun _ _ => ⟨rfl, rfl, (by decide : 21 + 5 ≤ _), (by decide : 251 + 40 ≤ _)⟩)
    dsimp only [Pt.U, Pt.locs, Pt.cells, Pt.slots] at X263 l263 y263 z263 st263 hQ263
    subst l263 y263 z263
    obtain ⟨rfl, Nq263, ws263, Kc263, Eh263, Tb263⟩ := hQ263
    have N263 := Fr.app N256 Nq263
    have f264 := f257.keep Kc263
    have f265 := f258.keep Kc263
    have f266 := f259.keep Kc263
    have f267 := f260.keep Kc263
    have f268 := f261.keep Kc263
    have f269 := Et256.keep Kc263
    have Z263 : n0 ≤ T263.heap.size := Nat.le_trans Z256 Kc263.1
    obtain ⟨n2, hn2⟩ : ∃ z : Nat, z = (if (ins (fun _ => false) p0) p1 = true then n1 else n1 + 1) := ⟨_, rfl⟩
    rw [← hn2] at Tb263
    have hl2' : 1 ≤ n2 ∧ n2 ≤ 2 := by rw [hn2]; split <;> omega
    have Et263 := (Tab.cap Tb263).1
    refine Go.stp (fun t_ k_ => st263.trans k_) ?_
    show Go p.tables e below G (T263.setTop (mkF m 79 #[iv p0, iv p1, iv p2, iv p3, iv p4, iv p5, iv (5 : Int32), rv b2, rv b112, un, un, un, un] []))
    refine ziload X263 hx (hb hby at_79) rfl ?_
    refine ziconst X263 hx (hb hby at_81) (z := (3 : Int32)) rfl ?_
    refine zicmpNo X263 hx (hb hby at_82) (flt (by decide : ¬ ((5 : Int32) < (3 : Int32)))).1 ?_
    refine zaload X263 hx (hb hby at_85) rfl rfl ?_
    refine ziloadN X263 hx (hb hby at_87) rfl ?_
    refine zaload X263 hx (hb hby at_88) rfl rfl ?_
    refine Go.stp (fun t_ k_ => X263.ldc2Long hx hown (mvT hZ (wm hw 268 rfl)) (g := (mkF m 90 #[iv p0, iv p1, iv p2, iv p3, iv p4, iv p5, iv (5 : Int32), rv b2, rv b112, un, un, un, un] [(.ref b2), (.int p2), (.ref b112)])) rfl (hb hby at_90) t_ k_) ?_
    show Go p.tables e below G (T263.setTop (mkF m 93 #[iv p0, iv p1, iv p2, iv p3, iv p4, iv p5, iv (5 : Int32), rv b2, rv b112, un, un, un, un] [(.long (2 : Int64)), (.ref b2), (.int p2), (.ref b112)]))
    obtain ⟨cq270, kq270, q270a, q270b, q270c⟩ := isOf hZ rfl Et263
    obtain ⟨_, _, ⟨T270, L270, k270, n270⟩, -, X270, ⟨Lc270, hQ270, l270, y270, z270⟩, st270⟩ := X263.virtualBack hx (y := yn35) (z := yn35) hown (mvT hZ (wm hw 220 rfl)) (mvT hZ (wm hw 221 rfl)) (notFace_of_selects (args := #[]) (mvT hZ (wm hw 223 rfl))) (mvT hZ (wm hw 223 rfl)) (mvT hZ (wm hw 222 rfl)) (by decide) (backOf (W := 0) (rm30 l Z a0 hw [] b112 p2 b2 (2 : Int64) (ins (ins (fun _ => false) p0) p1) n2 T263.heap n0 Z263 Tb263 f265 (by omega)) hZ (wm hw 224 rfl) (wm hw 215 rfl) (by decide) (by decide)) q270a q270c (g := (mkF m 93 #[iv p0, iv p1, iv p2, iv p3, iv p4, iv p5, iv (5 : Int32), rv b2, rv b112, un, un, un, un] [(.long (2 : Int64)), (.ref b2), (.int p2), (.ref b112)])) rfl (by rw [hml]; rfl) (Steps.refl _) (argsL := [(.int p2), (.ref b2), (.long (2 : Int64))]) (rest := []) (lenOf pd_24 rfl) rfl (by show 2 * 0 + _ ≤ _; exact Nat.le_of_eq rfl) (hb hby at_93) (fun _ _ => ⟨rfl, rfl, (by decide : 26 + 5 ≤ _), (by decide : 291 + 40 ≤ _)⟩)
    dsimp only [Pt.U, Pt.locs, Pt.cells, Pt.slots] at X270 l270 y270 z270 st270 hQ270
    subst l270 y270 z270
    obtain ⟨rfl, Nq270, ws270, Kc270, Eh270, Tb270⟩ := hQ270
    have N270 := Fr.app N263 Nq270
    have f271 := f264.keep Kc270
    have f272 := f265.keep Kc270
    have f273 := f266.keep Kc270
    have f274 := f267.keep Kc270
    have f275 := f268.keep Kc270
    have f276 := Et263.keep Kc270
    have Z270 : n0 ≤ T270.heap.size := Nat.le_trans Z263 Kc270.1
    obtain ⟨n3, hn3⟩ : ∃ z : Nat, z = (if (ins (ins (fun _ => false) p0) p1) p2 = true then n2 else n2 + 1) := ⟨_, rfl⟩
    rw [← hn3] at Tb270
    have hl3' : 1 ≤ n3 ∧ n3 ≤ 3 := by rw [hn3]; split <;> omega
    have Et270 := (Tab.cap Tb270).1
    refine Go.stp (fun t_ k_ => st270.trans k_) ?_
    show Go p.tables e below G (T270.setTop (mkF m 96 #[iv p0, iv p1, iv p2, iv p3, iv p4, iv p5, iv (5 : Int32), rv b2, rv b112, un, un, un, un] []))
    refine ziload X270 hx (hb hby at_96) rfl ?_
    refine ziconst X270 hx (hb hby at_98) (z := (4 : Int32)) rfl ?_
    refine zicmpNo X270 hx (hb hby at_99) (flt (by decide : ¬ ((5 : Int32) < (4 : Int32)))).1 ?_
    refine zaload X270 hx (hb hby at_102) rfl rfl ?_
    refine ziloadN X270 hx (hb hby at_104) rfl ?_
    refine zaload X270 hx (hb hby at_105) rfl rfl ?_
    refine Go.stp (fun t_ k_ => X270.ldc2Long hx hown (mvT hZ (wm hw 287 rfl)) (g := (mkF m 107 #[iv p0, iv p1, iv p2, iv p3, iv p4, iv p5, iv (5 : Int32), rv b2, rv b112, un, un, un, un] [(.ref b2), (.int p3), (.ref b112)])) rfl (hb hby at_107) t_ k_) ?_
    show Go p.tables e below G (T270.setTop (mkF m 110 #[iv p0, iv p1, iv p2, iv p3, iv p4, iv p5, iv (5 : Int32), rv b2, rv b112, un, un, un, un] [(.long (3 : Int64)), (.ref b2), (.int p3), (.ref b112)]))
    obtain ⟨cq277, kq277, q277a, q277b, q277c⟩ := isOf hZ rfl Et270
    obtain ⟨_, _, ⟨T277, L277, k277, n277⟩, -, X277, ⟨Lc277, hQ277, l277, y277, z277⟩, st277⟩ := X270.virtualBack hx (y := yn35) (z := yn35) hown (mvT hZ (wm hw 220 rfl)) (mvT hZ (wm hw 221 rfl)) (notFace_of_selects (args := #[]) (mvT hZ (wm hw 223 rfl))) (mvT hZ (wm hw 223 rfl)) (mvT hZ (wm hw 222 rfl)) (by decide) (backOf (W := 0) (rm30 l Z a0 hw [] b112 p3 b2 (3 : Int64) (ins (ins (ins (fun _ => false) p0) p1) p2) n3 T270.heap n0 Z270 Tb270 f272 (by omega)) hZ (wm hw 224 rfl) (wm hw 215 rfl) (by decide) (by decide)) q277a q277c (g := (mkF m 110 #[iv p0, iv p1, iv p2, iv p3, iv p4, iv p5, iv (5 : Int32), rv b2, rv b112, un, un, un, un] [(.long (3 : Int64)), (.ref b2), (.int p3), (.ref b112)])) rfl (by rw [hml]; rfl) (Steps.refl _) (argsL := [(.int p3), (.ref b2), (.long (3 : Int64))]) (rest := []) (lenOf pd_24 rfl) rfl (by show 2 * 0 + _ ≤ _; exact Nat.le_of_eq rfl) (hb hby at_110) (fun _ _ => ⟨rfl, rfl, (by decide : 31 + 5 ≤ _), (by decide : 331 + 40 ≤ _)⟩)
    dsimp only [Pt.U, Pt.locs, Pt.cells, Pt.slots] at X277 l277 y277 z277 st277 hQ277
    subst l277 y277 z277
    obtain ⟨rfl, Nq277, ws277, Kc277, Eh277, Tb277⟩ := hQ277
    have N277 := Fr.app N270 Nq277
    have f278 := f271.keep Kc277
    have f279 := f272.keep Kc277
    have f280 := f273.keep Kc277
    have f281 := f274.keep Kc277
    have f282 := f275.keep Kc277
    have f283 := Et270.keep Kc277
    have Z277 : n0 ≤ T277.heap.size := Nat.le_trans Z270 Kc277.1
    obtain ⟨n4, hn4⟩ : ∃ z : Nat, z = (if (ins (ins (ins (fun _ => false) p0) p1) p2) p3 = true then n3 else n3 + 1) := ⟨_, rfl⟩
    rw [← hn4] at Tb277
    have hl4' : 1 ≤ n4 ∧ n4 ≤ 4 := by rw [hn4]; split <;> omega
    have Et277 := (Tab.cap Tb277).1
    refine Go.stp (fun t_ k_ => st277.trans k_) ?_
    show Go p.tables e below G (T277.setTop (mkF m 113 #[iv p0, iv p1, iv p2, iv p3, iv p4, iv p5, iv (5 : Int32), rv b2, rv b112, un, un, un, un] []))
    refine ziload X277 hx (hb hby at_113) rfl ?_
    refine ziconst X277 hx (hb hby at_115) (z := (5 : Int32)) rfl ?_
    refine zicmpNo X277 hx (hb hby at_116) (flt (by decide : ¬ ((5 : Int32) < (5 : Int32)))).1 ?_
    refine zaload X277 hx (hb hby at_119) rfl rfl ?_
    refine ziload X277 hx (hb hby at_121) rfl ?_
    refine zaload X277 hx (hb hby at_123) rfl rfl ?_
    refine Go.stp (fun t_ k_ => X277.ldc2Long hx hown (mvT hZ (wm hw 294 rfl)) (g := (mkF m 125 #[iv p0, iv p1, iv p2, iv p3, iv p4, iv p5, iv (5 : Int32), rv b2, rv b112, un, un, un, un] [(.ref b2), (.int p4), (.ref b112)])) rfl (hb hby at_125) t_ k_) ?_
    show Go p.tables e below G (T277.setTop (mkF m 128 #[iv p0, iv p1, iv p2, iv p3, iv p4, iv p5, iv (5 : Int32), rv b2, rv b112, un, un, un, un] [(.long (4 : Int64)), (.ref b2), (.int p4), (.ref b112)]))
    obtain ⟨cq284, kq284, q284a, q284b, q284c⟩ := isOf hZ rfl Et277
    obtain ⟨_, _, ⟨T284, L284, k284, n284⟩, -, X284, ⟨Lc284, hQ284, l284, y284, z284⟩, st284⟩ := X277.virtualBack hx (y := yn35) (z := yn35) hown (mvT hZ (wm hw 220 rfl)) (mvT hZ (wm hw 221 rfl)) (notFace_of_selects (args := #[]) (mvT hZ (wm hw 223 rfl))) (mvT hZ (wm hw 223 rfl)) (mvT hZ (wm hw 222 rfl)) (by decide) (backOf (W := 0) (rm30 l Z a0 hw [] b112 p4 b2 (4 : Int64) (ins (ins (ins (ins (fun _ => false) p0) p1) p2) p3) n4 T277.heap n0 Z277 Tb277 f279 (by omega)) hZ (wm hw 224 rfl) (wm hw 215 rfl) (by decide) (by decide)) q284a q284c (g := (mkF m 128 #[iv p0, iv p1, iv p2, iv p3, iv p4, iv p5, iv (5 : Int32), rv b2, rv b112, un, un, un, un] [(.long (4 : Int64)), (.ref b2), (.int p4), (.ref b112)])) rfl (by rw [hml]; rfl) (Steps.refl _) (argsL := [(.int p4), (.ref b2), (.long (4 : Int64))]) (rest := []) (lenOf pd_24 rfl) rfl (by show 2 * 0 + _ ≤ _; exact Nat.le_of_eq rfl) (hb hby at_128) (fun _ _ => ⟨rfl, rfl, (by decide : 36 + 5 ≤ _), (by decide : 371 + 40 ≤ _)⟩)
    dsimp only [Pt.U, Pt.locs, Pt.cells, Pt.slots] at X284 l284 y284 z284 st284 hQ284
    subst l284 y284 z284
    obtain ⟨rfl, Nq284, ws284, Kc284, Eh284, Tb284⟩ := hQ284
    have N284 := Fr.app N277 Nq284
    have f285 := f278.keep Kc284
    have f286 := f279.keep Kc284
    have f287 := f280.keep Kc284
    have f288 := f281.keep Kc284
    have f289 := f282.keep Kc284
    have f290 := Et277.keep Kc284
    have Z284 : n0 ≤ T284.heap.size := Nat.le_trans Z277 Kc284.1
    obtain ⟨n5, hn5⟩ : ∃ z : Nat, z = (if (ins (ins (ins (ins (fun _ => false) p0) p1) p2) p3) p4 = true then n4 else n4 + 1) := ⟨_, rfl⟩
    rw [← hn5] at Tb284
    have hl5' : 1 ≤ n5 ∧ n5 ≤ 5 := by rw [hn5]; split <;> omega
    have Et284 := (Tab.cap Tb284).1
    refine Go.stp (fun t_ k_ => st284.trans k_) ?_
    show Go p.tables e below G (T284.setTop (mkF m 131 #[iv p0, iv p1, iv p2, iv p3, iv p4, iv p5, iv (5 : Int32), rv b2, rv b112, un, un, un, un] []))
    refine ziconst X284 hx (hb hby at_131) (z := (0 : Int32)) rfl ?_
    refine zistore X284 hx (l' := #[iv p0, iv p1, iv p2, iv p3, iv p4, iv p5, iv (5 : Int32), rv b2, rv b112, iv (0 : Int32), un, un, un]) (hb hby at_132) rfl ?_
    refine ziload X284 hx (hb hby at_134) rfl ?_
    refine ziconst X284 hx (hb hby at_136) (z := (1 : Int32)) rfl ?_
    refine zicmpNo X284 hx (hb hby at_137) (flt (by decide : ¬ ((5 : Int32) < (1 : Int32)))).1 ?_
    refine ziconst X284 hx (hb hby at_140) (z := (1 : Int32)) rfl ?_
    refine zistore X284 hx (l' := #[iv p0, iv p1, iv p2, iv p3, iv p4, iv p5, iv (5 : Int32), rv b2, rv b112, iv (1 : Int32), un, un, un]) (hb hby at_141) rfl ?_
    refine ziload X284 hx (hb hby at_143) rfl ?_
    refine ziconst X284 hx (hb hby at_145) (z := (2 : Int32)) rfl ?_
    refine zicmpNo X284 hx (hb hby at_146) (flt (by decide : ¬ ((5 : Int32) < (2 : Int32)))).1 ?_
    refine ziloadN X284 hx (hb hby at_149) rfl ?_
    refine ziloadN X284 hx (hb hby at_150) rfl ?_
    suffices J291 : ∀ (d2 : Int32), (((p1 = p0) ∧ d2 = (1 : Int32)) ∨ (¬ (p1 = p0) ∧ d2 = ((1 : Int32) + (1 : Int32)))) → Go p.tables e below G (T284.setTop (mkF m 157 #[iv p0, iv p1, iv p2, iv p3, iv p4, iv p5, iv (5 : Int32), rv b2, rv b112, iv d2, un, un, un] [])) by
      by_cases hc151 : p1 = p0
      · refine zicmpYes X284 hx (pc' := 157) (hb hby at_151) (teq hc151).1 (by decide) (by decide) ?_
        exact J291 _ (Or.inl ⟨hc151, rfl⟩)
      · refine zicmpNo X284 hx (hb hby at_151) (feq hc151).1 ?_
        refine ziinc X284 hx (l' := #[iv p0, iv p1, iv p2, iv p3, iv p4, iv p5, iv (5 : Int32), rv b2, rv b112, iv ((1 : Int32) + (1 : Int32)), un, un, un]) (hb hby at_154) rfl rfl ?_
        exact J291 _ (Or.inr ⟨hc151, rfl⟩)
    intro d2 hj157
    have hd2 : d2 = own_i n2 := by
      rcases hj157 with ⟨q0, hq⟩ | ⟨q0, hq⟩
      · rw [hq, hn2, if_pos (by simp [ins, q0])]
        exact hd1
      · rw [hq, hn2, if_neg (by simp [ins, q0])]
        exact congrArg (fun z => z + (1 : Int32)) hd1
    refine ziload X284 hx (hb hby at_157) rfl ?_
    refine ziconst X284 hx (hb hby at_159) (z := (3 : Int32)) rfl ?_
    refine zicmpNo X284 hx (hb hby at_160) (flt (by decide : ¬ ((5 : Int32) < (3 : Int32)))).1 ?_
    refine ziloadN X284 hx (hb hby at_163) rfl ?_
    refine ziloadN X284 hx (hb hby at_164) rfl ?_
    suffices J292 : ∀ (d3 : Int32), (((p2 = p0) ∧ d3 = d2) ∨ (¬ (p2 = p0) ∧ (p2 = p1) ∧ d3 = d2) ∨ (¬ (p2 = p0) ∧ ¬ (p2 = p1) ∧ d3 = (d2 + (1 : Int32)))) → Go p.tables e below G (T284.setTop (mkF m 176 #[iv p0, iv p1, iv p2, iv p3, iv p4, iv p5, iv (5 : Int32), rv b2, rv b112, iv d3, un, un, un] [])) by
      by_cases hc165 : p2 = p0
      · refine zicmpYes X284 hx (pc' := 176) (hb hby at_165) (teq hc165).1 (by decide) (by decide) ?_
        exact J292 _ (Or.inl ⟨hc165, rfl⟩)
      · refine zicmpNo X284 hx (hb hby at_165) (feq hc165).1 ?_
        refine ziloadN X284 hx (hb hby at_168) rfl ?_
        refine ziloadN X284 hx (hb hby at_169) rfl ?_
        by_cases hc170 : p2 = p1
        · refine zicmpYes X284 hx (pc' := 176) (hb hby at_170) (teq hc170).1 (by decide) (by decide) ?_
          exact J292 _ (Or.inr (Or.inl ⟨hc165, hc170, rfl⟩))
        · refine zicmpNo X284 hx (hb hby at_170) (feq hc170).1 ?_
          refine ziinc X284 hx (l' := #[iv p0, iv p1, iv p2, iv p3, iv p4, iv p5, iv (5 : Int32), rv b2, rv b112, iv (d2 + (1 : Int32)), un, un, un]) (hb hby at_173) rfl rfl ?_
          exact J292 _ (Or.inr (Or.inr ⟨hc165, hc170, rfl⟩))
    intro d3 hj176
    have hd3 : d3 = own_i n3 := by
      rcases hj176 with ⟨q0, hq⟩ | ⟨q0, q1, hq⟩ | ⟨q0, q1, hq⟩
      · rw [hq, hn3, if_pos (by simp [ins, q0])]
        exact hd2
      · rw [hq, hn3, if_pos (by simp [ins, q1])]
        exact hd2
      · rw [hq, hn3, if_neg (by simp [ins, q0, q1])]
        exact congrArg (fun z => z + (1 : Int32)) hd2
    refine ziload X284 hx (hb hby at_176) rfl ?_
    refine ziconst X284 hx (hb hby at_178) (z := (4 : Int32)) rfl ?_
    refine zicmpNo X284 hx (hb hby at_179) (flt (by decide : ¬ ((5 : Int32) < (4 : Int32)))).1 ?_
    refine ziloadN X284 hx (hb hby at_182) rfl ?_
    refine ziloadN X284 hx (hb hby at_183) rfl ?_
    suffices J293 : ∀ (d4 : Int32), (((p3 = p0) ∧ d4 = d3) ∨ (¬ (p3 = p0) ∧ (p3 = p1) ∧ d4 = d3) ∨ (¬ (p3 = p0) ∧ ¬ (p3 = p1) ∧ (p3 = p2) ∧ d4 = d3) ∨ (¬ (p3 = p0) ∧ ¬ (p3 = p1) ∧ ¬ (p3 = p2) ∧ d4 = (d3 + (1 : Int32)))) → Go p.tables e below G (T284.setTop (mkF m 200 #[iv p0, iv p1, iv p2, iv p3, iv p4, iv p5, iv (5 : Int32), rv b2, rv b112, iv d4, un, un, un] [])) by
      by_cases hc184 : p3 = p0
      · refine zicmpYes X284 hx (pc' := 200) (hb hby at_184) (teq hc184).1 (by decide) (by decide) ?_
        exact J293 _ (Or.inl ⟨hc184, rfl⟩)
      · refine zicmpNo X284 hx (hb hby at_184) (feq hc184).1 ?_
        refine ziloadN X284 hx (hb hby at_187) rfl ?_
        refine ziloadN X284 hx (hb hby at_188) rfl ?_
        by_cases hc189 : p3 = p1
        · refine zicmpYes X284 hx (pc' := 200) (hb hby at_189) (teq hc189).1 (by decide) (by decide) ?_
          exact J293 _ (Or.inr (Or.inl ⟨hc184, hc189, rfl⟩))
        · refine zicmpNo X284 hx (hb hby at_189) (feq hc189).1 ?_
          refine ziloadN X284 hx (hb hby at_192) rfl ?_
          refine ziloadN X284 hx (hb hby at_193) rfl ?_
          by_cases hc194 : p3 = p2
          · refine zicmpYes X284 hx (pc' := 200) (hb hby at_194) (teq hc194).1 (by decide) (by decide) ?_
            exact J293 _ (Or.inr (Or.inr (Or.inl ⟨hc184, hc189, hc194, rfl⟩)))
          · refine zicmpNo X284 hx (hb hby at_194) (feq hc194).1 ?_
            refine ziinc X284 hx (l' := #[iv p0, iv p1, iv p2, iv p3, iv p4, iv p5, iv (5 : Int32), rv b2, rv b112, iv (d3 + (1 : Int32)), un, un, un]) (hb hby at_197) rfl rfl ?_
            exact J293 _ (Or.inr (Or.inr (Or.inr ⟨hc184, hc189, hc194, rfl⟩)))
    intro d4 hj200
    have hd4 : d4 = own_i n4 := by
      rcases hj200 with ⟨q0, hq⟩ | ⟨q0, q1, hq⟩ | ⟨q0, q1, q2, hq⟩ | ⟨q0, q1, q2, hq⟩
      · rw [hq, hn4, if_pos (by simp [ins, q0])]
        exact hd3
      · rw [hq, hn4, if_pos (by simp [ins, q1])]
        exact hd3
      · rw [hq, hn4, if_pos (by simp [ins, q2])]
        exact hd3
      · rw [hq, hn4, if_neg (by simp [ins, q0, q1, q2])]
        exact congrArg (fun z => z + (1 : Int32)) hd3
    refine ziload X284 hx (hb hby at_200) rfl ?_
    refine ziconst X284 hx (hb hby at_202) (z := (5 : Int32)) rfl ?_
    refine zicmpNo X284 hx (hb hby at_203) (flt (by decide : ¬ ((5 : Int32) < (5 : Int32)))).1 ?_
    refine ziload X284 hx (hb hby at_206) rfl ?_
    refine ziloadN X284 hx (hb hby at_208) rfl ?_
    suffices J294 : ∀ (d5 : Int32), (((p4 = p0) ∧ d5 = d4) ∨ (¬ (p4 = p0) ∧ (p4 = p1) ∧ d5 = d4) ∨ (¬ (p4 = p0) ∧ ¬ (p4 = p1) ∧ (p4 = p2) ∧ d5 = d4) ∨ (¬ (p4 = p0) ∧ ¬ (p4 = p1) ∧ ¬ (p4 = p2) ∧ (p4 = p3) ∧ d5 = d4) ∨ (¬ (p4 = p0) ∧ ¬ (p4 = p1) ∧ ¬ (p4 = p2) ∧ ¬ (p4 = p3) ∧ d5 = (d4 + (1 : Int32)))) → Go p.tables e below G (T284.setTop (mkF m 233 #[iv p0, iv p1, iv p2, iv p3, iv p4, iv p5, iv (5 : Int32), rv b2, rv b112, iv d5, un, un, un] [])) by
      by_cases hc209 : p4 = p0
      · refine zicmpYes X284 hx (pc' := 233) (hb hby at_209) (teq hc209).1 (by decide) (by decide) ?_
        exact J294 _ (Or.inl ⟨hc209, rfl⟩)
      · refine zicmpNo X284 hx (hb hby at_209) (feq hc209).1 ?_
        refine ziload X284 hx (hb hby at_212) rfl ?_
        refine ziloadN X284 hx (hb hby at_214) rfl ?_
        by_cases hc215 : p4 = p1
        · refine zicmpYes X284 hx (pc' := 233) (hb hby at_215) (teq hc215).1 (by decide) (by decide) ?_
          exact J294 _ (Or.inr (Or.inl ⟨hc209, hc215, rfl⟩))
        · refine zicmpNo X284 hx (hb hby at_215) (feq hc215).1 ?_
          refine ziload X284 hx (hb hby at_218) rfl ?_
          refine ziloadN X284 hx (hb hby at_220) rfl ?_
          by_cases hc221 : p4 = p2
          · refine zicmpYes X284 hx (pc' := 233) (hb hby at_221) (teq hc221).1 (by decide) (by decide) ?_
            exact J294 _ (Or.inr (Or.inr (Or.inl ⟨hc209, hc215, hc221, rfl⟩)))
          · refine zicmpNo X284 hx (hb hby at_221) (feq hc221).1 ?_
            refine ziload X284 hx (hb hby at_224) rfl ?_
            refine ziloadN X284 hx (hb hby at_226) rfl ?_
            by_cases hc227 : p4 = p3
            · refine zicmpYes X284 hx (pc' := 233) (hb hby at_227) (teq hc227).1 (by decide) (by decide) ?_
              exact J294 _ (Or.inr (Or.inr (Or.inr (Or.inl ⟨hc209, hc215, hc221, hc227, rfl⟩))))
            · refine zicmpNo X284 hx (hb hby at_227) (feq hc227).1 ?_
              refine ziinc X284 hx (l' := #[iv p0, iv p1, iv p2, iv p3, iv p4, iv p5, iv (5 : Int32), rv b2, rv b112, iv (d4 + (1 : Int32)), un, un, un]) (hb hby at_230) rfl rfl ?_
              exact J294 _ (Or.inr (Or.inr (Or.inr (Or.inr ⟨hc209, hc215, hc221, hc227, rfl⟩))))
    intro d5 hj233
    have hd5 : d5 = own_i n5 := by
      rcases hj233 with ⟨q0, hq⟩ | ⟨q0, q1, hq⟩ | ⟨q0, q1, q2, hq⟩ | ⟨q0, q1, q2, q3, hq⟩ | ⟨q0, q1, q2, q3, hq⟩
      · rw [hq, hn5, if_pos (by simp [ins, q0])]
        exact hd4
      · rw [hq, hn5, if_pos (by simp [ins, q1])]
        exact hd4
      · rw [hq, hn5, if_pos (by simp [ins, q2])]
        exact hd4
      · rw [hq, hn5, if_pos (by simp [ins, q3])]
        exact hd4
      · rw [hq, hn5, if_neg (by simp [ins, q0, q1, q2, q3])]
        exact congrArg (fun z => z + (1 : Int32)) hd4
    refine ziload X284 hx (hb hby at_233) rfl ?_
    have hd235 : ¬ (d5 = (0 : Int32)) := (by rw [hd5]; exact own_ine (by omega) (by omega))
    refine zifYes X284 hx (pc' := 242) (hb hby at_235) ((if0 _ _).trans (feq hd235).2) (by decide) (by decide) ?_
    refine ziload X284 hx (hb hby at_242) rfl ?_
    refine ziconst X284 hx (hb hby at_244) (z := (3 : Int32)) rfl ?_
    suffices J295 : ∀ (ex : Int32), ((((3 : Int32) < d5) ∧ ex = (8 : Int32)) ∨ (¬ ((3 : Int32) < d5) ∧ ex = (4 : Int32))) → Go p.tables e below G (T284.setTop (mkF m 254 #[iv p0, iv p1, iv p2, iv p3, iv p4, iv p5, iv (5 : Int32), rv b2, rv b112, iv d5, un, un, un] [(.int ex)])) by
      by_cases hc245 : (3 : Int32) < d5
      · refine zicmpYes X284 hx (pc' := 252) (hb hby at_245) (tlt hc245).2.2.1 (by decide) (by decide) ?_
        refine zbipush X284 hx (hb hby at_252) (z := (8 : Int32)) rfl ?_
        exact J295 _ (Or.inl ⟨hc245, rfl⟩)
      · refine zicmpNo X284 hx (hb hby at_245) (flt hc245).2.2.1 ?_
        refine ziconst X284 hx (hb hby at_248) (z := (4 : Int32)) rfl ?_
        refine zgoto X284 hx (pc' := 254) (hb hby at_249) (by decide) (by decide) ?_
        exact J295 _ (Or.inr ⟨hc245, rfl⟩)
    intro ex hj254
    have hex : ex = own_cap n5 := by
      rcases hj254 with ⟨h1, h2⟩ | ⟨h1, h2⟩
      · rw [hd5] at h1; rw [h2]; exact own_c8 h1 (by omega) (by omega)
      · rw [hd5] at h1; rw [h2]; exact own_c4 h1 (by omega) (by omega)
    refine zistore X284 hx (l' := #[iv p0, iv p1, iv p2, iv p3, iv p4, iv p5, iv (5 : Int32), rv b2, rv b112, iv d5, iv ex, un, un]) (hb hby at_254) rfl ?_
    refine zaload X284 hx (hb hby at_256) rfl rfl ?_
    obtain ⟨cq296, kq296, q296a, q296b, q296c⟩ := isOf hZ rfl Et284
    obtain ⟨_, _, ⟨T296, L296, k296, n296⟩, -, X296, ⟨Lc296, hQ296, l296, y296, z296⟩, st296⟩ := X284.virtualBack hx (y := yn38) (z := yn38) hown (mvT hZ (wm hw 269 rfl)) (mvT hZ (wm hw 270 rfl)) (notFace_of_selects (args := #[]) (mvT hZ (wm hw 272 rfl))) (mvT hZ (wm hw 272 rfl)) (mvT hZ (wm hw 271 rfl)) (by decide) (backOf (W := 0) (rm37 l Z a0 hw [] b112 n5 T284.heap n0 Z284 (Tab.cap Tb284)) hZ (wm hw 273 rfl) (wm hw 215 rfl) (by decide) (by decide)) q296a q296c (g := (mkF m 258 #[iv p0, iv p1, iv p2, iv p3, iv p4, iv p5, iv (5 : Int32), rv b2, rv b112, iv d5, iv ex, un, un] [(.ref b112)])) rfl (by rw [hml]; rfl) (Steps.refl _) (argsL := []) (rest := []) (lenOf pd_9 rfl) rfl (by show 2 * 0 + _ ≤ _; exact Nat.le_of_eq rfl) (hb hby at_258) (fun _ _ => ⟨rfl, rfl, (by decide : 41 + 0 ≤ _), (by decide : 411 + 0 ≤ _)⟩)
    dsimp only [Pt.U, Pt.locs, Pt.cells, Pt.slots] at X296 l296 y296 z296 st296 hQ296
    subst l296 y296 z296
    obtain ⟨rfl, Nq296, e296⟩ := hQ296
    have N296 := Fr.app N284 Nq296
    refine Go.stp (fun t_ k_ => st296.trans k_) ?_
    show Go p.tables e below G (T296.setTop (mkF m 261 #[iv p0, iv p1, iv p2, iv p3, iv p4, iv p5, iv (5 : Int32), rv b2, rv b112, iv d5, iv ex, un, un] [(.int (own_cap n5))]))
    refine ziload X296 hx (hb hby at_261) rfl ?_
    have hd263 : (own_cap n5) = ex := hex.symm
    refine zicmpYes X296 hx (pc' := 268) (hb hby at_263) (teq hd263).1 (by decide) (by decide) ?_
    refine ziload X296 hx (hb hby at_268) rfl ?_
    refine zifYes X296 hx (pc' := 275) (hb hby at_270) ((if0 _ _).trans (feq (by decide : ¬ ((5 : Int32) = (0 : Int32)))).2) (by decide) (by decide) ?_
    refine zaload X296 hx (hb hby at_275) rfl rfl ?_
    refine ziloadN X296 hx (hb hby at_277) rfl ?_
    obtain ⟨cq297, kq297, q297a, q297b, q297c⟩ := isOf hZ e296 Et284
    obtain ⟨_, _, ⟨T297, L297, k297, n297⟩, -, X297, ⟨Lc297, hQ297, l297, y297, z297⟩, st297⟩ := X296.virtualBack hx (y := yn37) (z := yn37) hown (mvT hZ (wm hw 274 rfl)) (mvT hZ (wm hw 275 rfl)) (notFace_of_selects (args := #[]) (mvT hZ (wm hw 277 rfl))) (mvT hZ (wm hw 277 rfl)) (mvT hZ (wm hw 276 rfl)) (by decide) (backOf (W := 0) (rm38 l Z a0 hw [] b112 p0 b2 (ins (ins (ins (ins (ins (fun _ => false) p0) p1) p2) p3) p4) n5 T284.heap n0 Z284 Tb284 (by simp [ins])) hZ (wm hw 278 rfl) (wm hw 215 rfl) (by decide) (by decide)) q297a q297c (g := (mkF m 278 #[iv p0, iv p1, iv p2, iv p3, iv p4, iv p5, iv (5 : Int32), rv b2, rv b112, iv d5, iv ex, un, un] [(.int p0), (.ref b112)])) rfl (by rw [hml]; rfl) (Steps.refl _) (argsL := [(.int p0)]) (rest := []) (lenOf pd_25 rfl) rfl (by show 2 * 0 + _ ≤ _; exact Nat.le_of_eq rfl) (hb hby at_278) (fun _ _ => ⟨rfl, e296, (by decide : 41 + 5 ≤ _), (by decide : 411 + 20 ≤ _)⟩)
    dsimp only [Pt.U, Pt.locs, Pt.cells, Pt.slots] at X297 l297 y297 z297 st297 hQ297
    subst l297 y297 z297
    obtain ⟨z297, rfl, Nq297, ws297, Kc297, Cp297⟩ := hQ297
    have N297 := Fr.app N296 Nq297
    have f298 := f285.keep Kc297
    have f299 := f286.keep Kc297
    have f300 := f287.keep Kc297
    have f301 := f288.keep Kc297
    have f302 := f289.keep Kc297
    have f303 := Et284.keep Kc297
    have Z297 : n0 ≤ T297.heap.size := Nat.le_trans Z284 Kc297.1
    have Et297 := Cp297.1
    refine Go.stp (fun t_ k_ => st297.trans k_) ?_
    show Go p.tables e below G (T297.setTop (mkF m 281 #[iv p0, iv p1, iv p2, iv p3, iv p4, iv p5, iv (5 : Int32), rv b2, rv b112, iv d5, iv ex, un, un] [(.long z297)]))
    show Go p.tables e below G (T297.setTop (mkF m 281 #[iv p0, iv p1, iv p2, iv p3, iv p4, iv p5, iv (5 : Int32), rv b2, rv b112, iv d5, iv ex, un, un] [(.long z297)]))
    refine Go.stp (F' := T297.setTop (mkF m 282 #[iv p0, iv p1, iv p2, iv p3, iv p4, iv p5, iv (5 : Int32), rv b2, rv b112, iv d5, iv ex, un, un] [])) (fun t_ k_ => by jvm_step X297.here [X297.here.top, hx, (hb hby at_281), Value.category]; exact k_) ?_
    refine ziload X297 hx (hb hby at_282) rfl ?_
    refine ziconst X297 hx (hb hby at_284) (z := (1 : Int32)) rfl ?_
    refine zisub X297 hx (hb hby at_285) ?_
    refine zistore X297 hx (l' := #[iv p0, iv p1, iv p2, iv p3, iv p4, iv p5, iv (5 : Int32), rv b2, rv b112, iv d5, iv ex, iv (d5 - (1 : Int32)), un]) (hb hby at_286) rfl ?_
    refine ziload X297 hx (hb hby at_288) rfl ?_
    suffices J304 : ∀ (ea : Int32), ((((d5 - (1 : Int32)) = (0 : Int32)) ∧ ea = (0 : Int32)) ∨ (¬ ((d5 - (1 : Int32)) = (0 : Int32)) ∧ ((d5 - (1 : Int32)) < (4 : Int32)) ∧ ea = (4 : Int32)) ∨ (¬ ((d5 - (1 : Int32)) = (0 : Int32)) ∧ ¬ ((d5 - (1 : Int32)) < (4 : Int32)) ∧ ea = (8 : Int32))) → Go p.tables e below G (T297.setTop (mkF m 309 #[iv p0, iv p1, iv p2, iv p3, iv p4, iv p5, iv (5 : Int32), rv b2, rv b112, iv d5, iv ex, iv (d5 - (1 : Int32)), un] [(.int ea)])) by
      by_cases hc290 : (d5 - (1 : Int32)) = (0 : Int32)
      · refine zifNo X297 hx (hb hby at_290) ((if0 _ _).trans (teq hc290).2) ?_
        refine ziconst X297 hx (hb hby at_293) (z := (0 : Int32)) rfl ?_
        refine zgoto X297 hx (pc' := 309) (hb hby at_294) (by decide) (by decide) ?_
        exact J304 _ (Or.inl ⟨hc290, rfl⟩)
      · refine zifYes X297 hx (pc' := 297) (hb hby at_290) ((if0 _ _).trans (feq hc290).2) (by decide) (by decide) ?_
        refine ziload X297 hx (hb hby at_297) rfl ?_
        refine ziconst X297 hx (hb hby at_299) (z := (4 : Int32)) rfl ?_
        by_cases hc300 : (d5 - (1 : Int32)) < (4 : Int32)
        · refine zicmpYes X297 hx (pc' := 308) (hb hby at_300) (tlt hc300).1 (by decide) (by decide) ?_
          refine ziconst X297 hx (hb hby at_308) (z := (4 : Int32)) rfl ?_
          exact J304 _ (Or.inr (Or.inl ⟨hc290, hc300, rfl⟩))
        · refine zicmpNo X297 hx (hb hby at_300) (flt hc300).1 ?_
          refine zbipush X297 hx (hb hby at_303) (z := (8 : Int32)) rfl ?_
          refine zgoto X297 hx (pc' := 309) (hb hby at_305) (by decide) (by decide) ?_
          exact J304 _ (Or.inr (Or.inr ⟨hc290, hc300, rfl⟩))
    intro ea hj309
    have hea : ea = own_cap (n5 - 1) := by
      rcases hj309 with ⟨h1, h2⟩ | ⟨h1, h3, h2⟩ | ⟨h1, h3, h2⟩
      · rw [hd5] at h1; rw [h2]; exact own_r0 h1 (by omega) (by omega)
      · rw [hd5] at h1 h3; rw [h2]; exact own_r4 h1 h3 (by omega) (by omega)
      · rw [hd5] at h3; rw [h2]; exact own_r8 h3 (by omega) (by omega)
    refine zistore X297 hx (l' := #[iv p0, iv p1, iv p2, iv p3, iv p4, iv p5, iv (5 : Int32), rv b2, rv b112, iv d5, iv ex, iv (d5 - (1 : Int32)), iv ea]) (hb hby at_309) rfl ?_
    refine zaload X297 hx (hb hby at_311) rfl rfl ?_
    obtain ⟨cq305, kq305, q305a, q305b, q305c⟩ := isOf hZ rfl Et297
    obtain ⟨_, _, ⟨T305, L305, k305, n305⟩, -, X305, ⟨Lc305, hQ305, l305, y305, z305⟩, st305⟩ := X297.virtualBack hx (y := yn38) (z := yn38) hown (mvT hZ (wm hw 269 rfl)) (mvT hZ (wm hw 270 rfl)) (notFace_of_selects (args := #[]) (mvT hZ (wm hw 272 rfl))) (mvT hZ (wm hw 272 rfl)) (mvT hZ (wm hw 271 rfl)) (by decide) (backOf (W := 0) (rm37 l Z a0 hw [] b112 (n5 - 1) T297.heap n0 Z297 Cp297) hZ (wm hw 273 rfl) (wm hw 215 rfl) (by decide) (by decide)) q305a q305c (g := (mkF m 313 #[iv p0, iv p1, iv p2, iv p3, iv p4, iv p5, iv (5 : Int32), rv b2, rv b112, iv d5, iv ex, iv (d5 - (1 : Int32)), iv ea] [(.ref b112)])) rfl (by rw [hml]; rfl) (Steps.refl _) (argsL := []) (rest := []) (lenOf pd_9 rfl) rfl (by show 2 * 0 + _ ≤ _; exact Nat.le_of_eq rfl) (hb hby at_313) (fun _ _ => ⟨rfl, rfl, (by decide : 46 + 0 ≤ _), (by decide : 431 + 0 ≤ _)⟩)
    dsimp only [Pt.U, Pt.locs, Pt.cells, Pt.slots] at X305 l305 y305 z305 st305 hQ305
    subst l305 y305 z305
    obtain ⟨rfl, Nq305, e305⟩ := hQ305
    have N305 := Fr.app N297 Nq305
    refine Go.stp (fun t_ k_ => st305.trans k_) ?_
    show Go p.tables e below G (T305.setTop (mkF m 316 #[iv p0, iv p1, iv p2, iv p3, iv p4, iv p5, iv (5 : Int32), rv b2, rv b112, iv d5, iv ex, iv (d5 - (1 : Int32)), iv ea] [(.int (own_cap (n5 - 1)))]))
    refine ziload X305 hx (hb hby at_316) rfl ?_
    have hd318 : (own_cap (n5 - 1)) = ea := hea.symm
    refine zicmpNo X305 hx (hb hby at_318) (teq hd318).2 ?_
    refine ziconst X305 hx (hb hby at_321) (z := (1 : Int32)) rfl ?_
    refine zgoto X305 hx (pc' := 326) (hb hby at_322) (by decide) (by decide) ?_
    obtain ⟨fs, hr, hrun, hended, hEnd⟩ := X305.leaveW hS75 (by rw [e305]; exact f302) (v := some (.int (1 : Int32))) (fun h => by rw [Bd.returns] at h; cases h)
    refine ⟨_, _, retN X305 hx (t := .boolean) Bd.returns (by simp) (hb hby at_326) hr, hrun, hended, hG _ _ _ ?_ ⟨hEnd.1, hEnd.2.1, hEnd.2.2.1, hEnd.2.2.2.mono (by decide) (by decide)⟩⟩
    show Q0 Z p0 p1 p2 p3 p4 p5 kc sf ks ep tu h0 n0 _ T305.heap _
    rw [e305]
    exact ⟨rfl, N305⟩
set_option maxRecDepth 65536 in
set_option maxHeartbeats 40000000 in
theorem comes_1 {Post : Tables → Env → Array Value → State → Outcome → State → Prop} (hpost : ∀ tb e args s v u, (limb_1_1.after args s (.returned v) u = true ∧ limb_1_2.after args s (.returned v) u = true ∧ True) → ReturnedEndW s (.returned v) u (Jvm.fieldLocs frame_1_writes args s ++ Jvm.arrayLocs frame_1_arrays args s ++ Jvm.staticLocs frame_1_statics s) 64 5440 → Post tb e args s (.returned v) u) :
    ArmFor flags0 classFile x code maxLocals ret World_1 tables_1 room_1 Calls_1 rest_1 Pre_1 Post := by
  intro l hfl _ _ p e ha hc hk s m args below hf hA hF happ hP
  obtain ⟨hcalls, hrest, hpre⟩ := hP
  obtain ⟨-, -, -, hnamed, -, -, -, hat⟩ := (Spec.applies_iff hf).mp happ
  obtain ⟨hg, hn⟩ := and_e (Cond.before_iff.mp (show (Jvm.Cond.and given_1 narrow_1).before args s = true from hpre))
  obtain ⟨g1a, g1b⟩ := and_e hg
  obtain ⟨g2a, g2b⟩ := and_e g1b
  obtain ⟨g3a, g3b⟩ := and_e g2b
  obtain ⟨g4a, g4b⟩ := and_e g3b
  obtain ⟨g5a, g5b⟩ := and_e g4b
  obtain ⟨g6a, g6b⟩ := and_e g5b
  obtain ⟨w0, w1, w2, w3, w4, w5, rfl⟩ : ∃ w0 w1 w2 w3 w4 w5 : Value, args = #[w0, w1, w2, w3, w4, w5] := by
    have hs : args.size = 6 := by simpa [Cond.value, given_1] using g1a
    obtain ⟨L⟩ := args
    match L, hs with
    | [w0, w1, w2, w3, w4, w5], _ => exact ⟨w0, w1, w2, w3, w4, w5, rfl⟩
  have hw := fun d (hd : d ∈ tables_1) => atoms_spec (ws := Jvm.Cond.code x code maxLocals ret :: tables_1) hat d (List.mem_cons_of_mem _ hd)
  have hfit : Fit s := fun {y c} hc i hi => by
    obtain ⟨ha, rfl⟩ := Array.getElem?_eq_some_iff.mp hc
    have q := List.all_eq_true.mp ((Array.all_eq_true_iff_forall_mem.mp hF) _ (Array.getElem_mem ha)) i (List.mem_range.mpr hi)
    simpa [Array.getElem?_eq_getElem hi] using q
  obtain ⟨hsets, hown0⟩ := atoms_of _ (rest_1_c_eq ▸ (show rest_1_c.before _ s = true from hrest))
  obtain ⟨i0, ei0⟩ := is_v g2a
  obtain rfl : w0 = (.int i0) := Option.some.inj ei0
  obtain ⟨i1, ei1⟩ := is_v g3a
  obtain rfl : w1 = (.int i1) := Option.some.inj ei1
  obtain ⟨i2, ei2⟩ := is_v g4a
  obtain rfl : w2 = (.int i2) := Option.some.inj ei2
  obtain ⟨i3, ei3⟩ := is_v g5a
  obtain rfl : w3 = (.int i3) := Option.some.inj ei3
  obtain ⟨i4, ei4⟩ := is_v g6a
  obtain rfl : w4 = (.int i4) := Option.some.inj ei4
  obtain ⟨i5, ei5⟩ := is_v g6b
  obtain rfl : w5 = (.int i5) := Option.some.inj ei5
  obtain ⟨kc, evk⟩ := is_v (Cond.before_iff.mp (hsets _ (List.mem_of_getElem? (i := 1) rfl)))
  have S_cs := Sta.start evk (Or.inl (hsets _ (List.mem_of_getElem? (i := 0) rfl)))
  have hkc := own_nz0 evk (Cond.before_iff.mp (hsets _ (List.mem_of_getElem? (i := 2) rfl)))
  obtain ⟨sf, evs, hsf⟩ := isR_v (Cond.before_iff.mp (hsets _ (List.mem_of_getElem? (i := 8) rfl)))
  have S_sf := Sta.start evs (Or.inl (hsets _ (List.mem_of_getElem? (i := 7) rfl)))
  obtain ⟨nr1a, nr1b⟩ := and_e hn
  obtain ⟨ks, ev_ks⟩ := exa_v nr1a
  have S_ks : Sta s s.heap sn5 "KEY_SHARED" sn15 (.ref ks) := Sta.start ev_ks (Or.inr ⟨(wm hw 16 rfl), (wm hw 17 rfl)⟩)
  have E_ks : Exa s s.heap ks sn5 := Exa.start ev_ks nr1a
  obtain ⟨nr1a, nr1b⟩ := and_e hn
  obtain ⟨ep, ev_ep⟩ := exa_v nr1b
  have S_ep : Sta s s.heap sn6 "EARLIEST" sn16 (.ref ep) := Sta.start ev_ep (Or.inr ⟨(wm hw 19 rfl), (wm hw 20 rfl)⟩)
  have E_ep : Exa s s.heap ep sn6 := Exa.start ev_ep nr1b
  obtain ⟨tu, evt⟩ := exa_v (Cond.before_iff.mp (hsets _ (List.mem_of_getElem? (i := 11) rfl)))
  have S_tu := Sta.start evt (Or.inl (hsets _ (List.mem_of_getElem? (i := 10) rfl)))
  have E_tu := Exa.start evt (Cond.before_iff.mp (hsets _ (List.mem_of_getElem? (i := 11) rfl)))
  have F_sc := Fld.start ((fld_at evt).symm.trans (own_eqj (Cond.before_iff.mp (hsets _ (List.mem_of_getElem? (i := 14) rfl)))))
  have F_mn := Fld.start ((fld_at evt).symm.trans (own_eqj (Cond.before_iff.mp (hsets _ (List.mem_of_getElem? (i := 15) rfl)))))
  have hheld : Jvm.Lit.constHeld s sn23 10 := hcalls.1 (sn23, 10) (List.mem_of_getElem? (i := 4) rfl)
  have hcw := hsets _ (List.mem_of_getElem? (i := 2) rfl)
  obtain ⟨n, o, h1, h2, h3, _, L, rfl, ⟨rfl, N⟩, hq⟩ := rm0 l s _ hw tables_1 i0 i1 i2 i3 i4 i5 kc sf ks ep tu s.heap s.heap.size (Nat.le_refl _) S_cs hkc S_sf hsf S_ks S_ep S_tu E_tu F_sc F_mn hheld hcw p e ha hc hk s m _ below hf ((Spec.applies_iff_loose hf).mp happ).1 ⟨rfl, rfl, rfl⟩ trivial
  refine ⟨n, _, h1, h2, h3, hpost _ _ _ _ _ _ ⟨Cond.after_iff.mpr rfl, Cond.after_iff.mpr (eq_i res_at (Term.int_eval (1)) rfl), trivial⟩ ⟨hq.1, hq.2.1, hq.2.2.1, (hq.2.2.2.sift fun y hy => Or.inr (N y hy)).mono (by decide) (by decide)⟩⟩
theorem main_1_1 : Claimed_1_1 := comes_1 fun _ _ _ _ _ _ h hF => ⟨h.1, hF⟩
theorem main_1_2 : Claimed_1_2 := comes_1 fun _ _ _ _ _ _ h hF => ⟨h.2.1, hF⟩
end Jvm.Pilot.@@N@@
namespace Jvm.Pilot.@@N@@
open Jvm Jvm.ClassFile Sem Op Lib Jvm.Free Jvm.Stand Jvm.Pilot.@@N@@.Jvm.D
/-! MADE BY PROGRAM (witnessworld.py) out of the Statement's table words and the real class files: 50 classes; the members and pool entries that the words name. The judged class is class 1, her method 1. -/
namespace start1
open Jvm.ClassFile
def u (s : String) : CpInfo := .utf8 (stringToUtf16 s)
/-- a pool by its gaps: so many unusable entries, then the entry; so many at the end -/
def gap : Nat → List CpInfo → List CpInfo
  | 0, r => r
  | n + 1, r => .unusable :: gap n r
def poolList (es : List (Nat × CpInfo)) (last : Nat) : List CpInfo := es.foldr (fun e r => gap e.1 (e.2 :: r)) (gap last [])
def pool (es : List (Nat × CpInfo)) (last : Nat) : Array CpInfo := ⟨poolList es last⟩
def fileOf (pool : Array CpInfo) (this : Nat) (attrs : Array Attribute := #[]) (ms : Array MethodInfo := #[]) (fl : Nat := 33) (sup : Nat := 0) (ifs : Array Nat := #[]) (fds : Array FieldInfo := #[]) : ClassFile where
  minorVersion := 0
  majorVersion := 65
  constantPool := pool
  accessFlags := fl
  thisClass := this
  superClass := sup
  interfaces := ifs
  fields := fds
  methods := ms
  attributes := attrs
def plain (name : String) (sup : Option ClassId) : Class where
  name := name
  kind := .ordinary
  loader := none
  accessFlags := 33
  super := sup
  interfaces := #[]
  cf := none
  fields := #[]
  methods := #[]
  instanceTypes := #[]
  staticTypes := #[]
  resolved := #[]
  callSites := []
  init := .initialized
  statics := none
  mirror := none

def pool0 : Array CpInfo := pool [(5, u "<init>"), (0, u "()V"), (1, .class_ 10), (1, u "java/lang/Object")] 113

def k0c0 : Code := { maxStack := 0, maxLocals := 1, code := object_method_1_code, exceptionTable := #[], attributes := #[] }
def k0m0 : Method := { name := "<init>", desc := "()V", sig := { parameters := [], returnType := none }, accessFlags := 1, code := some k0c0 }
/-- java/lang/Object -/
def k0 : Class := { plain "java/lang/Object" none with
  accessFlags := 33
  interfaces := #[]
  cf := some (fileOf pool0 8 #[] #[{ accessFlags := 1, nameIndex := 5, descriptorIndex := 6, attributes := #[] }] 33 0 #[] #[])
  fields := #[]
  methods := #[k0m0]
  instanceTypes := #[]
  staticTypes := #[]
  resolved := Array.replicate 124 none
  statics := none }

def pool1 : Array CpInfo := pool [(2, .class_ 4), (0, .nameAndType 5 6), (0, u "java/lang/Object"), (0, u "<init>"), (0, u "()V"), (0, .integer 2147483647), (0, .class_ 9), (0, u "com/example/keys_in_order/keysinorder/Consumer"), (0, .string 11), (0, u "c"), (0, .class_ 13), (0, u "com/example/keys_in_order/keysinorder/ConsumerOptions"), (0, .fieldref 15 16), (0, .class_ 17), (0, .nameAndType 18 19), (0, u "com/example/keys_in_order/keysinorder/SubscriptionType"), (0, u "KEY_SHARED"), (0, u "Lcom/example/keys_in_order/keysinorder/SubscriptionType;"), (0, .fieldref 21 22), (0, .class_ 23), (0, .nameAndType 24 25), (0, u "com/example/keys_in_order/keysinorder/InitialPosition"), (0, u "EARLIEST"), (0, u "Lcom/example/keys_in_order/keysinorder/InitialPosition;"), (0, .methodref 12 27), (0, .nameAndType 5 28), (0, u "(Ljava/lang/String;Lcom/example/keys_in_order/keysinorder/SubscriptionType;Lcom/example/keys_in_order/keysinorder/InitialPosition;I)V"), (0, .methodref 8 30), (0, .nameAndType 5 31), (0, u "(Ljava/lang/String;Lcom/example/keys_in_order/keysinorder/ConsumerOptions;Lcom/example/keys_in_order/keysinorder/Topic;Lcom/example/keys_in_order/keysinorder/Subscription;J)V"), (0, .class_ 33), (0, u "com/example/keys_in_order/keysinorder/DrainingHashes"), (0, .methodref 32 3), (0, .methodref 32 36), (0, .nameAndType 37 38), (0, u "add"), (0, u "(ILcom/example/keys_in_order/keysinorder/Consumer;J)V"), (0, .long 2), (1, .long 3), (1, .long 4), (1, .methodref 32 46), (0, .nameAndType 47 48), (0, u "capacity"), (0, u "()I"), (0, .methodref 32 50), (0, .nameAndType 51 52), (0, u "remove"), (0, u "(I)J"), (0, .class_ 54), (0, u "com/example/keys_in_order/keysinorder/DrainingHashesCapacityPinLaw"), (2, u "law"), (0, u "(IIIIII)Z")] 3

def k1m0 : Method := { name := "<init>", desc := "()V", sig := { parameters := [], returnType := none }, accessFlags := 1, code := none }
def k1c1 : Code := { maxStack := 9, maxLocals := 13, code := code, exceptionTable := #[], attributes := #[] }
def k1m1 : Method := { name := "law", desc := "(IIIIII)Z", sig := { parameters := [.int, .int, .int, .int, .int, .int], returnType := some .boolean }, accessFlags := 9, code := some k1c1 }
/-- com/example/keys_in_order/keysinorder/DrainingHashesCapacityPinLaw -/
def k1 : Class := { plain "com/example/keys_in_order/keysinorder/DrainingHashesCapacityPinLaw" (some 0) with
  accessFlags := 49
  interfaces := #[]
  cf := some (fileOf pool1 53 #[] #[{ accessFlags := 1, nameIndex := 5, descriptorIndex := 6, attributes := #[] }, { accessFlags := 9, nameIndex := 57, descriptorIndex := 58, attributes := #[] }] 49 2 #[] #[])
  fields := #[]
  methods := #[k1m0, k1m1]
  instanceTypes := #[]
  staticTypes := #[]
  resolved := Array.replicate 62 none
  statics := none }

def pool2 : Array CpInfo := pool [(1, .methodref 2 3), (0, .class_ 4), (0, .nameAndType 5 6), (0, u "java/lang/Object"), (0, u "<init>"), (0, u "()V"), (0, .class_ 8), (0, u "java/util/TreeSet"), (0, .methodref 7 3), (0, .fieldref 11 12), (0, .class_ 13), (0, .nameAndType 14 15), (0, u "com/example/keys_in_order/keysinorder/Consumer"), (0, u "unacked"), (0, u "Ljava/util/NavigableSet;"), (0, .fieldref 11 17), (0, .nameAndType 18 19), (0, u "attached"), (0, u "Z"), (0, .fieldref 11 21), (0, .nameAndType 22 23), (0, u "id"), (0, u "Ljava/lang/String;"), (0, .fieldref 11 25), (0, .nameAndType 26 27), (0, u "options"), (0, u "Lcom/example/keys_in_order/keysinorder/ConsumerOptions;"), (0, .fieldref 29 30), (0, .class_ 31), (0, .nameAndType 32 33), (0, u "java/util/concurrent/TimeUnit"), (0, u "MILLISECONDS"), (0, u "Ljava/util/concurrent/TimeUnit;"), (0, .methodref 35 36), (0, .class_ 37), (0, .nameAndType 38 39), (0, u "com/example/keys_in_order/keysinorder/ConsumerOptions"), (0, u "leaseMs"), (0, u "()J"), (0, .methodref 29 41), (0, .nameAndType 42 43), (0, u "toNanos"), (0, u "(J)J"), (0, .fieldref 11 45), (0, .nameAndType 46 47), (0, u "leaseNanos"), (0, u "J"), (0, .fieldref 11 49), (0, .nameAndType 50 51), (0, u "topic"), (0, u "Lcom/example/keys_in_order/keysinorder/Topic;"), (0, .fieldref 11 53), (0, .nameAndType 54 55), (0, u "subscription"), (0, u "Lcom/example/keys_in_order/keysinorder/Subscription;"), (0, .fieldref 11 57), (0, .nameAndType 58 47), (0, u "leaseEnds"), (14, u "pulls"), (0, u "I"), (6, u "drainedHashes"), (2, u "(Ljava/lang/String;Lcom/example/keys_in_order/keysinorder/ConsumerOptions;Lcom/example/keys_in_order/keysinorder/Topic;Lcom/example/keys_in_order/keysinorder/Subscription;J)V")] 16

def k2c0 : Code := { maxStack := 5, maxLocals := 7, code := prog_2_method_1_code, exceptionTable := #[], attributes := #[] }
def k2m0 : Method := { name := "<init>", desc := "(Ljava/lang/String;Lcom/example/keys_in_order/keysinorder/ConsumerOptions;Lcom/example/keys_in_order/keysinorder/Topic;Lcom/example/keys_in_order/keysinorder/Subscription;J)V", sig := { parameters := [(.object "java/lang/String"), (.object "com/example/keys_in_order/keysinorder/ConsumerOptions"), (.object "com/example/keys_in_order/keysinorder/Topic"), (.object "com/example/keys_in_order/keysinorder/Subscription"), .long], returnType := none }, accessFlags := 0, code := some k2c0 }
/-- com/example/keys_in_order/keysinorder/Consumer -/
def k2 : Class := { plain "com/example/keys_in_order/keysinorder/Consumer" (some 0) with
  accessFlags := 48
  interfaces := #[]
  cf := some (fileOf pool2 11 #[] #[{ accessFlags := 0, nameIndex := 5, descriptorIndex := 84, attributes := #[] }] 48 2 #[] #[{ accessFlags := 18, nameIndex := 22, descriptorIndex := 23, attributes := #[] }, { accessFlags := 18, nameIndex := 26, descriptorIndex := 27, attributes := #[] }, { accessFlags := 18, nameIndex := 46, descriptorIndex := 47, attributes := #[] }, { accessFlags := 18, nameIndex := 50, descriptorIndex := 51, attributes := #[] }, { accessFlags := 18, nameIndex := 54, descriptorIndex := 55, attributes := #[] }, { accessFlags := 18, nameIndex := 14, descriptorIndex := 15, attributes := #[] }, { accessFlags := 2, nameIndex := 18, descriptorIndex := 19, attributes := #[] }, { accessFlags := 2, nameIndex := 81, descriptorIndex := 47, attributes := #[] }, { accessFlags := 66, nameIndex := 58, descriptorIndex := 47, attributes := #[] }, { accessFlags := 66, nameIndex := 73, descriptorIndex := 74, attributes := #[] }])
  fields := #[{ name := "id", type := (.object "java/lang/String"), accessFlags := 18, slot := 0, constantValue := 0 }, { name := "options", type := (.object "com/example/keys_in_order/keysinorder/ConsumerOptions"), accessFlags := 18, slot := 1, constantValue := 0 }, { name := "leaseNanos", type := .long, accessFlags := 18, slot := 2, constantValue := 0 }, { name := "topic", type := (.object "com/example/keys_in_order/keysinorder/Topic"), accessFlags := 18, slot := 3, constantValue := 0 }, { name := "subscription", type := (.object "com/example/keys_in_order/keysinorder/Subscription"), accessFlags := 18, slot := 4, constantValue := 0 }, { name := "unacked", type := (.object "java/util/NavigableSet"), accessFlags := 18, slot := 5, constantValue := 0 }, { name := "attached", type := .boolean, accessFlags := 2, slot := 6, constantValue := 0 }, { name := "drainedHashes", type := .long, accessFlags := 2, slot := 7, constantValue := 0 }, { name := "leaseEnds", type := .long, accessFlags := 66, slot := 8, constantValue := 0 }, { name := "pulls", type := .int, accessFlags := 66, slot := 9, constantValue := 0 }]
  methods := #[k2m0]
  instanceTypes := #[(.object "java/lang/String"), (.object "com/example/keys_in_order/keysinorder/ConsumerOptions"), .long, (.object "com/example/keys_in_order/keysinorder/Topic"), (.object "com/example/keys_in_order/keysinorder/Subscription"), (.object "java/util/NavigableSet"), .boolean, .long, .long, .int]
  staticTypes := #[]
  resolved := Array.replicate 101 none
  statics := none }

def pool3 : Array CpInfo := pool [(1, .class_ 2), (0, u "java/io/Serializable"), (0, .class_ 4), (0, u "java/lang/Object")] 2

/-- java/io/Serializable -/
def k3 : Class := { plain "java/io/Serializable" (some 0) with
  accessFlags := 1537
  interfaces := #[]
  cf := some (fileOf pool3 1 #[] #[] 1537 3 #[] #[])
  fields := #[]
  methods := #[]
  instanceTypes := #[]
  staticTypes := #[]
  resolved := Array.replicate 7 none
  statics := none }

def pool4 : Array CpInfo := pool [(1, .class_ 2), (0, u "java/lang/Comparable"), (0, .class_ 4), (0, u "java/lang/Object")] 7

/-- java/lang/Comparable -/
def k4 : Class := { plain "java/lang/Comparable" (some 0) with
  accessFlags := 1537
  interfaces := #[]
  cf := some (fileOf pool4 1 #[] #[] 1537 3 #[] #[])
  fields := #[]
  methods := #[]
  instanceTypes := #[]
  staticTypes := #[]
  resolved := Array.replicate 12 none
  statics := none }

def pool5 : Array CpInfo := pool [(2, .class_ 4), (1, u "java/lang/CharSequence"), (42, .class_ 48), (0, u "java/lang/CharSequence$1CodePointIterator"), (10, .class_ 60), (0, u "java/lang/CharSequence$1CharIterator"), (5, .class_ 67), (0, u "java/lang/Object")] 63

/-- java/lang/CharSequence -/
def k5 : Class := { plain "java/lang/CharSequence" (some 0) with
  accessFlags := 1537
  interfaces := #[]
  cf := some (fileOf pool5 2 #[.nestMembers #[47, 59]] #[] 1537 66 #[] #[])
  fields := #[]
  methods := #[]
  instanceTypes := #[]
  staticTypes := #[]
  resolved := Array.replicate 131 none
  statics := none }

def pool6 : Array CpInfo := pool [(1, .class_ 2), (0, u "java/lang/constant/Constable"), (0, .class_ 4), (0, u "java/lang/Object")] 6

/-- java/lang/constant/Constable -/
def k6 : Class := { plain "java/lang/constant/Constable" (some 0) with
  accessFlags := 1537
  interfaces := #[]
  cf := some (fileOf pool6 1 #[] #[] 1537 3 #[] #[])
  fields := #[]
  methods := #[]
  instanceTypes := #[]
  staticTypes := #[]
  resolved := Array.replicate 11 none
  statics := none }

def pool7 : Array CpInfo := pool [(1, .class_ 2), (0, u "java/lang/constant/ConstantDesc"), (0, .class_ 4), (0, u "java/lang/Object")] 32

/-- java/lang/constant/ConstantDesc -/
def k7 : Class := { plain "java/lang/constant/ConstantDesc" (some 0) with
  accessFlags := 1537
  interfaces := #[]
  cf := some (fileOf pool7 1 #[] #[] 1537 3 #[] #[])
  fields := #[]
  methods := #[]
  instanceTypes := #[]
  staticTypes := #[]
  resolved := Array.replicate 37 none
  statics := none }

def pool8 : Array CpInfo := pool [(2, .class_ 4), (1, u "java/lang/Object"), (0, u "<init>"), (0, u "()V"), (2, .fieldref 10 11), (0, .class_ 12), (0, .nameAndType 13 14), (0, u "java/lang/String"), (0, u "value"), (0, u "[B"), (0, .fieldref 10 16), (0, .nameAndType 17 18), (0, u "coder"), (0, u "B"), (2, u "hash"), (0, u "I"), (2, u "hashIsZero"), (0, u "Z"), (11, .fieldref 10 39), (0, .nameAndType 40 26), (0, u "COMPACT_STRINGS"), (66, .class_ 109), (1, u "java/lang/StringLatin1"), (32, u "()Z"), (191, u "()I"), (0, .methodref 10 336), (0, .nameAndType 17 337), (0, u "()B"), (25, u "([BI)C"), (27, u "(II)V"), (35, u "(I)C"), (64, .methodref 10 493), (0, .nameAndType 494 142), (0, u "isLatin1"), (0, .methodref 107 496), (0, .nameAndType 497 363), (0, u "charAt"), (3, u "checkIndex"), (5, u "length"), (67, .class_ 576), (0, u "java/lang/CharSequence"), (22, u "CASE_INSENSITIVE_ORDER"), (0, u "Ljava/util/Comparator;"), (91, u "isEmpty"), (360, .fieldref 1054 1055), (0, .class_ 1056), (0, .nameAndType 1057 1058), (0, u "jdk/internal/util/Preconditions"), (0, u "SIOOBE_FORMATTER"), (0, u "Ljava/util/function/BiFunction;"), (0, .methodref 1054 1060), (0, .nameAndType 501 1061), (0, u "(IILjava/util/function/BiFunction;)I"), (39, u "serialPersistentFields"), (0, u "[Ljava/io/ObjectStreamField;"), (0, .class_ 1104), (0, u "java/lang/String$CaseInsensitiveComparator"), (1, .class_ 1107), (0, u "java/io/Serializable"), (0, .class_ 1109), (0, u "java/lang/Comparable"), (0, .class_ 1111), (0, u "java/lang/constant/Constable"), (0, .class_ 1113), (0, u "java/lang/constant/ConstantDesc"), (2, u "serialVersionUID"), (0, u "J"), (3, u "REPL"), (0, u "C"), (2, u "LATIN1"), (1, u "UTF16")] 323

def k8m0 : Method := { name := "<init>", desc := "()V", sig := { parameters := [], returnType := none }, accessFlags := 1, code := none }
def k8c1 : Code := { maxStack := 2, maxLocals := 1, code := jdk_42_method_54_code, exceptionTable := #[], attributes := #[] }
def k8m1 : Method := { name := "length", desc := "()I", sig := { parameters := [], returnType := some .int }, accessFlags := 1, code := some k8c1 }
def k8c2 : Code := { maxStack := 1, maxLocals := 1, code := jdk_42_method_55_code, exceptionTable := #[], attributes := #[] }
def k8m2 : Method := { name := "isEmpty", desc := "()Z", sig := { parameters := [], returnType := some .boolean }, accessFlags := 1, code := some k8c2 }
def k8c3 : Code := { maxStack := 2, maxLocals := 2, code := jdk_42_method_56_code, exceptionTable := #[], attributes := #[] }
def k8m3 : Method := { name := "charAt", desc := "(I)C", sig := { parameters := [.int], returnType := some .char }, accessFlags := 1, code := some k8c3 }
def k8c4 : Code := { maxStack := 1, maxLocals := 1, code := jdk_42_method_152_code, exceptionTable := #[], attributes := #[] }
def k8m4 : Method := { name := "coder", desc := "()B", sig := { parameters := [], returnType := some .byte }, accessFlags := 0, code := some k8c4 }
def k8c5 : Code := { maxStack := 1, maxLocals := 1, code := jdk_42_method_154_code, exceptionTable := #[], attributes := #[] }
def k8m5 : Method := { name := "isLatin1", desc := "()Z", sig := { parameters := [], returnType := some .boolean }, accessFlags := 0, code := some k8c5 }
def k8c6 : Code := { maxStack := 3, maxLocals := 2, code := jdk_42_method_155_code, exceptionTable := #[], attributes := #[] }
def k8m6 : Method := { name := "checkIndex", desc := "(II)V", sig := { parameters := [.int, .int], returnType := none }, accessFlags := 8, code := some k8c6 }
/-- java/lang/String -/
def k8 : Class := { plain "java/lang/String" (some 0) with
  accessFlags := 49
  interfaces := #[3, 4, 5, 6, 7]
  cf := some (fileOf pool8 10 #[.nestMembers #[1103]] #[{ accessFlags := 1, nameIndex := 5, descriptorIndex := 6, attributes := #[] }, { accessFlags := 1, nameIndex := 507, descriptorIndex := 334, attributes := #[] }, { accessFlags := 1, nameIndex := 692, descriptorIndex := 142, attributes := #[] }, { accessFlags := 1, nameIndex := 497, descriptorIndex := 427, attributes := #[] }, { accessFlags := 0, nameIndex := 17, descriptorIndex := 337, attributes := #[] }, { accessFlags := 0, nameIndex := 494, descriptorIndex := 142, attributes := #[] }, { accessFlags := 8, nameIndex := 501, descriptorIndex := 391, attributes := #[] }] 49 2 #[1106, 1108, 575, 1110, 1112] #[{ accessFlags := 18, nameIndex := 13, descriptorIndex := 14, attributes := #[] }, { accessFlags := 18, nameIndex := 17, descriptorIndex := 18, attributes := #[] }, { accessFlags := 2, nameIndex := 21, descriptorIndex := 22, attributes := #[] }, { accessFlags := 2, nameIndex := 25, descriptorIndex := 26, attributes := #[] }, { accessFlags := 26, nameIndex := 1116, descriptorIndex := 1117, attributes := #[] }, { accessFlags := 24, nameIndex := 40, descriptorIndex := 26, attributes := #[] }, { accessFlags := 26, nameIndex := 1101, descriptorIndex := 1102, attributes := #[] }, { accessFlags := 26, nameIndex := 1121, descriptorIndex := 1122, attributes := #[] }, { accessFlags := 25, nameIndex := 599, descriptorIndex := 600, attributes := #[] }, { accessFlags := 24, nameIndex := 1125, descriptorIndex := 18, attributes := #[] }, { accessFlags := 24, nameIndex := 1127, descriptorIndex := 18, attributes := #[] }])
  fields := #[{ name := "value", type := (.array .byte), accessFlags := 18, slot := 0, constantValue := 0 }, { name := "coder", type := .byte, accessFlags := 18, slot := 1, constantValue := 0 }, { name := "hash", type := .int, accessFlags := 2, slot := 2, constantValue := 0 }, { name := "hashIsZero", type := .boolean, accessFlags := 2, slot := 3, constantValue := 0 }, { name := "serialVersionUID", type := .long, accessFlags := 26, slot := 0, constantValue := 0 }, { name := "COMPACT_STRINGS", type := .boolean, accessFlags := 24, slot := 1, constantValue := 0 }, { name := "serialPersistentFields", type := (.array (.object "java/io/ObjectStreamField")), accessFlags := 26, slot := 2, constantValue := 0 }, { name := "REPL", type := .char, accessFlags := 26, slot := 3, constantValue := 0 }, { name := "CASE_INSENSITIVE_ORDER", type := (.object "java/util/Comparator"), accessFlags := 25, slot := 4, constantValue := 0 }, { name := "LATIN1", type := .byte, accessFlags := 24, slot := 5, constantValue := 0 }, { name := "UTF16", type := .byte, accessFlags := 24, slot := 6, constantValue := 0 }]
  methods := #[k8m0, k8m1, k8m2, k8m3, k8m4, k8m5, k8m6]
  instanceTypes := #[(.array .byte), .byte, .int, .boolean]
  staticTypes := #[.long, .boolean, (.array (.object "java/io/ObjectStreamField")), .char, (.object "java/util/Comparator"), .byte, .byte]
  resolved := Array.replicate 1451 none
  statics := some 0 }

def pool9 : Array CpInfo := pool [(1, .methodref 2 3), (0, .class_ 4), (0, .nameAndType 5 6), (0, u "java/lang/Object"), (0, u "<init>"), (0, u "()V"), (0, .class_ 8), (0, u "java/lang/Record")] 13

def k9c0 : Code := { maxStack := 1, maxLocals := 1, code := jdk_30_method_1_code, exceptionTable := #[], attributes := #[] }
def k9m0 : Method := { name := "<init>", desc := "()V", sig := { parameters := [], returnType := none }, accessFlags := 4, code := some k9c0 }
/-- java/lang/Record -/
def k9 : Class := { plain "java/lang/Record" (some 0) with
  accessFlags := 1057
  interfaces := #[]
  cf := some (fileOf pool9 7 #[] #[{ accessFlags := 4, nameIndex := 5, descriptorIndex := 6, attributes := #[] }] 1057 2 #[] #[])
  fields := #[]
  methods := #[k9m0]
  instanceTypes := #[]
  staticTypes := #[]
  resolved := Array.replicate 22 none
  statics := none }

def pool10 : Array CpInfo := pool [(1, .methodref 2 3), (0, .class_ 4), (0, .nameAndType 5 6), (0, u "java/lang/Record"), (0, u "<init>"), (0, u "()V"), (0, .string 8), (0, u "consumer"), (0, .methodref 10 11), (0, .class_ 12), (0, .nameAndType 13 14), (0, u "com/example/keys_in_order/keysinorder/Names"), (0, u "require"), (0, u "(Ljava/lang/String;Ljava/lang/String;)Ljava/lang/String;"), (0, .string 16), (0, u "type"), (0, .methodref 18 19), (0, .class_ 20), (0, .nameAndType 21 22), (0, u "java/util/Objects"), (0, u "requireNonNull"), (0, u "(Ljava/lang/Object;Ljava/lang/String;)Ljava/lang/Object;"), (0, .string 24), (0, u "initialPosition"), (0, .string 26), (0, u "nackBackoff"), (7, .class_ 35), (0, u "com/example/keys_in_order/keysinorder/ConsumerOptions"), (0, .long 1000), (1, .long 3600000), (3, .fieldref 34 43), (0, .nameAndType 44 45), (0, u "name"), (0, u "Ljava/lang/String;"), (0, .fieldref 34 47), (0, .nameAndType 16 48), (0, u "Lcom/example/keys_in_order/keysinorder/SubscriptionType;"), (0, .fieldref 34 50), (0, .nameAndType 24 51), (0, u "Lcom/example/keys_in_order/keysinorder/InitialPosition;"), (0, .fieldref 34 53), (0, .nameAndType 54 55), (0, u "maxUnacked"), (0, u "I"), (0, .fieldref 34 57), (0, .nameAndType 58 59), (0, u "leaseMs"), (0, u "J"), (0, .fieldref 34 61), (0, .nameAndType 26 62), (0, u "Lcom/example/keys_in_order/keysinorder/NackBackoff;"), (0, .class_ 64), (0, u "com/example/keys_in_order/keysinorder/NackBackoff"), (0, .long 60000), (1, .methodref 63 68), (0, .nameAndType 69 70), (0, u "fixed"), (0, u "(J)Lcom/example/keys_in_order/keysinorder/NackBackoff;"), (0, .methodref 34 72), (0, .nameAndType 5 73), (0, u "(Ljava/lang/String;Lcom/example/keys_in_order/keysinorder/SubscriptionType;Lcom/example/keys_in_order/keysinorder/InitialPosition;IJLcom/example/keys_in_order/keysinorder/NackBackoff;)V"), (0, .long 30000), (1, .methodref 34 77), (0, .nameAndType 5 78), (0, u "(Ljava/lang/String;Lcom/example/keys_in_order/keysinorder/SubscriptionType;Lcom/example/keys_in_order/keysinorder/InitialPosition;IJ)V"), (12, u "MIN_LEASE_MS"), (1, u "MAX_LEASE_MS"), (0, u "DEFAULT_LEASE_MS"), (10, u "(Ljava/lang/String;Lcom/example/keys_in_order/keysinorder/SubscriptionType;Lcom/example/keys_in_order/keysinorder/InitialPosition;I)V"), (5, u "()J")] 26

def k10c0 : Code := { maxStack := 4, maxLocals := 8, code := prog_3_method_1_code, exceptionTable := #[], attributes := #[] }
def k10m0 : Method := { name := "<init>", desc := "(Ljava/lang/String;Lcom/example/keys_in_order/keysinorder/SubscriptionType;Lcom/example/keys_in_order/keysinorder/InitialPosition;IJLcom/example/keys_in_order/keysinorder/NackBackoff;)V", sig := { parameters := [(.object "java/lang/String"), (.object "com/example/keys_in_order/keysinorder/SubscriptionType"), (.object "com/example/keys_in_order/keysinorder/InitialPosition"), .int, .long, (.object "com/example/keys_in_order/keysinorder/NackBackoff")], returnType := none }, accessFlags := 1, code := some k10c0 }
def k10c1 : Code := { maxStack := 9, maxLocals := 7, code := prog_3_method_2_code, exceptionTable := #[], attributes := #[] }
def k10m1 : Method := { name := "<init>", desc := "(Ljava/lang/String;Lcom/example/keys_in_order/keysinorder/SubscriptionType;Lcom/example/keys_in_order/keysinorder/InitialPosition;IJ)V", sig := { parameters := [(.object "java/lang/String"), (.object "com/example/keys_in_order/keysinorder/SubscriptionType"), (.object "com/example/keys_in_order/keysinorder/InitialPosition"), .int, .long], returnType := none }, accessFlags := 1, code := some k10c1 }
def k10c2 : Code := { maxStack := 7, maxLocals := 5, code := prog_3_method_3_code, exceptionTable := #[], attributes := #[] }
def k10m2 : Method := { name := "<init>", desc := "(Ljava/lang/String;Lcom/example/keys_in_order/keysinorder/SubscriptionType;Lcom/example/keys_in_order/keysinorder/InitialPosition;I)V", sig := { parameters := [(.object "java/lang/String"), (.object "com/example/keys_in_order/keysinorder/SubscriptionType"), (.object "com/example/keys_in_order/keysinorder/InitialPosition"), .int], returnType := none }, accessFlags := 1, code := some k10c2 }
def k10c3 : Code := { maxStack := 2, maxLocals := 1, code := prog_3_method_11_code, exceptionTable := #[], attributes := #[] }
def k10m3 : Method := { name := "leaseMs", desc := "()J", sig := { parameters := [], returnType := some .long }, accessFlags := 1, code := some k10c3 }
/-- com/example/keys_in_order/keysinorder/ConsumerOptions -/
def k10 : Class := { plain "com/example/keys_in_order/keysinorder/ConsumerOptions" (some 9) with
  accessFlags := 49
  interfaces := #[]
  cf := some (fileOf pool10 34 #[] #[{ accessFlags := 1, nameIndex := 5, descriptorIndex := 73, attributes := #[] }, { accessFlags := 1, nameIndex := 5, descriptorIndex := 78, attributes := #[] }, { accessFlags := 1, nameIndex := 5, descriptorIndex := 105, attributes := #[] }, { accessFlags := 1, nameIndex := 58, descriptorIndex := 111, attributes := #[] }] 49 2 #[] #[{ accessFlags := 18, nameIndex := 44, descriptorIndex := 45, attributes := #[] }, { accessFlags := 18, nameIndex := 16, descriptorIndex := 48, attributes := #[] }, { accessFlags := 18, nameIndex := 24, descriptorIndex := 51, attributes := #[] }, { accessFlags := 18, nameIndex := 54, descriptorIndex := 55, attributes := #[] }, { accessFlags := 18, nameIndex := 58, descriptorIndex := 59, attributes := #[] }, { accessFlags := 18, nameIndex := 26, descriptorIndex := 62, attributes := #[] }, { accessFlags := 25, nameIndex := 91, descriptorIndex := 59, attributes := #[] }, { accessFlags := 25, nameIndex := 93, descriptorIndex := 59, attributes := #[] }, { accessFlags := 25, nameIndex := 94, descriptorIndex := 59, attributes := #[] }])
  fields := #[{ name := "name", type := (.object "java/lang/String"), accessFlags := 18, slot := 0, constantValue := 0 }, { name := "type", type := (.object "com/example/keys_in_order/keysinorder/SubscriptionType"), accessFlags := 18, slot := 1, constantValue := 0 }, { name := "initialPosition", type := (.object "com/example/keys_in_order/keysinorder/InitialPosition"), accessFlags := 18, slot := 2, constantValue := 0 }, { name := "maxUnacked", type := .int, accessFlags := 18, slot := 3, constantValue := 0 }, { name := "leaseMs", type := .long, accessFlags := 18, slot := 4, constantValue := 0 }, { name := "nackBackoff", type := (.object "com/example/keys_in_order/keysinorder/NackBackoff"), accessFlags := 18, slot := 5, constantValue := 0 }, { name := "MIN_LEASE_MS", type := .long, accessFlags := 25, slot := 0, constantValue := 0 }, { name := "MAX_LEASE_MS", type := .long, accessFlags := 25, slot := 1, constantValue := 0 }, { name := "DEFAULT_LEASE_MS", type := .long, accessFlags := 25, slot := 2, constantValue := 0 }]
  methods := #[k10m0, k10m1, k10m2, k10m3]
  instanceTypes := #[(.object "java/lang/String"), (.object "com/example/keys_in_order/keysinorder/SubscriptionType"), (.object "com/example/keys_in_order/keysinorder/InitialPosition"), .int, .long, (.object "com/example/keys_in_order/keysinorder/NackBackoff")]
  staticTypes := #[.long, .long, .long]
  resolved := Array.replicate 138 none
  statics := none }

def pool11 : Array CpInfo := pool [(2, .class_ 4), (1, u "java/lang/Enum"), (0, u "name"), (0, u "Ljava/lang/String;"), (2, u "ordinal"), (0, u "I"), (1, .class_ 14), (1, u "java/lang/Object"), (4, u "hash"), (86, .class_ 108), (1, u "java/lang/Enum$EnumDesc"), (2, .class_ 112), (0, u "java/lang/constant/Constable"), (0, .class_ 114), (0, u "java/lang/Comparable"), (0, .class_ 116), (0, u "java/io/Serializable")] 87

/-- java/lang/Enum -/
def k11 : Class := { plain "java/lang/Enum" (some 0) with
  accessFlags := 1057
  interfaces := #[6, 4, 3]
  cf := some (fileOf pool11 2 #[.nestMembers #[106]] #[] 1057 12 #[111, 113, 115] #[{ accessFlags := 18, nameIndex := 5, descriptorIndex := 6, attributes := #[] }, { accessFlags := 18, nameIndex := 9, descriptorIndex := 10, attributes := #[] }, { accessFlags := 2, nameIndex := 19, descriptorIndex := 10, attributes := #[] }])
  fields := #[{ name := "name", type := (.object "java/lang/String"), accessFlags := 18, slot := 0, constantValue := 0 }, { name := "ordinal", type := .int, accessFlags := 18, slot := 1, constantValue := 0 }, { name := "hash", type := .int, accessFlags := 2, slot := 2, constantValue := 0 }]
  methods := #[]
  instanceTypes := #[(.object "java/lang/String"), .int, .int]
  staticTypes := #[]
  resolved := Array.replicate 204 none
  statics := none }

def pool12 : Array CpInfo := pool [(1, .class_ 2), (0, u "com/example/keys_in_order/keysinorder/SubscriptionType"), (2, u "EXCLUSIVE"), (0, u "Lcom/example/keys_in_order/keysinorder/SubscriptionType;"), (2, u "KEY_SHARED"), (2, u "$VALUES"), (0, u "[Lcom/example/keys_in_order/keysinorder/SubscriptionType;"), (6, .class_ 22), (1, u "java/lang/Enum"), (8, u "label"), (0, u "Ljava/lang/String;")] 59

/-- com/example/keys_in_order/keysinorder/SubscriptionType -/
def k12 : Class := { plain "com/example/keys_in_order/keysinorder/SubscriptionType" (some 11) with
  accessFlags := 16433
  interfaces := #[]
  cf := some (fileOf pool12 1 #[] #[] 16433 20 #[] #[{ accessFlags := 16409, nameIndex := 5, descriptorIndex := 6, attributes := #[] }, { accessFlags := 16409, nameIndex := 9, descriptorIndex := 6, attributes := #[] }, { accessFlags := 18, nameIndex := 31, descriptorIndex := 32, attributes := #[] }, { accessFlags := 4122, nameIndex := 12, descriptorIndex := 13, attributes := #[] }])
  fields := #[{ name := "EXCLUSIVE", type := (.object "com/example/keys_in_order/keysinorder/SubscriptionType"), accessFlags := 16409, slot := 0, constantValue := 0 }, { name := "KEY_SHARED", type := (.object "com/example/keys_in_order/keysinorder/SubscriptionType"), accessFlags := 16409, slot := 1, constantValue := 0 }, { name := "label", type := (.object "java/lang/String"), accessFlags := 18, slot := 3, constantValue := 0 }, { name := "$VALUES", type := (.array (.object "com/example/keys_in_order/keysinorder/SubscriptionType")), accessFlags := 4122, slot := 2, constantValue := 0 }]
  methods := #[]
  instanceTypes := #[(.object "java/lang/String"), .int, .int, (.object "java/lang/String")]
  staticTypes := #[(.object "com/example/keys_in_order/keysinorder/SubscriptionType"), (.object "com/example/keys_in_order/keysinorder/SubscriptionType"), (.array (.object "com/example/keys_in_order/keysinorder/SubscriptionType"))]
  resolved := Array.replicate 92 none
  statics := some 1 }

def pool13 : Array CpInfo := pool [(1, .class_ 2), (0, u "com/example/keys_in_order/keysinorder/InitialPosition"), (2, u "EARLIEST"), (0, u "Lcom/example/keys_in_order/keysinorder/InitialPosition;"), (2, u "LATEST"), (2, u "$VALUES"), (0, u "[Lcom/example/keys_in_order/keysinorder/InitialPosition;"), (6, .class_ 22), (1, u "java/lang/Enum"), (8, u "label"), (0, u "Ljava/lang/String;")] 58

/-- com/example/keys_in_order/keysinorder/InitialPosition -/
def k13 : Class := { plain "com/example/keys_in_order/keysinorder/InitialPosition" (some 11) with
  accessFlags := 16433
  interfaces := #[]
  cf := some (fileOf pool13 1 #[] #[] 16433 20 #[] #[{ accessFlags := 16409, nameIndex := 5, descriptorIndex := 6, attributes := #[] }, { accessFlags := 16409, nameIndex := 9, descriptorIndex := 6, attributes := #[] }, { accessFlags := 18, nameIndex := 31, descriptorIndex := 32, attributes := #[] }, { accessFlags := 4122, nameIndex := 12, descriptorIndex := 13, attributes := #[] }])
  fields := #[{ name := "EARLIEST", type := (.object "com/example/keys_in_order/keysinorder/InitialPosition"), accessFlags := 16409, slot := 0, constantValue := 0 }, { name := "LATEST", type := (.object "com/example/keys_in_order/keysinorder/InitialPosition"), accessFlags := 16409, slot := 1, constantValue := 0 }, { name := "label", type := (.object "java/lang/String"), accessFlags := 18, slot := 3, constantValue := 0 }, { name := "$VALUES", type := (.array (.object "com/example/keys_in_order/keysinorder/InitialPosition")), accessFlags := 4122, slot := 2, constantValue := 0 }]
  methods := #[]
  instanceTypes := #[(.object "java/lang/String"), .int, .int, (.object "java/lang/String")]
  staticTypes := #[(.object "com/example/keys_in_order/keysinorder/InitialPosition"), (.object "com/example/keys_in_order/keysinorder/InitialPosition"), (.array (.object "com/example/keys_in_order/keysinorder/InitialPosition"))]
  resolved := Array.replicate 91 none
  statics := some 2 }

def pool14 : Array CpInfo := pool [(1, .methodref 2 3), (0, .class_ 4), (0, .nameAndType 5 6), (0, u "java/lang/Record"), (0, u "<init>"), (0, u "()V"), (0, .class_ 8), (0, u "com/example/keys_in_order/keysinorder/NackBackoff"), (0, .long 86400000), (12, .methodref 23 24), (0, .class_ 25), (0, .nameAndType 26 27), (0, u "java/lang/Double"), (0, u "isFinite"), (0, u "(D)Z"), (2, .fieldref 7 31), (0, .nameAndType 32 33), (0, u "minDelayMs"), (0, u "J"), (0, .fieldref 7 35), (0, .nameAndType 36 33), (0, u "maxDelayMs"), (0, .fieldref 7 38), (0, .nameAndType 39 40), (0, u "multiplier"), (0, u "D"), (0, .methodref 7 42), (0, .nameAndType 5 43), (0, u "(JJD)V"), (24, u "MAX_DELAY_MS"), (1, u "DEFAULT_DELAY_MS"), (6, u "fixed"), (0, u "(J)Lcom/example/keys_in_order/keysinorder/NackBackoff;")] 37

def k14c0 : Code := { maxStack := 4, maxLocals := 7, code := prog_21_method_1_code, exceptionTable := #[], attributes := #[] }
def k14m0 : Method := { name := "<init>", desc := "(JJD)V", sig := { parameters := [.long, .long, .double], returnType := none }, accessFlags := 1, code := some k14c0 }
def k14c1 : Code := { maxStack := 8, maxLocals := 2, code := prog_21_method_2_code, exceptionTable := #[], attributes := #[] }
def k14m1 : Method := { name := "fixed", desc := "(J)Lcom/example/keys_in_order/keysinorder/NackBackoff;", sig := { parameters := [.long], returnType := some (.object "com/example/keys_in_order/keysinorder/NackBackoff") }, accessFlags := 9, code := some k14c1 }
/-- com/example/keys_in_order/keysinorder/NackBackoff -/
def k14 : Class := { plain "com/example/keys_in_order/keysinorder/NackBackoff" (some 9) with
  accessFlags := 49
  interfaces := #[]
  cf := some (fileOf pool14 7 #[] #[{ accessFlags := 1, nameIndex := 5, descriptorIndex := 43, attributes := #[] }, { accessFlags := 9, nameIndex := 77, descriptorIndex := 78, attributes := #[] }] 49 2 #[] #[{ accessFlags := 18, nameIndex := 32, descriptorIndex := 33, attributes := #[] }, { accessFlags := 18, nameIndex := 36, descriptorIndex := 33, attributes := #[] }, { accessFlags := 18, nameIndex := 39, descriptorIndex := 40, attributes := #[] }, { accessFlags := 25, nameIndex := 68, descriptorIndex := 33, attributes := #[] }, { accessFlags := 25, nameIndex := 70, descriptorIndex := 33, attributes := #[] }])
  fields := #[{ name := "minDelayMs", type := .long, accessFlags := 18, slot := 0, constantValue := 0 }, { name := "maxDelayMs", type := .long, accessFlags := 18, slot := 1, constantValue := 0 }, { name := "multiplier", type := .double, accessFlags := 18, slot := 2, constantValue := 0 }, { name := "MAX_DELAY_MS", type := .long, accessFlags := 25, slot := 0, constantValue := 0 }, { name := "DEFAULT_DELAY_MS", type := .long, accessFlags := 25, slot := 1, constantValue := 0 }]
  methods := #[k14m0, k14m1]
  instanceTypes := #[.long, .long, .double]
  staticTypes := #[.long, .long]
  resolved := Array.replicate 116 none
  statics := none }

def pool15 : Array CpInfo := pool [(2, .class_ 4), (1, u "java/lang/Object"), (0, u "<init>"), (0, u "()V"), (1, .class_ 10), (1, u "java/lang/Number"), (2, .class_ 14), (0, u "java/io/Serializable"), (0, u "serialVersionUID"), (0, u "J")] 20

def k15m0 : Method := { name := "<init>", desc := "()V", sig := { parameters := [], returnType := none }, accessFlags := 1, code := none }
/-- java/lang/Number -/
def k15 : Class := { plain "java/lang/Number" (some 0) with
  accessFlags := 1057
  interfaces := #[3]
  cf := some (fileOf pool15 8 #[] #[{ accessFlags := 1, nameIndex := 5, descriptorIndex := 6, attributes := #[] }] 1057 2 #[13] #[{ accessFlags := 26, nameIndex := 15, descriptorIndex := 16, attributes := #[] }])
  fields := #[{ name := "serialVersionUID", type := .long, accessFlags := 26, slot := 0, constantValue := 0 }]
  methods := #[k15m0]
  instanceTypes := #[]
  staticTypes := #[.long]
  resolved := Array.replicate 37 none
  statics := none }

def pool16 : Array CpInfo := pool [(1, .class_ 2), (0, u "java/lang/Double"), (10, u "isFinite"), (0, u "(D)Z"), (8, .class_ 25), (1, u "java/lang/Math"), (12, .methodref 23 39), (0, .nameAndType 40 41), (0, u "abs"), (0, u "(D)D"), (69, .double 9218868437227405311), (2, .class_ 116), (1, u "java/lang/Number"), (3, u "value"), (0, u "D"), (51, u "TYPE"), (0, u "Ljava/lang/Class;"), (0, .class_ 176), (0, u "java/lang/Comparable"), (0, .class_ 178), (0, u "java/lang/constant/Constable"), (0, .class_ 180), (0, u "java/lang/constant/ConstantDesc"), (0, u "POSITIVE_INFINITY"), (3, u "NEGATIVE_INFINITY"), (2, u "NaN"), (2, u "MAX_VALUE"), (0, u "MIN_NORMAL"), (0, u "MIN_VALUE"), (2, u "SIZE"), (0, u "I"), (1, u "PRECISION"), (1, u "MAX_EXPONENT"), (1, u "MIN_EXPONENT"), (1, u "BYTES"), (3, u "serialVersionUID"), (0, u "J")] 79

def k16c0 : Code := { maxStack := 4, maxLocals := 2, code := jdk_117_method_8_code, exceptionTable := #[], attributes := #[] }
def k16m0 : Method := { name := "isFinite", desc := "(D)Z", sig := { parameters := [.double], returnType := some .boolean }, accessFlags := 9, code := some k16c0 }
/-- java/lang/Double -/
def k16 : Class := { plain "java/lang/Double" (some 15) with
  accessFlags := 49
  interfaces := #[4, 6, 7]
  cf := some (fileOf pool16 1 #[] #[{ accessFlags := 9, nameIndex := 13, descriptorIndex := 14, attributes := #[] }] 49 114 #[175, 177, 179] #[{ accessFlags := 25, nameIndex := 181, descriptorIndex := 121, attributes := #[] }, { accessFlags := 25, nameIndex := 185, descriptorIndex := 121, attributes := #[] }, { accessFlags := 25, nameIndex := 188, descriptorIndex := 121, attributes := #[] }, { accessFlags := 25, nameIndex := 191, descriptorIndex := 121, attributes := #[] }, { accessFlags := 25, nameIndex := 192, descriptorIndex := 121, attributes := #[] }, { accessFlags := 25, nameIndex := 193, descriptorIndex := 121, attributes := #[] }, { accessFlags := 25, nameIndex := 196, descriptorIndex := 197, attributes := #[] }, { accessFlags := 25, nameIndex := 199, descriptorIndex := 197, attributes := #[] }, { accessFlags := 25, nameIndex := 201, descriptorIndex := 197, attributes := #[] }, { accessFlags := 25, nameIndex := 203, descriptorIndex := 197, attributes := #[] }, { accessFlags := 25, nameIndex := 205, descriptorIndex := 197, attributes := #[] }, { accessFlags := 25, nameIndex := 173, descriptorIndex := 174, attributes := #[] }, { accessFlags := 18, nameIndex := 120, descriptorIndex := 121, attributes := #[] }, { accessFlags := 26, nameIndex := 209, descriptorIndex := 210, attributes := #[] }])
  fields := #[{ name := "POSITIVE_INFINITY", type := .double, accessFlags := 25, slot := 0, constantValue := 0 }, { name := "NEGATIVE_INFINITY", type := .double, accessFlags := 25, slot := 1, constantValue := 0 }, { name := "NaN", type := .double, accessFlags := 25, slot := 2, constantValue := 0 }, { name := "MAX_VALUE", type := .double, accessFlags := 25, slot := 3, constantValue := 0 }, { name := "MIN_NORMAL", type := .double, accessFlags := 25, slot := 4, constantValue := 0 }, { name := "MIN_VALUE", type := .double, accessFlags := 25, slot := 5, constantValue := 0 }, { name := "SIZE", type := .int, accessFlags := 25, slot := 6, constantValue := 0 }, { name := "PRECISION", type := .int, accessFlags := 25, slot := 7, constantValue := 0 }, { name := "MAX_EXPONENT", type := .int, accessFlags := 25, slot := 8, constantValue := 0 }, { name := "MIN_EXPONENT", type := .int, accessFlags := 25, slot := 9, constantValue := 0 }, { name := "BYTES", type := .int, accessFlags := 25, slot := 10, constantValue := 0 }, { name := "TYPE", type := (.object "java/lang/Class"), accessFlags := 25, slot := 11, constantValue := 0 }, { name := "value", type := .double, accessFlags := 18, slot := 0, constantValue := 0 }, { name := "serialVersionUID", type := .long, accessFlags := 26, slot := 12, constantValue := 0 }]
  methods := #[k16m0]
  instanceTypes := #[.double]
  staticTypes := #[.double, .double, .double, .double, .double, .double, .int, .int, .int, .int, .int, (.object "java/lang/Class"), .long]
  resolved := Array.replicate 290 none
  statics := none }

def pool17 : Array CpInfo := pool [(1, .class_ 2), (0, u "java/lang/Math"), (1, .class_ 6), (1, u "java/lang/Object"), (0, u "<init>"), (0, u "()V"), (5, u "(D)D"), (83, .class_ 100), (1, u "java/lang/Math$RandomNumberGeneratorHolder"), (23, u "abs"), (47, u "negativeZeroFloatBits"), (0, u "J"), (2, u "negativeZeroDoubleBits"), (68, u "$assertionsDisabled"), (0, u "Z"), (91, u "twoToTheDoubleScaleDown"), (0, u "D"), (4, u "twoToTheDoubleScaleUp"), (9, u "E"), (3, u "PI"), (2, u "TAU"), (2, u "DEGREES_TO_RADIANS"), (0, u "RADIANS_TO_DEGREES")] 94

def k17m0 : Method := { name := "<init>", desc := "()V", sig := { parameters := [], returnType := none }, accessFlags := 2, code := none }
def k17c1 : Code := { maxStack := 4, maxLocals := 2, code := jdk_29_method_64_code, exceptionTable := #[], attributes := #[] }
def k17m1 : Method := { name := "abs", desc := "(D)D", sig := { parameters := [.double], returnType := some .double }, accessFlags := 9, code := some k17c1 }
/-- java/lang/Math -/
def k17 : Class := { plain "java/lang/Math" (some 0) with
  accessFlags := 49
  interfaces := #[]
  cf := some (fileOf pool17 1 #[.nestMembers #[98]] #[{ accessFlags := 2, nameIndex := 7, descriptorIndex := 8, attributes := #[] }, { accessFlags := 9, nameIndex := 124, descriptorIndex := 14, attributes := #[] }] 49 4 #[] #[{ accessFlags := 25, nameIndex := 354, descriptorIndex := 339, attributes := #[] }, { accessFlags := 25, nameIndex := 358, descriptorIndex := 339, attributes := #[] }, { accessFlags := 25, nameIndex := 361, descriptorIndex := 339, attributes := #[] }, { accessFlags := 26, nameIndex := 364, descriptorIndex := 339, attributes := #[] }, { accessFlags := 26, nameIndex := 365, descriptorIndex := 339, attributes := #[] }, { accessFlags := 26, nameIndex := 172, descriptorIndex := 173, attributes := #[] }, { accessFlags := 26, nameIndex := 176, descriptorIndex := 173, attributes := #[] }, { accessFlags := 8, nameIndex := 344, descriptorIndex := 339, attributes := #[] }, { accessFlags := 8, nameIndex := 338, descriptorIndex := 339, attributes := #[] }, { accessFlags := 4120, nameIndex := 245, descriptorIndex := 246, attributes := #[] }])
  fields := #[{ name := "E", type := .double, accessFlags := 25, slot := 0, constantValue := 0 }, { name := "PI", type := .double, accessFlags := 25, slot := 1, constantValue := 0 }, { name := "TAU", type := .double, accessFlags := 25, slot := 2, constantValue := 0 }, { name := "DEGREES_TO_RADIANS", type := .double, accessFlags := 26, slot := 3, constantValue := 0 }, { name := "RADIANS_TO_DEGREES", type := .double, accessFlags := 26, slot := 4, constantValue := 0 }, { name := "negativeZeroFloatBits", type := .long, accessFlags := 26, slot := 5, constantValue := 0 }, { name := "negativeZeroDoubleBits", type := .long, accessFlags := 26, slot := 6, constantValue := 0 }, { name := "twoToTheDoubleScaleUp", type := .double, accessFlags := 8, slot := 7, constantValue := 0 }, { name := "twoToTheDoubleScaleDown", type := .double, accessFlags := 8, slot := 8, constantValue := 0 }, { name := "$assertionsDisabled", type := .boolean, accessFlags := 4120, slot := 9, constantValue := 0 }]
  methods := #[k17m0, k17m1]
  instanceTypes := #[]
  staticTypes := #[.double, .double, .double, .double, .double, .long, .long, .double, .double, .boolean]
  resolved := Array.replicate 460 none
  statics := none }

def pool18 : Array CpInfo := pool [(2, .class_ 4), (1, u "java/lang/Object"), (0, u "<init>"), (0, u "()V"), (0, .methodref 8 9), (0, .class_ 10), (0, .nameAndType 11 12), (0, u "java/lang/String"), (0, u "isEmpty"), (0, u "()Z"), (0, .methodref 8 14), (0, .nameAndType 15 16), (0, u "length"), (0, u "()I"), (0, .class_ 18), (0, u "com/example/keys_in_order/keysinorder/Names"), (9, .methodref 8 29), (0, .nameAndType 30 31), (0, u "charAt"), (0, u "(I)C"), (2, u "(Ljava/lang/String;Ljava/lang/String;)Ljava/lang/String;"), (0, u "MAX_LENGTH"), (0, u "I"), (4, u "require")] 20

def k18m0 : Method := { name := "<init>", desc := "()V", sig := { parameters := [], returnType := none }, accessFlags := 2, code := none }
def k18c1 : Code := { maxStack := 4, maxLocals := 5, code := prog_24_method_2_code, exceptionTable := #[], attributes := #[] }
def k18m1 : Method := { name := "require", desc := "(Ljava/lang/String;Ljava/lang/String;)Ljava/lang/String;", sig := { parameters := [(.object "java/lang/String"), (.object "java/lang/String")], returnType := some (.object "java/lang/String") }, accessFlags := 9, code := some k18c1 }
/-- com/example/keys_in_order/keysinorder/Names -/
def k18 : Class := { plain "com/example/keys_in_order/keysinorder/Names" (some 0) with
  accessFlags := 49
  interfaces := #[]
  cf := some (fileOf pool18 17 #[] #[{ accessFlags := 2, nameIndex := 5, descriptorIndex := 6, attributes := #[] }, { accessFlags := 9, nameIndex := 41, descriptorIndex := 34, attributes := #[] }] 49 2 #[] #[{ accessFlags := 25, nameIndex := 35, descriptorIndex := 36, attributes := #[] }])
  fields := #[{ name := "MAX_LENGTH", type := .int, accessFlags := 25, slot := 0, constantValue := 0 }]
  methods := #[k18m0, k18m1]
  instanceTypes := #[]
  staticTypes := #[.int]
  resolved := Array.replicate 62 none
  statics := none }

def pool19 : Array CpInfo := pool [(1, .class_ 2), (0, u "java/lang/String"), (1, .class_ 6), (1, u "java/lang/Object"), (0, u "<init>"), (0, u "()V"), (0, .methodref 1 10), (0, .nameAndType 11 12), (0, u "checkIndex"), (0, u "(II)V"), (1, .class_ 16), (1, u "java/lang/StringLatin1"), (36, u "([BI)C"), (67, u "$assertionsDisabled"), (0, u "Z"), (98, .class_ 223), (1, u "java/lang/StringLatin1$LinesSpliterator"), (28, u "charAt"), (137, .class_ 391), (0, u "java/lang/StringLatin1$CharsSpliterator")] 3

def k19m0 : Method := { name := "<init>", desc := "()V", sig := { parameters := [], returnType := none }, accessFlags := 0, code := none }
def k19c1 : Code := { maxStack := 2, maxLocals := 2, code := jdk_43_method_2_code, exceptionTable := #[], attributes := #[] }
def k19m1 : Method := { name := "charAt", desc := "([BI)C", sig := { parameters := [(.array .byte), .int], returnType := some .char }, accessFlags := 9, code := some k19c1 }
/-- java/lang/StringLatin1 -/
def k19 : Class := { plain "java/lang/StringLatin1" (some 0) with
  accessFlags := 48
  interfaces := #[]
  cf := some (fileOf pool19 14 #[.nestMembers #[390, 221]] #[{ accessFlags := 0, nameIndex := 7, descriptorIndex := 8, attributes := #[] }, { accessFlags := 9, nameIndex := 252, descriptorIndex := 53, attributes := #[] }] 48 4 #[] #[{ accessFlags := 4120, nameIndex := 121, descriptorIndex := 122, attributes := #[] }])
  fields := #[{ name := "$assertionsDisabled", type := .boolean, accessFlags := 4120, slot := 0, constantValue := 0 }]
  methods := #[k19m0, k19m1]
  instanceTypes := #[]
  staticTypes := #[.boolean]
  resolved := Array.replicate 395 none
  statics := none }

def pool20 : Array CpInfo := pool [(2, .class_ 4), (1, u "java/lang/Object"), (0, u "<init>"), (0, u "()V"), (17, .class_ 26), (1, u "jdk/internal/util/Preconditions"), (6, u "checkIndex"), (21, .class_ 56), (0, u "jdk/internal/util/Preconditions$4"), (57, .class_ 115), (0, u "jdk/internal/util/Preconditions$1"), (7, u "SIOOBE_FORMATTER"), (0, u "Ljava/util/function/BiFunction;"), (0, .class_ 126), (0, u "jdk/internal/util/Preconditions$2"), (3, u "AIOOBE_FORMATTER"), (0, .class_ 132), (0, u "jdk/internal/util/Preconditions$3"), (3, u "IOOBE_FORMATTER"), (41, u "(IILjava/util/function/BiFunction;)I")] 15

def k20m0 : Method := { name := "<init>", desc := "()V", sig := { parameters := [], returnType := none }, accessFlags := 1, code := none }
def k20c1 : Code := { maxStack := 3, maxLocals := 3, code := jdk_41_method_11_code, exceptionTable := #[], attributes := #[] }
def k20m1 : Method := { name := "checkIndex", desc := "(IILjava/util/function/BiFunction;)I", sig := { parameters := [.int, .int, (.object "java/util/function/BiFunction")], returnType := some .int }, accessFlags := 9, code := some k20c1 }
/-- jdk/internal/util/Preconditions -/
def k20 : Class := { plain "jdk/internal/util/Preconditions" (some 0) with
  accessFlags := 33
  interfaces := #[]
  cf := some (fileOf pool20 24 #[.nestMembers #[55, 131, 125, 114]] #[{ accessFlags := 1, nameIndex := 5, descriptorIndex := 6, attributes := #[] }, { accessFlags := 9, nameIndex := 33, descriptorIndex := 178, attributes := #[] }] 33 2 #[] #[{ accessFlags := 25, nameIndex := 123, descriptorIndex := 124, attributes := #[] }, { accessFlags := 25, nameIndex := 130, descriptorIndex := 124, attributes := #[] }, { accessFlags := 25, nameIndex := 136, descriptorIndex := 124, attributes := #[] }])
  fields := #[{ name := "SIOOBE_FORMATTER", type := (.object "java/util/function/BiFunction"), accessFlags := 25, slot := 0, constantValue := 0 }, { name := "AIOOBE_FORMATTER", type := (.object "java/util/function/BiFunction"), accessFlags := 25, slot := 1, constantValue := 0 }, { name := "IOOBE_FORMATTER", type := (.object "java/util/function/BiFunction"), accessFlags := 25, slot := 2, constantValue := 0 }]
  methods := #[k20m0, k20m1]
  instanceTypes := #[]
  staticTypes := #[(.object "java/util/function/BiFunction"), (.object "java/util/function/BiFunction"), (.object "java/util/function/BiFunction")]
  resolved := Array.replicate 194 none
  statics := some 3 }

def pool21 : Array CpInfo := pool [(2, .class_ 4), (1, u "java/lang/Object"), (0, u "<init>"), (0, u "()V"), (35, .class_ 44), (1, u "java/util/Objects"), (0, u "requireNonNull"), (48, u "(Ljava/lang/Object;Ljava/lang/String;)Ljava/lang/Object;")] 89

def k21m0 : Method := { name := "<init>", desc := "()V", sig := { parameters := [], returnType := none }, accessFlags := 2, code := none }
def k21c1 : Code := { maxStack := 3, maxLocals := 2, code := jdk_31_method_11_code, exceptionTable := #[], attributes := #[] }
def k21m1 : Method := { name := "requireNonNull", desc := "(Ljava/lang/Object;Ljava/lang/String;)Ljava/lang/Object;", sig := { parameters := [(.object "java/lang/Object"), (.object "java/lang/String")], returnType := some (.object "java/lang/Object") }, accessFlags := 9, code := some k21c1 }
/-- java/util/Objects -/
def k21 : Class := { plain "java/util/Objects" (some 0) with
  accessFlags := 49
  interfaces := #[]
  cf := some (fileOf pool21 42 #[] #[{ accessFlags := 2, nameIndex := 5, descriptorIndex := 6, attributes := #[] }, { accessFlags := 9, nameIndex := 45, descriptorIndex := 94, attributes := #[] }] 49 2 #[] #[])
  fields := #[]
  methods := #[k21m0, k21m1]
  instanceTypes := #[]
  staticTypes := #[]
  resolved := Array.replicate 184 none
  statics := none }

def pool22 : Array CpInfo := pool [(8, .class_ 10), (1, u "java/lang/Iterable"), (24, .class_ 36), (0, u "java/lang/Object")] 25

/-- java/lang/Iterable -/
def k22 : Class := { plain "java/lang/Iterable" (some 0) with
  accessFlags := 1537
  interfaces := #[]
  cf := some (fileOf pool22 8 #[] #[] 1537 35 #[] #[])
  fields := #[]
  methods := #[]
  instanceTypes := #[]
  staticTypes := #[]
  resolved := Array.replicate 62 none
  statics := none }

def pool23 : Array CpInfo := pool [(10, .class_ 12), (1, u "java/util/Collection"), (47, .class_ 61), (0, u "java/lang/Object"), (0, .class_ 63), (0, u "java/lang/Iterable")] 51

/-- java/util/Collection -/
def k23 : Class := { plain "java/util/Collection" (some 0) with
  accessFlags := 1537
  interfaces := #[22]
  cf := some (fileOf pool23 10 #[] #[] 1537 60 #[62] #[])
  fields := #[]
  methods := #[]
  instanceTypes := #[]
  staticTypes := #[]
  resolved := Array.replicate 115 none
  statics := none }

def pool24 : Array CpInfo := pool [(1, .methodref 2 3), (0, .class_ 4), (0, .nameAndType 5 6), (0, u "java/lang/Object"), (0, u "<init>"), (0, u "()V"), (1, .class_ 10), (1, u "java/util/AbstractCollection"), (66, .class_ 78), (0, u "java/util/Collection")] 81

def k24c0 : Code := { maxStack := 1, maxLocals := 1, code := jdk_22_method_1_code, exceptionTable := #[], attributes := #[] }
def k24m0 : Method := { name := "<init>", desc := "()V", sig := { parameters := [], returnType := none }, accessFlags := 4, code := some k24c0 }
/-- java/util/AbstractCollection -/
def k24 : Class := { plain "java/util/AbstractCollection" (some 0) with
  accessFlags := 1057
  interfaces := #[23]
  cf := some (fileOf pool24 8 #[] #[{ accessFlags := 4, nameIndex := 5, descriptorIndex := 6, attributes := #[] }] 1057 2 #[77] #[])
  fields := #[]
  methods := #[k24m0]
  instanceTypes := #[]
  staticTypes := #[]
  resolved := Array.replicate 160 none
  statics := none }

def pool25 : Array CpInfo := pool [(26, .class_ 27), (0, u "java/lang/Object"), (5, .class_ 34), (0, u "java/util/Set"), (1, .class_ 38), (1, u "java/util/Collection")] 105

/-- java/util/Set -/
def k25 : Class := { plain "java/util/Set" (some 0) with
  accessFlags := 1537
  interfaces := #[23]
  cf := some (fileOf pool25 33 #[] #[] 1537 26 #[36] #[])
  fields := #[]
  methods := #[]
  instanceTypes := #[]
  staticTypes := #[]
  resolved := Array.replicate 144 none
  statics := none }

def pool26 : Array CpInfo := pool [(1, .methodref 2 3), (0, .class_ 4), (0, .nameAndType 5 6), (0, u "java/util/AbstractCollection"), (0, u "<init>"), (0, u "()V"), (0, .class_ 8), (0, u "java/util/Set"), (7, .class_ 17), (0, u "java/util/AbstractSet")] 78

def k26c0 : Code := { maxStack := 1, maxLocals := 1, code := jdk_91_method_1_code, exceptionTable := #[], attributes := #[] }
def k26m0 : Method := { name := "<init>", desc := "()V", sig := { parameters := [], returnType := none }, accessFlags := 4, code := some k26c0 }
/-- java/util/AbstractSet -/
def k26 : Class := { plain "java/util/AbstractSet" (some 24) with
  accessFlags := 1057
  interfaces := #[25]
  cf := some (fileOf pool26 16 #[] #[{ accessFlags := 4, nameIndex := 5, descriptorIndex := 6, attributes := #[] }] 1057 2 #[7] #[])
  fields := #[]
  methods := #[k26m0]
  instanceTypes := #[]
  staticTypes := #[]
  resolved := Array.replicate 96 none
  statics := none }

def pool27 : Array CpInfo := pool [(8, .class_ 10), (1, u "java/util/SequencedCollection"), (15, .class_ 27), (0, u "java/lang/Object"), (0, .class_ 29), (0, u "java/util/Collection")] 27

/-- java/util/SequencedCollection -/
def k27 : Class := { plain "java/util/SequencedCollection" (some 0) with
  accessFlags := 1537
  interfaces := #[23]
  cf := some (fileOf pool27 8 #[] #[] 1537 26 #[28] #[])
  fields := #[]
  methods := #[]
  instanceTypes := #[]
  staticTypes := #[]
  resolved := Array.replicate 57 none
  statics := none }

def pool28 : Array CpInfo := pool [(2, .class_ 4), (1, u "java/util/SequencedSet"), (2, .class_ 8), (0, u "java/lang/Object"), (0, .class_ 10), (0, u "java/util/SequencedCollection"), (0, .class_ 12), (0, u "java/util/Set")] 13

/-- java/util/SequencedSet -/
def k28 : Class := { plain "java/util/SequencedSet" (some 0) with
  accessFlags := 1537
  interfaces := #[27, 25]
  cf := some (fileOf pool28 2 #[] #[] 1537 7 #[9, 11] #[])
  fields := #[]
  methods := #[]
  instanceTypes := #[]
  staticTypes := #[]
  resolved := Array.replicate 26 none
  statics := none }

def pool29 : Array CpInfo := pool [(1, .class_ 2), (0, u "java/util/SortedSet$1"), (12, .class_ 17), (1, u "java/util/SortedSet"), (19, .class_ 38), (0, u "java/lang/Object"), (0, .class_ 40), (0, u "java/util/Set"), (0, .class_ 42), (0, u "java/util/SequencedSet")] 41

/-- java/util/SortedSet -/
def k29 : Class := { plain "java/util/SortedSet" (some 0) with
  accessFlags := 1537
  interfaces := #[25, 28]
  cf := some (fileOf pool29 15 #[.nestMembers #[1]] #[] 1537 37 #[39, 41] #[])
  fields := #[]
  methods := #[]
  instanceTypes := #[]
  staticTypes := #[]
  resolved := Array.replicate 84 none
  statics := none }

def pool30 : Array CpInfo := pool [(2, .class_ 4), (1, u "java/util/NavigableSet"), (22, .class_ 28), (0, u "java/lang/Object"), (0, .class_ 30), (0, u "java/util/SortedSet")] 40

/-- java/util/NavigableSet -/
def k30 : Class := { plain "java/util/NavigableSet" (some 0) with
  accessFlags := 1537
  interfaces := #[29]
  cf := some (fileOf pool30 2 #[] #[] 1537 27 #[29] #[])
  fields := #[]
  methods := #[]
  instanceTypes := #[]
  staticTypes := #[]
  resolved := Array.replicate 71 none
  statics := none }

def pool31 : Array CpInfo := pool [(1, .class_ 2), (0, u "java/lang/Cloneable"), (0, .class_ 4), (0, u "java/lang/Object")] 2

/-- java/lang/Cloneable -/
def k31 : Class := { plain "java/lang/Cloneable" (some 0) with
  accessFlags := 1537
  interfaces := #[]
  cf := some (fileOf pool31 1 #[] #[] 1537 3 #[] #[])
  fields := #[]
  methods := #[]
  instanceTypes := #[]
  staticTypes := #[]
  resolved := Array.replicate 7 none
  statics := none }

def pool32 : Array CpInfo := pool [(1, .methodref 2 3), (0, .class_ 4), (0, .nameAndType 5 6), (0, u "java/util/AbstractSet"), (0, u "<init>"), (0, u "()V"), (0, .fieldref 8 9), (0, .class_ 10), (0, .nameAndType 11 12), (0, u "java/util/TreeSet"), (0, u "m"), (0, u "Ljava/util/NavigableMap;"), (0, .class_ 14), (0, u "java/util/TreeMap"), (0, .methodref 13 3), (0, .methodref 8 17), (0, .nameAndType 5 18), (0, u "(Ljava/util/NavigableMap;)V"), (22, .class_ 43), (1, u "java/util/NavigableSet"), (23, u "PRESENT"), (0, u "Ljava/lang/Object;"), (148, .class_ 218), (0, u "java/lang/Cloneable"), (0, .class_ 220), (0, u "java/io/Serializable"), (2, u "serialVersionUID"), (0, u "J")] 92

def k32c0 : Code := { maxStack := 2, maxLocals := 2, code := jdk_2756_method_1_code, exceptionTable := #[], attributes := #[] }
def k32m0 : Method := { name := "<init>", desc := "(Ljava/util/NavigableMap;)V", sig := { parameters := [(.object "java/util/NavigableMap")], returnType := none }, accessFlags := 0, code := some k32c0 }
def k32c1 : Code := { maxStack := 3, maxLocals := 1, code := jdk_2756_method_2_code, exceptionTable := #[], attributes := #[] }
def k32m1 : Method := { name := "<init>", desc := "()V", sig := { parameters := [], returnType := none }, accessFlags := 1, code := some k32c1 }
/-- java/util/TreeSet -/
def k32 : Class := { plain "java/util/TreeSet" (some 26) with
  accessFlags := 33
  interfaces := #[30, 31, 3]
  cf := some (fileOf pool32 8 #[] #[{ accessFlags := 0, nameIndex := 5, descriptorIndex := 18, attributes := #[] }, { accessFlags := 1, nameIndex := 5, descriptorIndex := 6, attributes := #[] }] 33 2 #[41, 217, 219] #[{ accessFlags := 130, nameIndex := 11, descriptorIndex := 12, attributes := #[] }, { accessFlags := 26, nameIndex := 67, descriptorIndex := 68, attributes := #[] }, { accessFlags := 26, nameIndex := 223, descriptorIndex := 224, attributes := #[] }])
  fields := #[{ name := "m", type := (.object "java/util/NavigableMap"), accessFlags := 130, slot := 0, constantValue := 0 }, { name := "PRESENT", type := (.object "java/lang/Object"), accessFlags := 26, slot := 0, constantValue := 0 }, { name := "serialVersionUID", type := .long, accessFlags := 26, slot := 1, constantValue := 0 }]
  methods := #[k32m0, k32m1]
  instanceTypes := #[(.object "java/util/NavigableMap")]
  staticTypes := #[(.object "java/lang/Object"), .long]
  resolved := Array.replicate 317 none
  statics := none }

def pool33 : Array CpInfo := pool [(2, .class_ 4), (1, u "java/util/Map"), (31, .class_ 37), (0, u "java/util/Map$Entry"), (55, .class_ 94), (0, u "java/lang/Object")] 168

/-- java/util/Map -/
def k33 : Class := { plain "java/util/Map" (some 0) with
  accessFlags := 1537
  interfaces := #[]
  cf := some (fileOf pool33 2 #[.nestMembers #[36]] #[] 1537 93 #[] #[])
  fields := #[]
  methods := #[]
  instanceTypes := #[]
  staticTypes := #[]
  resolved := Array.replicate 263 none
  statics := none }

def pool34 : Array CpInfo := pool [(1, .methodref 2 3), (0, .class_ 4), (0, .nameAndType 5 6), (0, u "java/lang/Object"), (0, u "<init>"), (0, u "()V"), (1, .class_ 10), (1, u "java/util/AbstractMap"), (42, .class_ 54), (0, u "java/util/Map"), (9, u "keySet"), (0, u "Ljava/util/Set;"), (0, .class_ 67), (0, u "java/util/AbstractMap$1"), (5, u "values"), (0, u "Ljava/util/Collection;"), (0, .class_ 76), (0, u "java/util/AbstractMap$2"), (104, .class_ 182), (0, u "java/util/AbstractMap$ViewCollection"), (0, .class_ 184), (0, u "java/util/AbstractMap$SimpleImmutableEntry"), (0, .class_ 186), (0, u "java/util/AbstractMap$SimpleEntry"), (0, .class_ 188), (0, u "java/util/AbstractMap$2$1"), (0, .class_ 190), (0, u "java/util/AbstractMap$1$1")] 5

def k34c0 : Code := { maxStack := 1, maxLocals := 1, code := jdk_71_method_1_code, exceptionTable := #[], attributes := #[] }
def k34m0 : Method := { name := "<init>", desc := "()V", sig := { parameters := [], returnType := none }, accessFlags := 4, code := some k34c0 }
/-- java/util/AbstractMap -/
def k34 : Class := { plain "java/util/AbstractMap" (some 0) with
  accessFlags := 1057
  interfaces := #[33]
  cf := some (fileOf pool34 8 #[.nestMembers #[181, 183, 185, 75, 187, 66, 189]] #[{ accessFlags := 4, nameIndex := 5, descriptorIndex := 6, attributes := #[] }] 1057 2 #[53] #[{ accessFlags := 128, nameIndex := 64, descriptorIndex := 65, attributes := #[] }, { accessFlags := 128, nameIndex := 73, descriptorIndex := 74, attributes := #[] }])
  fields := #[{ name := "keySet", type := (.object "java/util/Set"), accessFlags := 128, slot := 0, constantValue := 0 }, { name := "values", type := (.object "java/util/Collection"), accessFlags := 128, slot := 1, constantValue := 0 }]
  methods := #[k34m0]
  instanceTypes := #[(.object "java/util/Set"), (.object "java/util/Collection")]
  staticTypes := #[]
  resolved := Array.replicate 196 none
  statics := none }

def pool35 : Array CpInfo := pool [(2, .class_ 4), (1, u "java/util/SequencedMap"), (38, .class_ 44), (0, u "java/util/SequencedMap$1SeqKeySet"), (3, .class_ 49), (0, u "java/util/SequencedMap$1SeqValues"), (1, .class_ 52), (0, u "java/util/SequencedMap$1SeqEntrySet"), (1, .class_ 55), (0, u "java/lang/Object"), (0, .class_ 57), (0, u "java/util/Map")] 48

/-- java/util/SequencedMap -/
def k35 : Class := { plain "java/util/SequencedMap" (some 0) with
  accessFlags := 1537
  interfaces := #[33]
  cf := some (fileOf pool35 2 #[.nestMembers #[51, 48, 43]] #[] 1537 54 #[56] #[])
  fields := #[]
  methods := #[]
  instanceTypes := #[]
  staticTypes := #[]
  resolved := Array.replicate 106 none
  statics := none }

def pool36 : Array CpInfo := pool [(14, .class_ 16), (1, u "java/util/SortedMap"), (2, .class_ 20), (0, u "java/lang/Object"), (0, .class_ 22), (0, u "java/util/SequencedMap")] 50

/-- java/util/SortedMap -/
def k36 : Class := { plain "java/util/SortedMap" (some 0) with
  accessFlags := 1537
  interfaces := #[35]
  cf := some (fileOf pool36 14 #[] #[] 1537 19 #[21] #[])
  fields := #[]
  methods := #[]
  instanceTypes := #[]
  staticTypes := #[]
  resolved := Array.replicate 73 none
  statics := none }

def pool37 : Array CpInfo := pool [(2, .class_ 4), (1, u "java/util/NavigableMap"), (5, .class_ 11), (0, u "java/lang/Object"), (0, .class_ 13), (0, u "java/util/SortedMap")] 53

/-- java/util/NavigableMap -/
def k37 : Class := { plain "java/util/NavigableMap" (some 0) with
  accessFlags := 1537
  interfaces := #[36]
  cf := some (fileOf pool37 2 #[] #[] 1537 10 #[12] #[])
  fields := #[]
  methods := #[]
  instanceTypes := #[]
  staticTypes := #[]
  resolved := Array.replicate 67 none
  statics := none }

def pool38 : Array CpInfo := pool [(1, .methodref 2 3), (0, .class_ 4), (0, .nameAndType 5 6), (0, u "java/util/AbstractMap"), (0, u "<init>"), (0, u "()V"), (0, .fieldref 8 9), (0, .class_ 10), (0, .nameAndType 11 12), (0, u "java/util/TreeMap"), (0, u "size"), (0, u "I"), (0, .fieldref 8 14), (0, .nameAndType 15 12), (0, u "modCount"), (0, .fieldref 8 17), (0, .nameAndType 18 19), (0, u "comparator"), (0, u "Ljava/util/Comparator;"), (14, u "entrySet"), (24, .class_ 61), (1, u "java/util/TreeMap$Entry"), (1, u "Ljava/lang/Object;"), (39, u "root"), (0, u "Ljava/util/TreeMap$Entry;"), (85, u "Ljava/util/TreeMap$EntrySet;"), (2, u "navigableKeySet"), (0, u "Ljava/util/TreeMap$KeySet;"), (2, u "descendingMap"), (0, u "Ljava/util/NavigableMap;"), (23, .class_ 223), (0, u "java/util/TreeMap$KeySet"), (7, .class_ 232), (0, u "java/util/NavigableMap"), (4, .class_ 238), (0, u "java/util/TreeMap$Values"), (3, .class_ 243), (0, u "java/util/TreeMap$EntrySet"), (1, .class_ 246), (0, u "java/util/TreeMap$DescendingSubMap"), (3, .class_ 251), (0, u "java/util/TreeMap$AscendingSubMap"), (17, .class_ 270), (0, u "java/util/TreeMap$KeyIterator"), (3, .class_ 275), (0, u "java/util/TreeMap$DescendingKeyIterator"), (17, u "Z"), (94, .class_ 389), (0, u "java/util/TreeMap$NavigableSubMap"), (1, .class_ 392), (0, u "java/util/TreeMap$KeySpliterator"), (3, .class_ 397), (0, u "java/util/TreeMap$DescendingKeySpliterator"), (4, u "UNBOUNDED"), (0, .class_ 404), (0, u "java/lang/Cloneable"), (0, .class_ 406), (0, u "java/io/Serializable"), (6, u "RED"), (2, u "BLACK"), (1, u "serialVersionUID"), (0, u "J"), (214, .class_ 635), (0, u "java/util/TreeMap$EntrySpliterator"), (0, .class_ 637), (0, u "java/util/TreeMap$ValueSpliterator"), (0, .class_ 639), (0, u "java/util/TreeMap$TreeMapSpliterator"), (0, .class_ 641), (0, u "java/util/TreeMap$SubMap"), (0, .class_ 643), (0, u "java/util/TreeMap$DescendingSubMap$DescendingEntrySetView"), (0, .class_ 645), (0, u "java/util/TreeMap$AscendingSubMap$AscendingEntrySetView"), (0, .class_ 647), (0, u "java/util/TreeMap$NavigableSubMap$DescendingSubMapKeyIterator"), (0, .class_ 649), (0, u "java/util/TreeMap$NavigableSubMap$SubMapKeyIterator"), (0, .class_ 651), (0, u "java/util/TreeMap$NavigableSubMap$DescendingSubMapEntryIterator"), (0, .class_ 653), (0, u "java/util/TreeMap$NavigableSubMap$SubMapEntryIterator"), (0, .class_ 655), (0, u "java/util/TreeMap$NavigableSubMap$SubMapIterator"), (0, .class_ 657), (0, u "java/util/TreeMap$NavigableSubMap$EntrySetView"), (0, .class_ 659), (0, u "java/util/TreeMap$ValueIterator"), (0, .class_ 661), (0, u "java/util/TreeMap$EntryIterator"), (0, .class_ 663), (0, u "java/util/TreeMap$PrivateEntryIterator")] 28

def k38c0 : Code := { maxStack := 2, maxLocals := 1, code := jdk_2729_method_1_code, exceptionTable := #[], attributes := #[] }
def k38m0 : Method := { name := "<init>", desc := "()V", sig := { parameters := [], returnType := none }, accessFlags := 1, code := some k38c0 }
/-- java/util/TreeMap -/
def k38 : Class := { plain "java/util/TreeMap" (some 34) with
  accessFlags := 33
  interfaces := #[37, 31, 3]
  cf := some (fileOf pool38 8 #[.nestMembers #[634, 636, 396, 391, 638, 59, 640, 245, 642, 250, 644, 388, 646, 648, 650, 652, 654, 656, 274, 269, 658, 660, 662, 222, 242, 237]] #[{ accessFlags := 1, nameIndex := 5, descriptorIndex := 6, attributes := #[] }] 33 2 #[231, 403, 405] #[{ accessFlags := 18, nameIndex := 18, descriptorIndex := 19, attributes := #[] }, { accessFlags := 130, nameIndex := 103, descriptorIndex := 104, attributes := #[] }, { accessFlags := 130, nameIndex := 11, descriptorIndex := 12, attributes := #[] }, { accessFlags := 130, nameIndex := 15, descriptorIndex := 12, attributes := #[] }, { accessFlags := 130, nameIndex := 34, descriptorIndex := 190, attributes := #[] }, { accessFlags := 130, nameIndex := 193, descriptorIndex := 194, attributes := #[] }, { accessFlags := 130, nameIndex := 197, descriptorIndex := 198, attributes := #[] }, { accessFlags := 26, nameIndex := 402, descriptorIndex := 63, attributes := #[] }, { accessFlags := 26, nameIndex := 413, descriptorIndex := 293, attributes := #[] }, { accessFlags := 26, nameIndex := 416, descriptorIndex := 293, attributes := #[] }, { accessFlags := 26, nameIndex := 418, descriptorIndex := 419, attributes := #[] }])
  fields := #[{ name := "comparator", type := (.object "java/util/Comparator"), accessFlags := 18, slot := 2, constantValue := 0 }, { name := "root", type := (.object "java/util/TreeMap$Entry"), accessFlags := 130, slot := 3, constantValue := 0 }, { name := "size", type := .int, accessFlags := 130, slot := 4, constantValue := 0 }, { name := "modCount", type := .int, accessFlags := 130, slot := 5, constantValue := 0 }, { name := "entrySet", type := (.object "java/util/TreeMap$EntrySet"), accessFlags := 130, slot := 6, constantValue := 0 }, { name := "navigableKeySet", type := (.object "java/util/TreeMap$KeySet"), accessFlags := 130, slot := 7, constantValue := 0 }, { name := "descendingMap", type := (.object "java/util/NavigableMap"), accessFlags := 130, slot := 8, constantValue := 0 }, { name := "UNBOUNDED", type := (.object "java/lang/Object"), accessFlags := 26, slot := 0, constantValue := 0 }, { name := "RED", type := .boolean, accessFlags := 26, slot := 1, constantValue := 0 }, { name := "BLACK", type := .boolean, accessFlags := 26, slot := 2, constantValue := 0 }, { name := "serialVersionUID", type := .long, accessFlags := 26, slot := 3, constantValue := 0 }]
  methods := #[k38m0]
  instanceTypes := #[(.object "java/util/Set"), (.object "java/util/Collection"), (.object "java/util/Comparator"), (.object "java/util/TreeMap$Entry"), .int, .int, (.object "java/util/TreeMap$EntrySet"), (.object "java/util/TreeMap$KeySet"), (.object "java/util/NavigableMap")]
  staticTypes := #[(.object "java/lang/Object"), .boolean, .boolean, .long]
  resolved := Array.replicate 692 none
  statics := none }

def pool39 : Array CpInfo := pool [(1, .class_ 2), (0, u "java/util/concurrent/TimeUnit"), (2, u "NANOSECONDS"), (0, u "Ljava/util/concurrent/TimeUnit;"), (2, u "MICROSECONDS"), (2, u "MILLISECONDS"), (2, u "SECONDS"), (2, u "MINUTES"), (2, u "HOURS"), (2, u "DAYS"), (2, u "$VALUES"), (0, u "[Ljava/util/concurrent/TimeUnit;"), (6, .class_ 37), (1, u "java/lang/Enum"), (6, .fieldref 1 45), (0, .nameAndType 46 47), (0, u "scale"), (0, u "J"), (4, .fieldref 1 53), (0, .nameAndType 54 47), (0, u "maxNanos"), (4, u "microRatio"), (2, u "maxMicros"), (4, u "milliRatio"), (0, u "I"), (2, u "maxMillis"), (4, u "secRatio"), (2, u "maxSecs"), (8, u "toNanos"), (0, u "(J)J"), (73, .class_ 165), (1, u "java/util/concurrent/TimeUnit$1"), (46, u "NANO_SCALE"), (3, u "MICRO_SCALE"), (0, u "MILLI_SCALE"), (0, u "SECOND_SCALE"), (0, u "MINUTE_SCALE"), (0, u "HOUR_SCALE"), (0, u "DAY_SCALE")] 61

def k39c0 : Code := { maxStack := 6, maxLocals := 7, code := jdk_2799_method_7_code, exceptionTable := #[], attributes := #[] }
def k39m0 : Method := { name := "toNanos", desc := "(J)J", sig := { parameters := [.long], returnType := some .long }, accessFlags := 1, code := some k39c0 }
/-- java/util/concurrent/TimeUnit -/
def k39 : Class := { plain "java/util/concurrent/TimeUnit" (some 11) with
  accessFlags := 16433
  interfaces := #[]
  cf := some (fileOf pool39 1 #[.nestMembers #[163]] #[{ accessFlags := 1, nameIndex := 88, descriptorIndex := 89, attributes := #[] }] 16433 35 #[] #[{ accessFlags := 16409, nameIndex := 5, descriptorIndex := 6, attributes := #[] }, { accessFlags := 16409, nameIndex := 9, descriptorIndex := 6, attributes := #[] }, { accessFlags := 16409, nameIndex := 12, descriptorIndex := 6, attributes := #[] }, { accessFlags := 16409, nameIndex := 15, descriptorIndex := 6, attributes := #[] }, { accessFlags := 16409, nameIndex := 18, descriptorIndex := 6, attributes := #[] }, { accessFlags := 16409, nameIndex := 21, descriptorIndex := 6, attributes := #[] }, { accessFlags := 16409, nameIndex := 24, descriptorIndex := 6, attributes := #[] }, { accessFlags := 26, nameIndex := 212, descriptorIndex := 47, attributes := #[] }, { accessFlags := 26, nameIndex := 216, descriptorIndex := 47, attributes := #[] }, { accessFlags := 26, nameIndex := 217, descriptorIndex := 47, attributes := #[] }, { accessFlags := 26, nameIndex := 218, descriptorIndex := 47, attributes := #[] }, { accessFlags := 26, nameIndex := 219, descriptorIndex := 47, attributes := #[] }, { accessFlags := 26, nameIndex := 220, descriptorIndex := 47, attributes := #[] }, { accessFlags := 26, nameIndex := 221, descriptorIndex := 47, attributes := #[] }, { accessFlags := 18, nameIndex := 46, descriptorIndex := 47, attributes := #[] }, { accessFlags := 18, nameIndex := 54, descriptorIndex := 47, attributes := #[] }, { accessFlags := 18, nameIndex := 62, descriptorIndex := 47, attributes := #[] }, { accessFlags := 18, nameIndex := 71, descriptorIndex := 47, attributes := #[] }, { accessFlags := 18, nameIndex := 79, descriptorIndex := 47, attributes := #[] }, { accessFlags := 18, nameIndex := 59, descriptorIndex := 47, attributes := #[] }, { accessFlags := 18, nameIndex := 67, descriptorIndex := 68, attributes := #[] }, { accessFlags := 18, nameIndex := 76, descriptorIndex := 68, attributes := #[] }, { accessFlags := 4122, nameIndex := 27, descriptorIndex := 28, attributes := #[] }])
  fields := #[{ name := "NANOSECONDS", type := (.object "java/util/concurrent/TimeUnit"), accessFlags := 16409, slot := 0, constantValue := 0 }, { name := "MICROSECONDS", type := (.object "java/util/concurrent/TimeUnit"), accessFlags := 16409, slot := 1, constantValue := 0 }, { name := "MILLISECONDS", type := (.object "java/util/concurrent/TimeUnit"), accessFlags := 16409, slot := 2, constantValue := 0 }, { name := "SECONDS", type := (.object "java/util/concurrent/TimeUnit"), accessFlags := 16409, slot := 3, constantValue := 0 }, { name := "MINUTES", type := (.object "java/util/concurrent/TimeUnit"), accessFlags := 16409, slot := 4, constantValue := 0 }, { name := "HOURS", type := (.object "java/util/concurrent/TimeUnit"), accessFlags := 16409, slot := 5, constantValue := 0 }, { name := "DAYS", type := (.object "java/util/concurrent/TimeUnit"), accessFlags := 16409, slot := 6, constantValue := 0 }, { name := "NANO_SCALE", type := .long, accessFlags := 26, slot := 7, constantValue := 0 }, { name := "MICRO_SCALE", type := .long, accessFlags := 26, slot := 8, constantValue := 0 }, { name := "MILLI_SCALE", type := .long, accessFlags := 26, slot := 9, constantValue := 0 }, { name := "SECOND_SCALE", type := .long, accessFlags := 26, slot := 10, constantValue := 0 }, { name := "MINUTE_SCALE", type := .long, accessFlags := 26, slot := 11, constantValue := 0 }, { name := "HOUR_SCALE", type := .long, accessFlags := 26, slot := 12, constantValue := 0 }, { name := "DAY_SCALE", type := .long, accessFlags := 26, slot := 13, constantValue := 0 }, { name := "scale", type := .long, accessFlags := 18, slot := 3, constantValue := 0 }, { name := "maxNanos", type := .long, accessFlags := 18, slot := 4, constantValue := 0 }, { name := "maxMicros", type := .long, accessFlags := 18, slot := 5, constantValue := 0 }, { name := "maxMillis", type := .long, accessFlags := 18, slot := 6, constantValue := 0 }, { name := "maxSecs", type := .long, accessFlags := 18, slot := 7, constantValue := 0 }, { name := "microRatio", type := .long, accessFlags := 18, slot := 8, constantValue := 0 }, { name := "milliRatio", type := .int, accessFlags := 18, slot := 9, constantValue := 0 }, { name := "secRatio", type := .int, accessFlags := 18, slot := 10, constantValue := 0 }, { name := "$VALUES", type := (.array (.object "java/util/concurrent/TimeUnit")), accessFlags := 4122, slot := 14, constantValue := 0 }]
  methods := #[k39m0]
  instanceTypes := #[(.object "java/lang/String"), .int, .int, .long, .long, .long, .long, .long, .long, .int, .int]
  staticTypes := #[(.object "java/util/concurrent/TimeUnit"), (.object "java/util/concurrent/TimeUnit"), (.object "java/util/concurrent/TimeUnit"), (.object "java/util/concurrent/TimeUnit"), (.object "java/util/concurrent/TimeUnit"), (.object "java/util/concurrent/TimeUnit"), (.object "java/util/concurrent/TimeUnit"), .long, .long, .long, .long, .long, .long, .long, (.array (.object "java/util/concurrent/TimeUnit"))]
  resolved := Array.replicate 283 none
  statics := some 4 }

def pool40 : Array CpInfo := pool [(1, .methodref 2 3), (0, .class_ 4), (0, .nameAndType 5 6), (0, u "java/lang/Object"), (0, u "<init>"), (0, u "()V"), (0, .fieldref 8 9), (0, .class_ 10), (0, .nameAndType 11 12), (0, u "com/example/keys_in_order/keysinorder/DrainingHashes"), (0, u "size"), (0, u "I"), (0, .methodref 8 14), (0, .nameAndType 15 16), (0, u "slotOf"), (0, u "(I)I"), (0, .fieldref 8 18), (0, .nameAndType 19 20), (0, u "holders"), (0, u "[Lcom/example/keys_in_order/keysinorder/Consumer;"), (0, .methodref 8 22), (0, .nameAndType 23 6), (0, u "grow"), (0, .methodref 8 25), (0, .nameAndType 26 27), (0, u "place"), (0, u "(ILcom/example/keys_in_order/keysinorder/Consumer;IJJ)I"), (0, .fieldref 8 29), (0, .nameAndType 30 31), (0, u "unacked"), (0, u "[I"), (0, .fieldref 8 33), (0, .nameAndType 34 35), (0, u "blocked"), (0, u "[J"), (0, .fieldref 8 37), (0, .nameAndType 38 35), (0, u "resumes"), (0, .fieldref 8 40), (0, .nameAndType 41 31), (0, u "hashes"), (0, .methodref 8 43), (0, .nameAndType 44 16), (0, u "home"), (0, .methodref 8 46), (0, .nameAndType 47 48), (0, u "move"), (0, u "(II)V"), (0, .methodref 8 50), (0, .nameAndType 51 6), (0, u "shrink"), (4, .class_ 58), (1, u "java/lang/Integer"), (6, u "add"), (20, .integer 2654435769), (0, .methodref 56 88), (0, .nameAndType 89 16), (0, u "numberOfLeadingZeros"), (0, .methodref 8 91), (0, .nameAndType 92 93), (0, u "allocate"), (0, u "(I)V"), (0, .methodref 8 95), (0, .nameAndType 96 93), (0, u "resize"), (0, .long 28), (1, .long 80), (1, .class_ 102), (0, u "com/example/keys_in_order/keysinorder/Consumer"), (0, u "MIN_CAPACITY"), (2, u "SLOT_BYTES"), (0, u "J"), (0, u "HEADER_BYTES"), (0, u "BYTES_PER_HASH"), (0, u "SPREAD"), (9, u "(ILcom/example/keys_in_order/keysinorder/Consumer;J)V"), (2, u "remove"), (0, u "(I)J"), (0, u "capacity"), (0, u "()I")] 36

def k40c0 : Code := { maxStack := 1, maxLocals := 1, code := prog_8_method_1_code, exceptionTable := #[], attributes := #[] }
def k40m0 : Method := { name := "<init>", desc := "()V", sig := { parameters := [], returnType := none }, accessFlags := 0, code := some k40c0 }
def k40c1 : Code := { maxStack := 8, maxLocals := 6, code := prog_8_method_5_code, exceptionTable := #[], attributes := #[] }
def k40m1 : Method := { name := "add", desc := "(ILcom/example/keys_in_order/keysinorder/Consumer;J)V", sig := { parameters := [.int, (.object "com/example/keys_in_order/keysinorder/Consumer"), .long], returnType := none }, accessFlags := 0, code := some k40c1 }
def k40c2 : Code := { maxStack := 4, maxLocals := 8, code := prog_8_method_8_code, exceptionTable := #[], attributes := #[] }
def k40m2 : Method := { name := "remove", desc := "(I)J", sig := { parameters := [.int], returnType := some .long }, accessFlags := 0, code := some k40c2 }
def k40c3 : Code := { maxStack := 1, maxLocals := 1, code := prog_8_method_9_code, exceptionTable := #[], attributes := #[] }
def k40m3 : Method := { name := "capacity", desc := "()I", sig := { parameters := [], returnType := some .int }, accessFlags := 0, code := some k40c3 }
def k40c4 : Code := { maxStack := 2, maxLocals := 4, code := prog_8_method_12_code, exceptionTable := #[], attributes := #[] }
def k40m4 : Method := { name := "slotOf", desc := "(I)I", sig := { parameters := [.int], returnType := some .int }, accessFlags := 2, code := some k40c4 }
def k40c5 : Code := { maxStack := 3, maxLocals := 2, code := prog_8_method_13_code, exceptionTable := #[], attributes := #[] }
def k40m5 : Method := { name := "home", desc := "(I)I", sig := { parameters := [.int], returnType := some .int }, accessFlags := 2, code := some k40c5 }
def k40c6 : Code := { maxStack := 3, maxLocals := 1, code := prog_8_method_14_code, exceptionTable := #[], attributes := #[] }
def k40m6 : Method := { name := "grow", desc := "()V", sig := { parameters := [], returnType := none }, accessFlags := 2, code := some k40c6 }
def k40c7 : Code := { maxStack := 6, maxLocals := 2, code := prog_8_method_15_code, exceptionTable := #[], attributes := #[] }
def k40m7 : Method := { name := "shrink", desc := "()V", sig := { parameters := [], returnType := none }, accessFlags := 2, code := some k40c7 }
def k40c8 : Code := { maxStack := 2, maxLocals := 2, code := prog_8_method_16_code, exceptionTable := #[], attributes := #[] }
def k40m8 : Method := { name := "allocate", desc := "(I)V", sig := { parameters := [.int], returnType := none }, accessFlags := 2, code := some k40c8 }
def k40c9 : Code := { maxStack := 8, maxLocals := 8, code := prog_8_method_17_code, exceptionTable := #[], attributes := #[] }
def k40m9 : Method := { name := "resize", desc := "(I)V", sig := { parameters := [.int], returnType := none }, accessFlags := 2, code := some k40c9 }
def k40c10 : Code := { maxStack := 4, maxLocals := 10, code := prog_8_method_18_code, exceptionTable := #[], attributes := #[] }
def k40m10 : Method := { name := "place", desc := "(ILcom/example/keys_in_order/keysinorder/Consumer;IJJ)I", sig := { parameters := [.int, (.object "com/example/keys_in_order/keysinorder/Consumer"), .int, .long, .long], returnType := some .int }, accessFlags := 2, code := some k40c10 }
def k40c11 : Code := { maxStack := 4, maxLocals := 3, code := prog_8_method_19_code, exceptionTable := #[], attributes := #[] }
def k40m11 : Method := { name := "move", desc := "(II)V", sig := { parameters := [.int, .int], returnType := none }, accessFlags := 2, code := some k40c11 }
/-- com/example/keys_in_order/keysinorder/DrainingHashes -/
def k40 : Class := { plain "com/example/keys_in_order/keysinorder/DrainingHashes" (some 0) with
  accessFlags := 48
  interfaces := #[]
  cf := some (fileOf pool40 8 #[] #[{ accessFlags := 0, nameIndex := 5, descriptorIndex := 6, attributes := #[] }, { accessFlags := 0, nameIndex := 65, descriptorIndex := 120, attributes := #[] }, { accessFlags := 0, nameIndex := 123, descriptorIndex := 124, attributes := #[] }, { accessFlags := 0, nameIndex := 125, descriptorIndex := 126, attributes := #[] }, { accessFlags := 2, nameIndex := 15, descriptorIndex := 16, attributes := #[] }, { accessFlags := 2, nameIndex := 44, descriptorIndex := 16, attributes := #[] }, { accessFlags := 2, nameIndex := 23, descriptorIndex := 6, attributes := #[] }, { accessFlags := 2, nameIndex := 51, descriptorIndex := 6, attributes := #[] }, { accessFlags := 2, nameIndex := 92, descriptorIndex := 93, attributes := #[] }, { accessFlags := 2, nameIndex := 96, descriptorIndex := 93, attributes := #[] }, { accessFlags := 2, nameIndex := 26, descriptorIndex := 27, attributes := #[] }, { accessFlags := 2, nameIndex := 47, descriptorIndex := 48, attributes := #[] }] 48 2 #[] #[{ accessFlags := 26, nameIndex := 103, descriptorIndex := 12, attributes := #[] }, { accessFlags := 26, nameIndex := 106, descriptorIndex := 107, attributes := #[] }, { accessFlags := 26, nameIndex := 108, descriptorIndex := 107, attributes := #[] }, { accessFlags := 26, nameIndex := 109, descriptorIndex := 107, attributes := #[] }, { accessFlags := 26, nameIndex := 110, descriptorIndex := 12, attributes := #[] }, { accessFlags := 2, nameIndex := 41, descriptorIndex := 31, attributes := #[] }, { accessFlags := 2, nameIndex := 19, descriptorIndex := 20, attributes := #[] }, { accessFlags := 2, nameIndex := 30, descriptorIndex := 31, attributes := #[] }, { accessFlags := 2, nameIndex := 34, descriptorIndex := 35, attributes := #[] }, { accessFlags := 2, nameIndex := 38, descriptorIndex := 35, attributes := #[] }, { accessFlags := 2, nameIndex := 11, descriptorIndex := 12, attributes := #[] }])
  fields := #[{ name := "MIN_CAPACITY", type := .int, accessFlags := 26, slot := 0, constantValue := 0 }, { name := "SLOT_BYTES", type := .long, accessFlags := 26, slot := 1, constantValue := 0 }, { name := "HEADER_BYTES", type := .long, accessFlags := 26, slot := 2, constantValue := 0 }, { name := "BYTES_PER_HASH", type := .long, accessFlags := 26, slot := 3, constantValue := 0 }, { name := "SPREAD", type := .int, accessFlags := 26, slot := 4, constantValue := 0 }, { name := "hashes", type := (.array .int), accessFlags := 2, slot := 0, constantValue := 0 }, { name := "holders", type := (.array (.object "com/example/keys_in_order/keysinorder/Consumer")), accessFlags := 2, slot := 1, constantValue := 0 }, { name := "unacked", type := (.array .int), accessFlags := 2, slot := 2, constantValue := 0 }, { name := "blocked", type := (.array .long), accessFlags := 2, slot := 3, constantValue := 0 }, { name := "resumes", type := (.array .long), accessFlags := 2, slot := 4, constantValue := 0 }, { name := "size", type := .int, accessFlags := 2, slot := 5, constantValue := 0 }]
  methods := #[k40m0, k40m1, k40m2, k40m3, k40m4, k40m5, k40m6, k40m7, k40m8, k40m9, k40m10, k40m11]
  instanceTypes := #[(.array .int), (.array (.object "com/example/keys_in_order/keysinorder/Consumer")), (.array .int), (.array .long), (.array .long), .int]
  staticTypes := #[.int, .long, .long, .long, .int]
  resolved := Array.replicate 163 none
  statics := none }

def pool41 : Array CpInfo := pool [(1, .class_ 2), (0, u "java/lang/Integer"), (16, u "digits"), (0, u "[C"), (32, u "numberOfLeadingZeros"), (0, u "(I)I"), (30, u "DigitOnes"), (0, u "[B"), (2, u "DigitTens"), (99, .class_ 190), (0, u "java/lang/Integer$IntegerCache"), (3, u "I"), (8, .class_ 204), (0, u "java/lang/Number"), (2, u "value"), (56, .integer 65536), (37, u "TYPE"), (0, u "Ljava/lang/Class;"), (0, .class_ 305), (0, u "java/lang/Comparable"), (0, .class_ 307), (0, u "java/lang/constant/Constable"), (0, .class_ 309), (0, u "java/lang/constant/ConstantDesc"), (0, u "MIN_VALUE"), (1, u "MAX_VALUE"), (3, u "SIZE"), (1, u "BYTES"), (1, u "serialVersionUID"), (0, u "J")] 131

def k41c0 : Code := { maxStack := 3, maxLocals := 2, code := jdk_33_method_47_code, exceptionTable := #[], attributes := #[] }
def k41m0 : Method := { name := "numberOfLeadingZeros", desc := "(I)I", sig := { parameters := [.int], returnType := some .int }, accessFlags := 9, code := some k41c0 }
/-- java/lang/Integer -/
def k41 : Class := { plain "java/lang/Integer" (some 15) with
  accessFlags := 49
  interfaces := #[4, 6, 7]
  cf := some (fileOf pool41 1 #[.nestMembers #[189]] #[{ accessFlags := 9, nameIndex := 53, descriptorIndex := 54, attributes := #[] }] 49 203 #[304, 306, 308] #[{ accessFlags := 25, nameIndex := 310, descriptorIndex := 194, attributes := #[] }, { accessFlags := 25, nameIndex := 312, descriptorIndex := 194, attributes := #[] }, { accessFlags := 25, nameIndex := 302, descriptorIndex := 303, attributes := #[] }, { accessFlags := 24, nameIndex := 19, descriptorIndex := 20, attributes := #[] }, { accessFlags := 24, nameIndex := 89, descriptorIndex := 86, attributes := #[] }, { accessFlags := 24, nameIndex := 85, descriptorIndex := 86, attributes := #[] }, { accessFlags := 18, nameIndex := 207, descriptorIndex := 194, attributes := #[] }, { accessFlags := 25, nameIndex := 316, descriptorIndex := 194, attributes := #[] }, { accessFlags := 25, nameIndex := 318, descriptorIndex := 194, attributes := #[] }, { accessFlags := 26, nameIndex := 320, descriptorIndex := 321, attributes := #[] }])
  fields := #[{ name := "MIN_VALUE", type := .int, accessFlags := 25, slot := 0, constantValue := 0 }, { name := "MAX_VALUE", type := .int, accessFlags := 25, slot := 1, constantValue := 0 }, { name := "TYPE", type := (.object "java/lang/Class"), accessFlags := 25, slot := 2, constantValue := 0 }, { name := "digits", type := (.array .char), accessFlags := 24, slot := 3, constantValue := 0 }, { name := "DigitTens", type := (.array .byte), accessFlags := 24, slot := 4, constantValue := 0 }, { name := "DigitOnes", type := (.array .byte), accessFlags := 24, slot := 5, constantValue := 0 }, { name := "value", type := .int, accessFlags := 18, slot := 0, constantValue := 0 }, { name := "SIZE", type := .int, accessFlags := 25, slot := 6, constantValue := 0 }, { name := "BYTES", type := .int, accessFlags := 25, slot := 7, constantValue := 0 }, { name := "serialVersionUID", type := .long, accessFlags := 26, slot := 8, constantValue := 0 }]
  methods := #[k41m0]
  instanceTypes := #[.int]
  staticTypes := #[.int, .int, (.object "java/lang/Class"), (.array .char), (.array .byte), (.array .byte), .int, .int, .long]
  resolved := Array.replicate 453 none
  statics := none }

def pool42 : Array CpInfo := pool [(9, u "<init>"), (6, .class_ 18), (1, u "java/lang/Object"), (0, u "()V"), (1, .class_ 23), (1, u "jdk/internal/util/ArraysSupport"), (0, u "LOG2_ARRAY_LONG_INDEX_SCALE"), (0, u "I"), (2, u "U"), (0, u "Ljdk/internal/misc/Unsafe;"), (8, u "BIG_ENDIAN"), (0, u "Z"), (8, u "LOG2_BYTE_BIT_SIZE"), (4, u "LOG2_ARRAY_INT_INDEX_SCALE"), (54, u "JLA"), (0, u "Ljdk/internal/access/JavaLangAccess;"), (11, u "LOG2_ARRAY_BOOLEAN_INDEX_SCALE"), (9, u "LOG2_ARRAY_BYTE_INDEX_SCALE"), (5, u "LOG2_ARRAY_CHAR_INDEX_SCALE"), (5, u "LOG2_ARRAY_SHORT_INDEX_SCALE"), (18, u "LOG2_ARRAY_FLOAT_INDEX_SCALE"), (24, u "LOG2_ARRAY_DOUBLE_INDEX_SCALE"), (89, u "T_BOOLEAN"), (2, u "T_CHAR"), (1, u "T_FLOAT"), (1, u "T_DOUBLE"), (1, u "T_BYTE"), (1, u "T_SHORT"), (1, u "T_INT"), (1, u "T_LONG"), (1, u "SOFT_MAX_ARRAY_LENGTH")] 83

def k42m0 : Method := { name := "<init>", desc := "()V", sig := { parameters := [], returnType := none }, accessFlags := 2, code := none }
/-- jdk/internal/util/ArraysSupport -/
def k42 : Class := { plain "jdk/internal/util/ArraysSupport" (some 0) with
  accessFlags := 33
  interfaces := #[]
  cf := some (fileOf pool42 21 #[] #[{ accessFlags := 2, nameIndex := 9, descriptorIndex := 19, attributes := #[] }] 33 16 #[] #[{ accessFlags := 24, nameIndex := 28, descriptorIndex := 29, attributes := #[] }, { accessFlags := 26, nameIndex := 38, descriptorIndex := 39, attributes := #[] }, { accessFlags := 25, nameIndex := 121, descriptorIndex := 25, attributes := #[] }, { accessFlags := 25, nameIndex := 131, descriptorIndex := 25, attributes := #[] }, { accessFlags := 25, nameIndex := 137, descriptorIndex := 25, attributes := #[] }, { accessFlags := 25, nameIndex := 143, descriptorIndex := 25, attributes := #[] }, { accessFlags := 25, nameIndex := 53, descriptorIndex := 25, attributes := #[] }, { accessFlags := 25, nameIndex := 24, descriptorIndex := 25, attributes := #[] }, { accessFlags := 25, nameIndex := 162, descriptorIndex := 25, attributes := #[] }, { accessFlags := 25, nameIndex := 187, descriptorIndex := 25, attributes := #[] }, { accessFlags := 26, nameIndex := 48, descriptorIndex := 25, attributes := #[] }, { accessFlags := 25, nameIndex := 277, descriptorIndex := 25, attributes := #[] }, { accessFlags := 25, nameIndex := 280, descriptorIndex := 25, attributes := #[] }, { accessFlags := 25, nameIndex := 282, descriptorIndex := 25, attributes := #[] }, { accessFlags := 25, nameIndex := 284, descriptorIndex := 25, attributes := #[] }, { accessFlags := 25, nameIndex := 286, descriptorIndex := 25, attributes := #[] }, { accessFlags := 25, nameIndex := 288, descriptorIndex := 25, attributes := #[] }, { accessFlags := 25, nameIndex := 290, descriptorIndex := 25, attributes := #[] }, { accessFlags := 25, nameIndex := 292, descriptorIndex := 25, attributes := #[] }, { accessFlags := 26, nameIndex := 108, descriptorIndex := 109, attributes := #[] }, { accessFlags := 25, nameIndex := 294, descriptorIndex := 25, attributes := #[] }])
  fields := #[{ name := "U", type := (.object "jdk/internal/misc/Unsafe"), accessFlags := 24, slot := 0, constantValue := 0 }, { name := "BIG_ENDIAN", type := .boolean, accessFlags := 26, slot := 1, constantValue := 0 }, { name := "LOG2_ARRAY_BOOLEAN_INDEX_SCALE", type := .int, accessFlags := 25, slot := 2, constantValue := 0 }, { name := "LOG2_ARRAY_BYTE_INDEX_SCALE", type := .int, accessFlags := 25, slot := 3, constantValue := 0 }, { name := "LOG2_ARRAY_CHAR_INDEX_SCALE", type := .int, accessFlags := 25, slot := 4, constantValue := 0 }, { name := "LOG2_ARRAY_SHORT_INDEX_SCALE", type := .int, accessFlags := 25, slot := 5, constantValue := 0 }, { name := "LOG2_ARRAY_INT_INDEX_SCALE", type := .int, accessFlags := 25, slot := 6, constantValue := 0 }, { name := "LOG2_ARRAY_LONG_INDEX_SCALE", type := .int, accessFlags := 25, slot := 7, constantValue := 0 }, { name := "LOG2_ARRAY_FLOAT_INDEX_SCALE", type := .int, accessFlags := 25, slot := 8, constantValue := 0 }, { name := "LOG2_ARRAY_DOUBLE_INDEX_SCALE", type := .int, accessFlags := 25, slot := 9, constantValue := 0 }, { name := "LOG2_BYTE_BIT_SIZE", type := .int, accessFlags := 26, slot := 10, constantValue := 0 }, { name := "T_BOOLEAN", type := .int, accessFlags := 25, slot := 11, constantValue := 0 }, { name := "T_CHAR", type := .int, accessFlags := 25, slot := 12, constantValue := 0 }, { name := "T_FLOAT", type := .int, accessFlags := 25, slot := 13, constantValue := 0 }, { name := "T_DOUBLE", type := .int, accessFlags := 25, slot := 14, constantValue := 0 }, { name := "T_BYTE", type := .int, accessFlags := 25, slot := 15, constantValue := 0 }, { name := "T_SHORT", type := .int, accessFlags := 25, slot := 16, constantValue := 0 }, { name := "T_INT", type := .int, accessFlags := 25, slot := 17, constantValue := 0 }, { name := "T_LONG", type := .int, accessFlags := 25, slot := 18, constantValue := 0 }, { name := "JLA", type := (.object "jdk/internal/access/JavaLangAccess"), accessFlags := 26, slot := 19, constantValue := 0 }, { name := "SOFT_MAX_ARRAY_LENGTH", type := .int, accessFlags := 25, slot := 20, constantValue := 0 }]
  methods := #[k42m0]
  instanceTypes := #[]
  staticTypes := #[(.object "jdk/internal/misc/Unsafe"), .boolean, .int, .int, .int, .int, .int, .int, .int, .int, .int, .int, .int, .int, .int, .int, .int, .int, .int, (.object "jdk/internal/access/JavaLangAccess"), .int]
  resolved := Array.replicate 378 none
  statics := none }

/-- the primitive byte -/
def k43 : Class := { plain "byte" none with kind := .primitive 'B', accessFlags := 0x411 }
/-- [B -/
def k44 : Class := { plain "[B" (some 0) with kind := .array 43 .byte, interfaces := #[31, 3], accessFlags := 1041 }

/-- the primitive int -/
def k45 : Class := { plain "int" none with kind := .primitive 'I', accessFlags := 0x411 }
/-- [I -/
def k46 : Class := { plain "[I" (some 0) with kind := .array 45 .int, interfaces := #[31, 3], accessFlags := 1041 }

/-- the primitive long -/
def k47 : Class := { plain "long" none with kind := .primitive 'J', accessFlags := 0x411 }
/-- [J -/
def k48 : Class := { plain "[J" (some 0) with kind := .array 47 .long, interfaces := #[31, 3], accessFlags := 1041 }

/-- [Lcom/example/keys_in_order/keysinorder/Consumer; -/
def k49 : Class := { plain "[Lcom/example/keys_in_order/keysinorder/Consumer;" (some 0) with kind := .array 2 (.object "com/example/keys_in_order/keysinorder/Consumer"), interfaces := #[31, 3], accessFlags := 1041 }

def heap : Heap := #[{ cls := 8, slots := #[.long 0, .int 1, .null, .int 0, .null, .int 0, .int 0], vm := .statics 8 },
  { cls := 12, slots := #[.null, .ref 5, .null], vm := .statics 12 },
  { cls := 13, slots := #[.ref 6, .null, .null], vm := .statics 13 },
  { cls := 20, slots := #[.null, .null, .null], vm := .statics 20 },
  { cls := 39, slots := #[.null, .null, .ref 9, .null, .null, .null, .null, .long 0, .long 0, .long 0, .long 0, .long 0, .long 0, .long 0, .null], vm := .statics 39 },
  { cls := 12, slots := #[.null, .int 0, .int 0, .null], vm := .none },
  { cls := 13, slots := #[.null, .int 0, .int 0, .null], vm := .none },
  { cls := 44, slots := #[.int 77], vm := .none },
  { cls := 8, slots := #[.ref 7, .int 0, .int 0, .int 0], vm := .none },
  { cls := 39, slots := #[.ref 8, .int 2, .int 0, .long 1000000, .long 9223372036854, .long 9223372036854775, .long 9223372036854775807, .long 9223372036854775, .long 1000, .int 1, .int 1000], vm := .none }]
def classes : Array Class := #[k0, k1, k2, k3, k4, k5, k6, k7, k8, k9, k10, k11, k12, k13, k14, k15, k16, k17, k18, k19, k20, k21, k22, k23, k24, k25, k26, k27, k28, k29, k30, k31, k32, k33, k34, k35, k36, k37, k38, k39, k40, k41, k42, k43, k44, k45, k46, k47, k48, k49]
def interned : List (Array UInt16 × Addr) := []
def slotsUsed : Nat := 55
def theMethod : MethodId := ⟨1, 1⟩
def args0 : Array Value := #[.int 7, .int 8, .int 9, .int 10, .int 11, .int 5]
def aboutOver (below : List Frame) : State where
  vm := { classes := classes, interned := interned.toArray }
  heap := heap
  slotsUsed := slotsUsed
  threads := #[{ frames := .invoking theMethod args0 :: below }]
def below0 : List Frame := [.native { method := ⟨0, 0⟩, args := #[] }]
def about1 : State := aboutOver below0
def p0 : Program := .bare "" "" ""
def e0 : Env := launch0.env 0 0 0
theorem w_frames : about1.frames = Frame.invoking theMethod args0 :: below0 := rfl
set_option maxRecDepth 65536 in
theorem w_args : argsFit about1.vm theMethod args0 = true := by decide +kernel
set_option maxRecDepth 65536 in
theorem w_heap : heapFits about1 = true := by decide +kernel
set_option maxRecDepth 65536 in
theorem w_runnable : about1.curStatus? = some .runnable := by decide +kernel
set_option maxRecDepth 65536 in
theorem w_alone : about1.alone = true := by decide +kernel
set_option maxRecDepth 65536 in
theorem w_named : about1.methodNamed? x = some theMethod := by decide +kernel
set_option maxRecDepth 65536 in
theorem w_hears : about1.hears theMethod below0 = true := by decide +kernel
set_option maxRecDepth 65536 in
theorem w_ripe : about1.ripe theMethod args0 below0 = true := by decide +kernel
theorem w_running : about1.status = .running := rfl
set_option maxRecDepth 65536 in
theorem w_room : about1.hasRoom e0.platform room_1 = true :=
  launch0.hasRoom_least _ room_1 (by decide +kernel) (by decide +kernel) (by decide +kernel) (by decide +kernel) (by decide +kernel) (by decide +kernel)
theorem allAtoms_all (ts : List Jvm.Cond) (a : Array Jvm.Value) (st : Jvm.State) : (allAtoms ts).before a st = ts.all (fun c => c.before a st) := by
  induction ts with
  | nil => rfl
  | cons c t ih =>
    show (Jvm.Cond.and c (allAtoms t)).before a st = _
    rw [Jvm.Cond.before_and, ih, List.all_cons]
def words1 : List Jvm.Cond := Jvm.Cond.code x code maxLocals ret :: tables_1
/-- a 'code' word, met by the world's own term for the bytes: nothing is compared byte by byte -/
theorem code_word {y : MethodName} {bytes : ByteArray} {mx : Nat} {rt : Option FieldType} {a : Array Value} {s : State} {m : MethodId} {meth : Method} {c : Code} (h1 : s.methodNamed? y = some m) (h2 : s.vm.method? m = some meth) (h3 : meth.code = some c) (h4 : c.code = bytes)
    (h5 : (c.maxLocals == mx && c.exceptionTable.isEmpty && decide (c.maxStack ≤ mostOperands) && decide (meth.sig.returnType = rt) && !meth.locks && decide (parseMethodDescriptor y.desc = some meth.sig)) = true) : (Jvm.Cond.code y bytes mx rt).before a s = true := by
  simp only [Bool.and_eq_true, beq_iff_eq, Bool.not_eq_true', decide_eq_true_eq] at h5
  obtain ⟨⟨⟨⟨⟨g1, g2⟩, g3⟩, g4⟩, g5⟩, g6⟩ := h5
  simp [Cond.before, Cond.holds, Cond.value, h1, h2, h3, h4, g1, g2, g3, g4, g5, g6]
def isCode : Jvm.Cond → Bool
  | .code _ _ _ _ => true
  | _ => false
theorem all_split {L : List Jvm.Cond} {P : Jvm.Cond → Bool} (h1 : L.all (fun c => isCode c || P c) = true) (h2 : ∀ c ∈ L.filter isCode, P c = true) : L.all P = true := by
  refine List.all_eq_true.mpr fun c hc => ?_
  have h := List.all_eq_true.mp h1 c hc
  rcases Bool.eq_false_or_eq_true (isCode c) with hi | hi
  · exact h2 c (List.mem_filter.mpr ⟨hc, hi⟩)
  · simpa [hi] using h
set_option maxRecDepth 65536 in
theorem w_c0 : (Jvm.Cond.code x code maxLocals ret).before args0 about1 = true := code_word (m := ⟨1, 1⟩) (meth := k1m1) (c := k1c1) (by decide +kernel) rfl rfl rfl (by decide +kernel)
set_option maxRecDepth 65536 in
theorem w_c1 : (Jvm.Cond.code ({ cls := "com/example/keys_in_order/keysinorder/ConsumerOptions", name := "<init>", desc := "(Ljava/lang/String;Lcom/example/keys_in_order/keysinorder/SubscriptionType;Lcom/example/keys_in_order/keysinorder/InitialPosition;I)V" } : Jvm.MethodName) prog_3_method_3_code (5 : Nat) (Option.none : Option Jvm.ClassFile.FieldType)).before args0 about1 = true := code_word (m := ⟨10, 2⟩) (meth := k10m2) (c := k10c2) (by decide +kernel) rfl rfl rfl (by decide +kernel)
set_option maxRecDepth 65536 in
theorem w_c2 : (Jvm.Cond.code ({ cls := "com/example/keys_in_order/keysinorder/ConsumerOptions", name := "<init>", desc := "(Ljava/lang/String;Lcom/example/keys_in_order/keysinorder/SubscriptionType;Lcom/example/keys_in_order/keysinorder/InitialPosition;IJ)V" } : Jvm.MethodName) prog_3_method_2_code (7 : Nat) (Option.none : Option Jvm.ClassFile.FieldType)).before args0 about1 = true := code_word (m := ⟨10, 1⟩) (meth := k10m1) (c := k10c1) (by decide +kernel) rfl rfl rfl (by decide +kernel)
set_option maxRecDepth 65536 in
theorem w_c3 : (Jvm.Cond.code ({ cls := "com/example/keys_in_order/keysinorder/NackBackoff", name := "fixed", desc := "(J)Lcom/example/keys_in_order/keysinorder/NackBackoff;" } : Jvm.MethodName) prog_21_method_2_code (2 : Nat) (Option.some (Jvm.ClassFile.FieldType.object "com/example/keys_in_order/keysinorder/NackBackoff"))).before args0 about1 = true := code_word (m := ⟨14, 1⟩) (meth := k14m1) (c := k14c1) (by decide +kernel) rfl rfl rfl (by decide +kernel)
set_option maxRecDepth 65536 in
theorem w_c4 : (Jvm.Cond.code ({ cls := "com/example/keys_in_order/keysinorder/NackBackoff", name := "<init>", desc := "(JJD)V" } : Jvm.MethodName) prog_21_method_1_code (7 : Nat) (Option.none : Option Jvm.ClassFile.FieldType)).before args0 about1 = true := code_word (m := ⟨14, 0⟩) (meth := k14m0) (c := k14c0) (by decide +kernel) rfl rfl rfl (by decide +kernel)
set_option maxRecDepth 65536 in
theorem w_c5 : (Jvm.Cond.code ({ cls := "java/lang/Record", name := "<init>", desc := "()V" } : Jvm.MethodName) jdk_30_method_1_code (1 : Nat) (Option.none : Option Jvm.ClassFile.FieldType)).before args0 about1 = true := code_word (m := ⟨9, 0⟩) (meth := k9m0) (c := k9c0) (by decide +kernel) rfl rfl rfl (by decide +kernel)
set_option maxRecDepth 65536 in
theorem w_c6 : (Jvm.Cond.code ({ cls := "java/lang/Object", name := "<init>", desc := "()V" } : Jvm.MethodName) object_method_1_code (1 : Nat) (Option.none : Option Jvm.ClassFile.FieldType)).before args0 about1 = true := code_word (m := ⟨0, 0⟩) (meth := k0m0) (c := k0c0) (by decide +kernel) rfl rfl rfl (by decide +kernel)
set_option maxRecDepth 65536 in
theorem w_c7 : (Jvm.Cond.code ({ cls := "java/lang/Double", name := "isFinite", desc := "(D)Z" } : Jvm.MethodName) jdk_117_method_8_code (2 : Nat) (Option.some Jvm.ClassFile.FieldType.boolean)).before args0 about1 = true := code_word (m := ⟨16, 0⟩) (meth := k16m0) (c := k16c0) (by decide +kernel) rfl rfl rfl (by decide +kernel)
set_option maxRecDepth 65536 in
theorem w_c8 : (Jvm.Cond.code ({ cls := "java/lang/Math", name := "abs", desc := "(D)D" } : Jvm.MethodName) jdk_29_method_64_code (2 : Nat) (Option.some Jvm.ClassFile.FieldType.double)).before args0 about1 = true := code_word (m := ⟨17, 1⟩) (meth := k17m1) (c := k17c1) (by decide +kernel) rfl rfl rfl (by decide +kernel)
set_option maxRecDepth 65536 in
theorem w_c9 : (Jvm.Cond.code ({ cls := "com/example/keys_in_order/keysinorder/ConsumerOptions", name := "<init>", desc := "(Ljava/lang/String;Lcom/example/keys_in_order/keysinorder/SubscriptionType;Lcom/example/keys_in_order/keysinorder/InitialPosition;IJLcom/example/keys_in_order/keysinorder/NackBackoff;)V" } : Jvm.MethodName) prog_3_method_1_code (8 : Nat) (Option.none : Option Jvm.ClassFile.FieldType)).before args0 about1 = true := code_word (m := ⟨10, 0⟩) (meth := k10m0) (c := k10c0) (by decide +kernel) rfl rfl rfl (by decide +kernel)
set_option maxRecDepth 65536 in
theorem w_c10 : (Jvm.Cond.code ({ cls := "com/example/keys_in_order/keysinorder/Names", name := "require", desc := "(Ljava/lang/String;Ljava/lang/String;)Ljava/lang/String;" } : Jvm.MethodName) prog_24_method_2_code (5 : Nat) (Option.some (Jvm.ClassFile.FieldType.object "java/lang/String"))).before args0 about1 = true := code_word (m := ⟨18, 1⟩) (meth := k18m1) (c := k18c1) (by decide +kernel) rfl rfl rfl (by decide +kernel)
set_option maxRecDepth 65536 in
theorem w_c11 : (Jvm.Cond.code ({ cls := "java/lang/String", name := "isEmpty", desc := "()Z" } : Jvm.MethodName) jdk_42_method_55_code (1 : Nat) (Option.some Jvm.ClassFile.FieldType.boolean)).before args0 about1 = true := code_word (m := ⟨8, 2⟩) (meth := k8m2) (c := k8c2) (by decide +kernel) rfl rfl rfl (by decide +kernel)
set_option maxRecDepth 65536 in
theorem w_c12 : (Jvm.Cond.code ({ cls := "java/lang/String", name := "length", desc := "()I" } : Jvm.MethodName) jdk_42_method_54_code (1 : Nat) (Option.some Jvm.ClassFile.FieldType.int)).before args0 about1 = true := code_word (m := ⟨8, 1⟩) (meth := k8m1) (c := k8c1) (by decide +kernel) rfl rfl rfl (by decide +kernel)
set_option maxRecDepth 65536 in
theorem w_c13 : (Jvm.Cond.code ({ cls := "java/lang/String", name := "coder", desc := "()B" } : Jvm.MethodName) jdk_42_method_152_code (1 : Nat) (Option.some Jvm.ClassFile.FieldType.byte)).before args0 about1 = true := code_word (m := ⟨8, 4⟩) (meth := k8m4) (c := k8c4) (by decide +kernel) rfl rfl rfl (by decide +kernel)
set_option maxRecDepth 65536 in
theorem w_c14 : (Jvm.Cond.code ({ cls := "java/lang/String", name := "charAt", desc := "(I)C" } : Jvm.MethodName) jdk_42_method_56_code (2 : Nat) (Option.some Jvm.ClassFile.FieldType.char)).before args0 about1 = true := code_word (m := ⟨8, 3⟩) (meth := k8m3) (c := k8c3) (by decide +kernel) rfl rfl rfl (by decide +kernel)
set_option maxRecDepth 65536 in
theorem w_c15 : (Jvm.Cond.code ({ cls := "java/lang/String", name := "isLatin1", desc := "()Z" } : Jvm.MethodName) jdk_42_method_154_code (1 : Nat) (Option.some Jvm.ClassFile.FieldType.boolean)).before args0 about1 = true := code_word (m := ⟨8, 5⟩) (meth := k8m5) (c := k8c5) (by decide +kernel) rfl rfl rfl (by decide +kernel)
set_option maxRecDepth 65536 in
theorem w_c16 : (Jvm.Cond.code ({ cls := "java/lang/StringLatin1", name := "charAt", desc := "([BI)C" } : Jvm.MethodName) jdk_43_method_2_code (2 : Nat) (Option.some Jvm.ClassFile.FieldType.char)).before args0 about1 = true := code_word (m := ⟨19, 1⟩) (meth := k19m1) (c := k19c1) (by decide +kernel) rfl rfl rfl (by decide +kernel)
set_option maxRecDepth 65536 in
theorem w_c17 : (Jvm.Cond.code ({ cls := "java/lang/String", name := "checkIndex", desc := "(II)V" } : Jvm.MethodName) jdk_42_method_155_code (2 : Nat) (Option.none : Option Jvm.ClassFile.FieldType)).before args0 about1 = true := code_word (m := ⟨8, 6⟩) (meth := k8m6) (c := k8c6) (by decide +kernel) rfl rfl rfl (by decide +kernel)
set_option maxRecDepth 65536 in
theorem w_c18 : (Jvm.Cond.code ({ cls := "jdk/internal/util/Preconditions", name := "checkIndex", desc := "(IILjava/util/function/BiFunction;)I" } : Jvm.MethodName) jdk_41_method_11_code (3 : Nat) (Option.some Jvm.ClassFile.FieldType.int)).before args0 about1 = true := code_word (m := ⟨20, 1⟩) (meth := k20m1) (c := k20c1) (by decide +kernel) rfl rfl rfl (by decide +kernel)
set_option maxRecDepth 65536 in
theorem w_c19 : (Jvm.Cond.code ({ cls := "java/util/Objects", name := "requireNonNull", desc := "(Ljava/lang/Object;Ljava/lang/String;)Ljava/lang/Object;" } : Jvm.MethodName) jdk_31_method_11_code (2 : Nat) (Option.some (Jvm.ClassFile.FieldType.object "java/lang/Object"))).before args0 about1 = true := code_word (m := ⟨21, 1⟩) (meth := k21m1) (c := k21c1) (by decide +kernel) rfl rfl rfl (by decide +kernel)
set_option maxRecDepth 65536 in
theorem w_c20 : (Jvm.Cond.code ({ cls := "com/example/keys_in_order/keysinorder/Consumer", name := "<init>", desc := "(Ljava/lang/String;Lcom/example/keys_in_order/keysinorder/ConsumerOptions;Lcom/example/keys_in_order/keysinorder/Topic;Lcom/example/keys_in_order/keysinorder/Subscription;J)V" } : Jvm.MethodName) prog_2_method_1_code (7 : Nat) (Option.none : Option Jvm.ClassFile.FieldType)).before args0 about1 = true := code_word (m := ⟨2, 0⟩) (meth := k2m0) (c := k2c0) (by decide +kernel) rfl rfl rfl (by decide +kernel)
set_option maxRecDepth 65536 in
theorem w_c21 : (Jvm.Cond.code ({ cls := "java/util/TreeSet", name := "<init>", desc := "()V" } : Jvm.MethodName) jdk_2756_method_2_code (1 : Nat) (Option.none : Option Jvm.ClassFile.FieldType)).before args0 about1 = true := code_word (m := ⟨32, 1⟩) (meth := k32m1) (c := k32c1) (by decide +kernel) rfl rfl rfl (by decide +kernel)
set_option maxRecDepth 65536 in
theorem w_c22 : (Jvm.Cond.code ({ cls := "java/util/TreeMap", name := "<init>", desc := "()V" } : Jvm.MethodName) jdk_2729_method_1_code (1 : Nat) (Option.none : Option Jvm.ClassFile.FieldType)).before args0 about1 = true := code_word (m := ⟨38, 0⟩) (meth := k38m0) (c := k38c0) (by decide +kernel) rfl rfl rfl (by decide +kernel)
set_option maxRecDepth 65536 in
theorem w_c23 : (Jvm.Cond.code ({ cls := "java/util/AbstractMap", name := "<init>", desc := "()V" } : Jvm.MethodName) jdk_71_method_1_code (1 : Nat) (Option.none : Option Jvm.ClassFile.FieldType)).before args0 about1 = true := code_word (m := ⟨34, 0⟩) (meth := k34m0) (c := k34c0) (by decide +kernel) rfl rfl rfl (by decide +kernel)
set_option maxRecDepth 65536 in
theorem w_c24 : (Jvm.Cond.code ({ cls := "java/util/TreeSet", name := "<init>", desc := "(Ljava/util/NavigableMap;)V" } : Jvm.MethodName) jdk_2756_method_1_code (2 : Nat) (Option.none : Option Jvm.ClassFile.FieldType)).before args0 about1 = true := code_word (m := ⟨32, 0⟩) (meth := k32m0) (c := k32c0) (by decide +kernel) rfl rfl rfl (by decide +kernel)
set_option maxRecDepth 65536 in
theorem w_c25 : (Jvm.Cond.code ({ cls := "java/util/AbstractSet", name := "<init>", desc := "()V" } : Jvm.MethodName) jdk_91_method_1_code (1 : Nat) (Option.none : Option Jvm.ClassFile.FieldType)).before args0 about1 = true := code_word (m := ⟨26, 0⟩) (meth := k26m0) (c := k26c0) (by decide +kernel) rfl rfl rfl (by decide +kernel)
set_option maxRecDepth 65536 in
theorem w_c26 : (Jvm.Cond.code ({ cls := "java/util/AbstractCollection", name := "<init>", desc := "()V" } : Jvm.MethodName) jdk_22_method_1_code (1 : Nat) (Option.none : Option Jvm.ClassFile.FieldType)).before args0 about1 = true := code_word (m := ⟨24, 0⟩) (meth := k24m0) (c := k24c0) (by decide +kernel) rfl rfl rfl (by decide +kernel)
set_option maxRecDepth 65536 in
theorem w_c27 : (Jvm.Cond.code ({ cls := "com/example/keys_in_order/keysinorder/ConsumerOptions", name := "leaseMs", desc := "()J" } : Jvm.MethodName) prog_3_method_11_code (1 : Nat) (Option.some Jvm.ClassFile.FieldType.long)).before args0 about1 = true := code_word (m := ⟨10, 3⟩) (meth := k10m3) (c := k10c3) (by decide +kernel) rfl rfl rfl (by decide +kernel)
set_option maxRecDepth 65536 in
theorem w_c28 : (Jvm.Cond.code ({ cls := "java/util/concurrent/TimeUnit", name := "toNanos", desc := "(J)J" } : Jvm.MethodName) jdk_2799_method_7_code (7 : Nat) (Option.some Jvm.ClassFile.FieldType.long)).before args0 about1 = true := code_word (m := ⟨39, 0⟩) (meth := k39m0) (c := k39c0) (by decide +kernel) rfl rfl rfl (by decide +kernel)
set_option maxRecDepth 65536 in
theorem w_c29 : (Jvm.Cond.code ({ cls := "com/example/keys_in_order/keysinorder/DrainingHashes", name := "<init>", desc := "()V" } : Jvm.MethodName) prog_8_method_1_code (1 : Nat) (Option.none : Option Jvm.ClassFile.FieldType)).before args0 about1 = true := code_word (m := ⟨40, 0⟩) (meth := k40m0) (c := k40c0) (by decide +kernel) rfl rfl rfl (by decide +kernel)
set_option maxRecDepth 65536 in
theorem w_c30 : (Jvm.Cond.code ({ cls := "com/example/keys_in_order/keysinorder/DrainingHashes", name := "add", desc := "(ILcom/example/keys_in_order/keysinorder/Consumer;J)V" } : Jvm.MethodName) prog_8_method_5_code (6 : Nat) (Option.none : Option Jvm.ClassFile.FieldType)).before args0 about1 = true := code_word (m := ⟨40, 1⟩) (meth := k40m1) (c := k40c1) (by decide +kernel) rfl rfl rfl (by decide +kernel)
set_option maxRecDepth 65536 in
theorem w_c31 : (Jvm.Cond.code ({ cls := "com/example/keys_in_order/keysinorder/DrainingHashes", name := "slotOf", desc := "(I)I" } : Jvm.MethodName) prog_8_method_12_code (4 : Nat) (Option.some Jvm.ClassFile.FieldType.int)).before args0 about1 = true := code_word (m := ⟨40, 4⟩) (meth := k40m4) (c := k40c4) (by decide +kernel) rfl rfl rfl (by decide +kernel)
set_option maxRecDepth 65536 in
theorem w_c32 : (Jvm.Cond.code ({ cls := "com/example/keys_in_order/keysinorder/DrainingHashes", name := "grow", desc := "()V" } : Jvm.MethodName) prog_8_method_14_code (1 : Nat) (Option.none : Option Jvm.ClassFile.FieldType)).before args0 about1 = true := code_word (m := ⟨40, 6⟩) (meth := k40m6) (c := k40c6) (by decide +kernel) rfl rfl rfl (by decide +kernel)
set_option maxRecDepth 65536 in
theorem w_c33 : (Jvm.Cond.code ({ cls := "com/example/keys_in_order/keysinorder/DrainingHashes", name := "allocate", desc := "(I)V" } : Jvm.MethodName) prog_8_method_16_code (2 : Nat) (Option.none : Option Jvm.ClassFile.FieldType)).before args0 about1 = true := code_word (m := ⟨40, 8⟩) (meth := k40m8) (c := k40c8) (by decide +kernel) rfl rfl rfl (by decide +kernel)
set_option maxRecDepth 65536 in
theorem w_c34 : (Jvm.Cond.code ({ cls := "com/example/keys_in_order/keysinorder/DrainingHashes", name := "place", desc := "(ILcom/example/keys_in_order/keysinorder/Consumer;IJJ)I" } : Jvm.MethodName) prog_8_method_18_code (10 : Nat) (Option.some Jvm.ClassFile.FieldType.int)).before args0 about1 = true := code_word (m := ⟨40, 10⟩) (meth := k40m10) (c := k40c10) (by decide +kernel) rfl rfl rfl (by decide +kernel)
set_option maxRecDepth 65536 in
theorem w_c35 : (Jvm.Cond.code ({ cls := "com/example/keys_in_order/keysinorder/DrainingHashes", name := "home", desc := "(I)I" } : Jvm.MethodName) prog_8_method_13_code (2 : Nat) (Option.some Jvm.ClassFile.FieldType.int)).before args0 about1 = true := code_word (m := ⟨40, 5⟩) (meth := k40m5) (c := k40c5) (by decide +kernel) rfl rfl rfl (by decide +kernel)
set_option maxRecDepth 65536 in
theorem w_c36 : (Jvm.Cond.code ({ cls := "java/lang/Integer", name := "numberOfLeadingZeros", desc := "(I)I" } : Jvm.MethodName) jdk_33_method_47_code (2 : Nat) (Option.some Jvm.ClassFile.FieldType.int)).before args0 about1 = true := code_word (m := ⟨41, 0⟩) (meth := k41m0) (c := k41c0) (by decide +kernel) rfl rfl rfl (by decide +kernel)
set_option maxRecDepth 65536 in
theorem w_c37 : (Jvm.Cond.code ({ cls := "com/example/keys_in_order/keysinorder/DrainingHashes", name := "capacity", desc := "()I" } : Jvm.MethodName) prog_8_method_9_code (1 : Nat) (Option.some Jvm.ClassFile.FieldType.int)).before args0 about1 = true := code_word (m := ⟨40, 3⟩) (meth := k40m3) (c := k40c3) (by decide +kernel) rfl rfl rfl (by decide +kernel)
set_option maxRecDepth 65536 in
theorem w_c38 : (Jvm.Cond.code ({ cls := "com/example/keys_in_order/keysinorder/DrainingHashes", name := "remove", desc := "(I)J" } : Jvm.MethodName) prog_8_method_8_code (8 : Nat) (Option.some Jvm.ClassFile.FieldType.long)).before args0 about1 = true := code_word (m := ⟨40, 2⟩) (meth := k40m2) (c := k40c2) (by decide +kernel) rfl rfl rfl (by decide +kernel)
set_option maxRecDepth 65536 in
theorem w_c39 : (Jvm.Cond.code ({ cls := "com/example/keys_in_order/keysinorder/DrainingHashes", name := "move", desc := "(II)V" } : Jvm.MethodName) prog_8_method_19_code (3 : Nat) (Option.none : Option Jvm.ClassFile.FieldType)).before args0 about1 = true := code_word (m := ⟨40, 11⟩) (meth := k40m11) (c := k40c11) (by decide +kernel) rfl rfl rfl (by decide +kernel)
set_option maxRecDepth 65536 in
theorem w_c40 : (Jvm.Cond.code ({ cls := "com/example/keys_in_order/keysinorder/DrainingHashes", name := "shrink", desc := "()V" } : Jvm.MethodName) prog_8_method_15_code (2 : Nat) (Option.none : Option Jvm.ClassFile.FieldType)).before args0 about1 = true := code_word (m := ⟨40, 7⟩) (meth := k40m7) (c := k40c7) (by decide +kernel) rfl rfl rfl (by decide +kernel)
set_option maxRecDepth 65536 in
theorem w_c41 : (Jvm.Cond.code ({ cls := "com/example/keys_in_order/keysinorder/DrainingHashes", name := "resize", desc := "(I)V" } : Jvm.MethodName) prog_8_method_17_code (8 : Nat) (Option.none : Option Jvm.ClassFile.FieldType)).before args0 about1 = true := code_word (m := ⟨40, 9⟩) (meth := k40m9) (c := k40c9) (by decide +kernel) rfl rfl rfl (by decide +kernel)
def codes1 : List Jvm.Cond := [Jvm.Cond.code x code maxLocals ret, Jvm.Cond.code ({ cls := "com/example/keys_in_order/keysinorder/ConsumerOptions", name := "<init>", desc := "(Ljava/lang/String;Lcom/example/keys_in_order/keysinorder/SubscriptionType;Lcom/example/keys_in_order/keysinorder/InitialPosition;I)V" } : Jvm.MethodName) prog_3_method_3_code (5 : Nat) (Option.none : Option Jvm.ClassFile.FieldType), Jvm.Cond.code ({ cls := "com/example/keys_in_order/keysinorder/ConsumerOptions", name := "<init>", desc := "(Ljava/lang/String;Lcom/example/keys_in_order/keysinorder/SubscriptionType;Lcom/example/keys_in_order/keysinorder/InitialPosition;IJ)V" } : Jvm.MethodName) prog_3_method_2_code (7 : Nat) (Option.none : Option Jvm.ClassFile.FieldType), Jvm.Cond.code ({ cls := "com/example/keys_in_order/keysinorder/NackBackoff", name := "fixed", desc := "(J)Lcom/example/keys_in_order/keysinorder/NackBackoff;" } : Jvm.MethodName) prog_21_method_2_code (2 : Nat) (Option.some (Jvm.ClassFile.FieldType.object "com/example/keys_in_order/keysinorder/NackBackoff")), Jvm.Cond.code ({ cls := "com/example/keys_in_order/keysinorder/NackBackoff", name := "<init>", desc := "(JJD)V" } : Jvm.MethodName) prog_21_method_1_code (7 : Nat) (Option.none : Option Jvm.ClassFile.FieldType), Jvm.Cond.code ({ cls := "java/lang/Record", name := "<init>", desc := "()V" } : Jvm.MethodName) jdk_30_method_1_code (1 : Nat) (Option.none : Option Jvm.ClassFile.FieldType), Jvm.Cond.code ({ cls := "java/lang/Object", name := "<init>", desc := "()V" } : Jvm.MethodName) object_method_1_code (1 : Nat) (Option.none : Option Jvm.ClassFile.FieldType), Jvm.Cond.code ({ cls := "java/lang/Double", name := "isFinite", desc := "(D)Z" } : Jvm.MethodName) jdk_117_method_8_code (2 : Nat) (Option.some Jvm.ClassFile.FieldType.boolean), Jvm.Cond.code ({ cls := "java/lang/Math", name := "abs", desc := "(D)D" } : Jvm.MethodName) jdk_29_method_64_code (2 : Nat) (Option.some Jvm.ClassFile.FieldType.double), Jvm.Cond.code ({ cls := "com/example/keys_in_order/keysinorder/ConsumerOptions", name := "<init>", desc := "(Ljava/lang/String;Lcom/example/keys_in_order/keysinorder/SubscriptionType;Lcom/example/keys_in_order/keysinorder/InitialPosition;IJLcom/example/keys_in_order/keysinorder/NackBackoff;)V" } : Jvm.MethodName) prog_3_method_1_code (8 : Nat) (Option.none : Option Jvm.ClassFile.FieldType), Jvm.Cond.code ({ cls := "com/example/keys_in_order/keysinorder/Names", name := "require", desc := "(Ljava/lang/String;Ljava/lang/String;)Ljava/lang/String;" } : Jvm.MethodName) prog_24_method_2_code (5 : Nat) (Option.some (Jvm.ClassFile.FieldType.object "java/lang/String")), Jvm.Cond.code ({ cls := "java/lang/String", name := "isEmpty", desc := "()Z" } : Jvm.MethodName) jdk_42_method_55_code (1 : Nat) (Option.some Jvm.ClassFile.FieldType.boolean), Jvm.Cond.code ({ cls := "java/lang/String", name := "length", desc := "()I" } : Jvm.MethodName) jdk_42_method_54_code (1 : Nat) (Option.some Jvm.ClassFile.FieldType.int), Jvm.Cond.code ({ cls := "java/lang/String", name := "coder", desc := "()B" } : Jvm.MethodName) jdk_42_method_152_code (1 : Nat) (Option.some Jvm.ClassFile.FieldType.byte), Jvm.Cond.code ({ cls := "java/lang/String", name := "charAt", desc := "(I)C" } : Jvm.MethodName) jdk_42_method_56_code (2 : Nat) (Option.some Jvm.ClassFile.FieldType.char), Jvm.Cond.code ({ cls := "java/lang/String", name := "isLatin1", desc := "()Z" } : Jvm.MethodName) jdk_42_method_154_code (1 : Nat) (Option.some Jvm.ClassFile.FieldType.boolean), Jvm.Cond.code ({ cls := "java/lang/StringLatin1", name := "charAt", desc := "([BI)C" } : Jvm.MethodName) jdk_43_method_2_code (2 : Nat) (Option.some Jvm.ClassFile.FieldType.char), Jvm.Cond.code ({ cls := "java/lang/String", name := "checkIndex", desc := "(II)V" } : Jvm.MethodName) jdk_42_method_155_code (2 : Nat) (Option.none : Option Jvm.ClassFile.FieldType), Jvm.Cond.code ({ cls := "jdk/internal/util/Preconditions", name := "checkIndex", desc := "(IILjava/util/function/BiFunction;)I" } : Jvm.MethodName) jdk_41_method_11_code (3 : Nat) (Option.some Jvm.ClassFile.FieldType.int), Jvm.Cond.code ({ cls := "java/util/Objects", name := "requireNonNull", desc := "(Ljava/lang/Object;Ljava/lang/String;)Ljava/lang/Object;" } : Jvm.MethodName) jdk_31_method_11_code (2 : Nat) (Option.some (Jvm.ClassFile.FieldType.object "java/lang/Object")), Jvm.Cond.code ({ cls := "com/example/keys_in_order/keysinorder/Consumer", name := "<init>", desc := "(Ljava/lang/String;Lcom/example/keys_in_order/keysinorder/ConsumerOptions;Lcom/example/keys_in_order/keysinorder/Topic;Lcom/example/keys_in_order/keysinorder/Subscription;J)V" } : Jvm.MethodName) prog_2_method_1_code (7 : Nat) (Option.none : Option Jvm.ClassFile.FieldType), Jvm.Cond.code ({ cls := "java/util/TreeSet", name := "<init>", desc := "()V" } : Jvm.MethodName) jdk_2756_method_2_code (1 : Nat) (Option.none : Option Jvm.ClassFile.FieldType), Jvm.Cond.code ({ cls := "java/util/TreeMap", name := "<init>", desc := "()V" } : Jvm.MethodName) jdk_2729_method_1_code (1 : Nat) (Option.none : Option Jvm.ClassFile.FieldType), Jvm.Cond.code ({ cls := "java/util/AbstractMap", name := "<init>", desc := "()V" } : Jvm.MethodName) jdk_71_method_1_code (1 : Nat) (Option.none : Option Jvm.ClassFile.FieldType), Jvm.Cond.code ({ cls := "java/util/TreeSet", name := "<init>", desc := "(Ljava/util/NavigableMap;)V" } : Jvm.MethodName) jdk_2756_method_1_code (2 : Nat) (Option.none : Option Jvm.ClassFile.FieldType), Jvm.Cond.code ({ cls := "java/util/AbstractSet", name := "<init>", desc := "()V" } : Jvm.MethodName) jdk_91_method_1_code (1 : Nat) (Option.none : Option Jvm.ClassFile.FieldType), Jvm.Cond.code ({ cls := "java/util/AbstractCollection", name := "<init>", desc := "()V" } : Jvm.MethodName) jdk_22_method_1_code (1 : Nat) (Option.none : Option Jvm.ClassFile.FieldType), Jvm.Cond.code ({ cls := "com/example/keys_in_order/keysinorder/ConsumerOptions", name := "leaseMs", desc := "()J" } : Jvm.MethodName) prog_3_method_11_code (1 : Nat) (Option.some Jvm.ClassFile.FieldType.long), Jvm.Cond.code ({ cls := "java/util/concurrent/TimeUnit", name := "toNanos", desc := "(J)J" } : Jvm.MethodName) jdk_2799_method_7_code (7 : Nat) (Option.some Jvm.ClassFile.FieldType.long), Jvm.Cond.code ({ cls := "com/example/keys_in_order/keysinorder/DrainingHashes", name := "<init>", desc := "()V" } : Jvm.MethodName) prog_8_method_1_code (1 : Nat) (Option.none : Option Jvm.ClassFile.FieldType), Jvm.Cond.code ({ cls := "com/example/keys_in_order/keysinorder/DrainingHashes", name := "add", desc := "(ILcom/example/keys_in_order/keysinorder/Consumer;J)V" } : Jvm.MethodName) prog_8_method_5_code (6 : Nat) (Option.none : Option Jvm.ClassFile.FieldType), Jvm.Cond.code ({ cls := "com/example/keys_in_order/keysinorder/DrainingHashes", name := "slotOf", desc := "(I)I" } : Jvm.MethodName) prog_8_method_12_code (4 : Nat) (Option.some Jvm.ClassFile.FieldType.int), Jvm.Cond.code ({ cls := "com/example/keys_in_order/keysinorder/DrainingHashes", name := "grow", desc := "()V" } : Jvm.MethodName) prog_8_method_14_code (1 : Nat) (Option.none : Option Jvm.ClassFile.FieldType), Jvm.Cond.code ({ cls := "com/example/keys_in_order/keysinorder/DrainingHashes", name := "allocate", desc := "(I)V" } : Jvm.MethodName) prog_8_method_16_code (2 : Nat) (Option.none : Option Jvm.ClassFile.FieldType), Jvm.Cond.code ({ cls := "com/example/keys_in_order/keysinorder/DrainingHashes", name := "place", desc := "(ILcom/example/keys_in_order/keysinorder/Consumer;IJJ)I" } : Jvm.MethodName) prog_8_method_18_code (10 : Nat) (Option.some Jvm.ClassFile.FieldType.int), Jvm.Cond.code ({ cls := "com/example/keys_in_order/keysinorder/DrainingHashes", name := "home", desc := "(I)I" } : Jvm.MethodName) prog_8_method_13_code (2 : Nat) (Option.some Jvm.ClassFile.FieldType.int), Jvm.Cond.code ({ cls := "java/lang/Integer", name := "numberOfLeadingZeros", desc := "(I)I" } : Jvm.MethodName) jdk_33_method_47_code (2 : Nat) (Option.some Jvm.ClassFile.FieldType.int), Jvm.Cond.code ({ cls := "com/example/keys_in_order/keysinorder/DrainingHashes", name := "capacity", desc := "()I" } : Jvm.MethodName) prog_8_method_9_code (1 : Nat) (Option.some Jvm.ClassFile.FieldType.int), Jvm.Cond.code ({ cls := "com/example/keys_in_order/keysinorder/DrainingHashes", name := "remove", desc := "(I)J" } : Jvm.MethodName) prog_8_method_8_code (8 : Nat) (Option.some Jvm.ClassFile.FieldType.long), Jvm.Cond.code ({ cls := "com/example/keys_in_order/keysinorder/DrainingHashes", name := "move", desc := "(II)V" } : Jvm.MethodName) prog_8_method_19_code (3 : Nat) (Option.none : Option Jvm.ClassFile.FieldType), Jvm.Cond.code ({ cls := "com/example/keys_in_order/keysinorder/DrainingHashes", name := "shrink", desc := "()V" } : Jvm.MethodName) prog_8_method_15_code (2 : Nat) (Option.none : Option Jvm.ClassFile.FieldType), Jvm.Cond.code ({ cls := "com/example/keys_in_order/keysinorder/DrainingHashes", name := "resize", desc := "(I)V" } : Jvm.MethodName) prog_8_method_17_code (8 : Nat) (Option.none : Option Jvm.ClassFile.FieldType)]
set_option maxRecDepth 65536 in
theorem codes_eq : words1.filter isCode = codes1 := rfl
theorem w_codes : ∀ c ∈ words1.filter isCode, c.before args0 about1 = true := by
  rw [codes_eq]
  intro c hc
  simp only [codes1, List.mem_cons, List.not_mem_nil, or_false] at hc
  rcases hc with rfl | rfl | rfl | rfl | rfl | rfl | rfl | rfl | rfl | rfl | rfl | rfl | rfl | rfl | rfl | rfl | rfl | rfl | rfl | rfl | rfl | rfl | rfl | rfl | rfl | rfl | rfl | rfl | rfl | rfl | rfl | rfl | rfl | rfl | rfl | rfl | rfl | rfl | rfl | rfl | rfl | rfl
  · exact w_c0
  · exact w_c1
  · exact w_c2
  · exact w_c3
  · exact w_c4
  · exact w_c5
  · exact w_c6
  · exact w_c7
  · exact w_c8
  · exact w_c9
  · exact w_c10
  · exact w_c11
  · exact w_c12
  · exact w_c13
  · exact w_c14
  · exact w_c15
  · exact w_c16
  · exact w_c17
  · exact w_c18
  · exact w_c19
  · exact w_c20
  · exact w_c21
  · exact w_c22
  · exact w_c23
  · exact w_c24
  · exact w_c25
  · exact w_c26
  · exact w_c27
  · exact w_c28
  · exact w_c29
  · exact w_c30
  · exact w_c31
  · exact w_c32
  · exact w_c33
  · exact w_c34
  · exact w_c35
  · exact w_c36
  · exact w_c37
  · exact w_c38
  · exact w_c39
  · exact w_c40
  · exact w_c41
set_option maxRecDepth 65536 in
theorem w_t1 : (words1.take 24).all (fun c => isCode c || c.before args0 about1) = true := by decide +kernel
set_option maxRecDepth 65536 in
theorem w_t2 : ((words1.drop 24).take 24).all (fun c => isCode c || c.before args0 about1) = true := by decide +kernel
set_option maxRecDepth 65536 in
theorem w_t3 : (((words1.drop 24).drop 24).take 24).all (fun c => isCode c || c.before args0 about1) = true := by decide +kernel
set_option maxRecDepth 65536 in
theorem w_t4 : ((((words1.drop 24).drop 24).drop 24).take 24).all (fun c => isCode c || c.before args0 about1) = true := by decide +kernel
set_option maxRecDepth 65536 in
theorem w_t5 : (((((words1.drop 24).drop 24).drop 24).drop 24).take 24).all (fun c => isCode c || c.before args0 about1) = true := by decide +kernel
set_option maxRecDepth 65536 in
theorem w_t6 : ((((((words1.drop 24).drop 24).drop 24).drop 24).drop 24).take 24).all (fun c => isCode c || c.before args0 about1) = true := by decide +kernel
set_option maxRecDepth 65536 in
theorem w_t7 : (((((((words1.drop 24).drop 24).drop 24).drop 24).drop 24).drop 24).take 24).all (fun c => isCode c || c.before args0 about1) = true := by decide +kernel
set_option maxRecDepth 65536 in
theorem w_t8 : ((((((((words1.drop 24).drop 24).drop 24).drop 24).drop 24).drop 24).drop 24).take 24).all (fun c => isCode c || c.before args0 about1) = true := by decide +kernel
set_option maxRecDepth 65536 in
theorem w_t9 : (((((((((words1.drop 24).drop 24).drop 24).drop 24).drop 24).drop 24).drop 24).drop 24).take 24).all (fun c => isCode c || c.before args0 about1) = true := by decide +kernel
set_option maxRecDepth 65536 in
theorem w_t10 : ((((((((((words1.drop 24).drop 24).drop 24).drop 24).drop 24).drop 24).drop 24).drop 24).drop 24).take 24).all (fun c => isCode c || c.before args0 about1) = true := by decide +kernel
set_option maxRecDepth 65536 in
theorem w_t11 : (((((((((((words1.drop 24).drop 24).drop 24).drop 24).drop 24).drop 24).drop 24).drop 24).drop 24).drop 24).take 24).all (fun c => isCode c || c.before args0 about1) = true := by decide +kernel
set_option maxRecDepth 65536 in
theorem w_t12 : ((((((((((((words1.drop 24).drop 24).drop 24).drop 24).drop 24).drop 24).drop 24).drop 24).drop 24).drop 24).drop 24).take 24).all (fun c => isCode c || c.before args0 about1) = true := by decide +kernel
set_option maxRecDepth 65536 in
theorem w_t13 : ((((((((((((words1.drop 24).drop 24).drop 24).drop 24).drop 24).drop 24).drop 24).drop 24).drop 24).drop 24).drop 24).drop 24).all (fun c => isCode c || c.before args0 about1) = true := by decide +kernel
theorem w_tables : (allAtoms (Jvm.Cond.code x code maxLocals ret :: tables_1)).before args0 about1 = true := by
  rw [allAtoms_all]
  show words1.all (fun c => c.before args0 about1) = true
  refine all_split ?_ w_codes
  rw [← List.take_append_drop 24 words1, List.all_append, w_t1, ← List.take_append_drop 24 (words1.drop 24), List.all_append, w_t2, ← List.take_append_drop 24 ((words1.drop 24).drop 24), List.all_append, w_t3, ← List.take_append_drop 24 (((words1.drop 24).drop 24).drop 24), List.all_append, w_t4, ← List.take_append_drop 24 ((((words1.drop 24).drop 24).drop 24).drop 24), List.all_append, w_t5, ← List.take_append_drop 24 (((((words1.drop 24).drop 24).drop 24).drop 24).drop 24), List.all_append, w_t6, ← List.take_append_drop 24 ((((((words1.drop 24).drop 24).drop 24).drop 24).drop 24).drop 24), List.all_append, w_t7, ← List.take_append_drop 24 (((((((words1.drop 24).drop 24).drop 24).drop 24).drop 24).drop 24).drop 24), List.all_append, w_t8, ← List.take_append_drop 24 ((((((((words1.drop 24).drop 24).drop 24).drop 24).drop 24).drop 24).drop 24).drop 24), List.all_append, w_t9, ← List.take_append_drop 24 (((((((((words1.drop 24).drop 24).drop 24).drop 24).drop 24).drop 24).drop 24).drop 24).drop 24), List.all_append, w_t10, ← List.take_append_drop 24 ((((((((((words1.drop 24).drop 24).drop 24).drop 24).drop 24).drop 24).drop 24).drop 24).drop 24).drop 24), List.all_append, w_t11, ← List.take_append_drop 24 (((((((((((words1.drop 24).drop 24).drop 24).drop 24).drop 24).drop 24).drop 24).drop 24).drop 24).drop 24).drop 24), List.all_append, w_t12, w_t13]
  rfl
set_option maxRecDepth 65536 in
theorem w_rest : rest_1_c.before args0 about1 = true := by decide +kernel
set_option maxRecDepth 65536 in
theorem w_case : (Jvm.Cond.and given_1 narrow_1).before args0 about1 = true := by decide +kernel
set_option maxRecDepth 65536 in
theorem w_consts : constsHeld consts_1 about1 := Jvm.Lit.constsHeldB_iff.mp (by decide +kernel)
theorem w_applies : (headSpec (Jvm.Cond.code x code maxLocals ret :: tables_1) room_1).applies x e0.platform about1 = true :=
  (Spec.applies_iff w_frames).mpr ⟨w_running, w_runnable, w_alone, w_named, w_hears, w_ripe, w_room, w_tables⟩
theorem atStart : AtStart classFile x code maxLocals ret World_1 tables_1 room_1 Calls_1 rest_1 Pre_1 launch0 p0 e0 about1 theMethod args0 below0 :=
  ⟨lists_1, trivial, launch0.admits_env _ _ _, launch0.least_env, fairChoices_fair.cas, fairChoices_fair.clock, w_frames, w_args, w_heap, w_applies, ⟨w_consts, trivial⟩, w_rest, w_case⟩
end start1
theorem witness_1 : WitnessClaimed_1 := ⟨start1.p0, start1.e0, start1.about1, start1.theMethod, start1.args0, start1.below0, start1.atStart⟩
end Jvm.Pilot.@@N@@
