import JvmDerived
import JvmDerived.Pilot.@@N@@Statement
import JvmDerived.Pilot.@@N@@Code
set_option linter.unusedVariables false
set_option linter.unusedSimpArgs false
namespace Jvm.RoadKit
open Sem ClassFile Op Lib Jvm.Stand Jvm.Free Jvm.LawKit
section New
variable {p : Program} {l : Launch} {e : Env} {R : Room} {s : State} {m : MethodId} {args : Array Value} {below : List Frame} {meth : Method} {c : Code} {T : State} {locs : List Loc} {cells slots : Nat}
theorem retI (X : Stand p l e R s m args below meth c T locs cells slots) (hx : p.tables.exec = Jvm.exec) {pc : Nat} {Ls : Array Slot} {z : Int32} {rest : List Value} (hret : meth.sig.returnType = some .int) (hd : decode c.code pc = .ok (.ireturn, 1)) {fs : List Frame}
    (hl : ∀ (f : JFrame) (acts : List Action), f.method = m → f.locked = none → f.entered = [] → (doReturn e (T.setTop f) acts (some (.int z))).1 = T.setFrames fs) : Steps p.tables e below (T.setTop (mkF m pc Ls (.int z :: rest))) (T.setFrames fs) := by
  have hm' : T.vm.method? m = some meth := X.method'
  have hn : narrow .int (.int z) = .int z := rfl
  show Steps p.tables e below (T.setTop { method := m, pc := pc, locals := Ls, stack := _ :: rest, locked := none }) _
  jvm_step X.here [X.here.top, hx, hd, hm', hret, hn]
  first | (intro acts; rw [hl _ acts rfl rfl rfl]) | rw [hl _ _ rfl rfl rfl]
  exact Steps.refl _
theorem retL (X : Stand p l e R s m args below meth c T locs cells slots) (hx : p.tables.exec = Jvm.exec) {pc : Nat} {Ls : Array Slot} {z : Int64} {rest : List Value} (hret : meth.sig.returnType = some .long) (hd : decode c.code pc = .ok (.lreturn, 1)) {fs : List Frame}
    (hl : ∀ (f : JFrame) (acts : List Action), f.method = m → f.locked = none → f.entered = [] → (doReturn e (T.setTop f) acts (some (.long z))).1 = T.setFrames fs) : Steps p.tables e below (T.setTop (mkF m pc Ls (.long z :: rest))) (T.setFrames fs) := by
  have hm' : T.vm.method? m = some meth := X.method'
  show Steps p.tables e below (T.setTop { method := m, pc := pc, locals := Ls, stack := _ :: rest, locked := none }) _
  jvm_step X.here [X.here.top, hx, hd, hm', hret, narrow]
  first | (intro acts; rw [hl _ acts rfl rfl rfl]) | rw [hl _ _ rfl rfl rfl]
  exact Steps.refl _
theorem retR (X : Stand p l e R s m args below meth c T locs cells slots) (hx : p.tables.exec = Jvm.exec) {pc : Nat} {Ls : Array Slot} {z : Value} {rest : List Value} {ty : FieldType} (hz : z.isRef = true) (hty : ty.isReference = true) (hret : meth.sig.returnType = some ty) (hd : decode c.code pc = .ok (.areturn, 1)) {fs : List Frame}
    (hl : ∀ (f : JFrame) (acts : List Action), f.method = m → f.locked = none → f.entered = [] → (doReturn e (T.setTop f) acts (some z)).1 = T.setFrames fs) : Steps p.tables e below (T.setTop (mkF m pc Ls (z :: rest))) (T.setFrames fs) := by
  have hm' : T.vm.method? m = some meth := X.method'
  show Steps p.tables e below (T.setTop { method := m, pc := pc, locals := Ls, stack := _ :: rest, locked := none }) _
  jvm_step X.here [X.here.top, hx, hd, hm', hret, hz, hty]
  first | (intro acts; rw [hl _ acts rfl rfl rfl]) | rw [hl _ _ rfl rfl rfl]
  exact Steps.refl _
end New
abbrev lv (x : Int64) : Slot := .val (.long x)
abbrev un : Slot := .unset
abbrev sd : Slot := .second
/-- where the run stands, it comes to an end that G likes -/
def Go (tb : Tables) (e : Env) (below : List Frame) (G : Outcome → State → Prop) (F : State) : Prop := ∃ t o, Steps tb e below F t ∧ t.status = .running ∧ Ended t below o ∧ G o t
theorem Go.stp {tb : Tables} {e : Env} {below : List Frame} {G : Outcome → State → Prop} {F F' : State} (h : ∀ t, Steps tb e below F' t → Steps tb e below F t) (g : Go tb e below G F') : Go tb e below G F := by
  obtain ⟨t, o, h1, r⟩ := g
  exact ⟨t, o, h _ h1, r⟩
end Jvm.RoadKit
namespace Jvm.RoadKit
open Sem ClassFile Op Lib Jvm.Stand Jvm.Free Jvm.LawKit
/-- the array at a has n places of the sort ty; place j holds f j -/
def Ia {α : Type} (Z : State) (h : Heap) (a : Addr) (ty : FieldType) (n : Nat) (mk : α → Value) (f : Nat → α) : Prop := ∃ c : Cell, Arr Z h a c ty ∧ c.slots.size = n ∧ n < 2147483648 ∧ ∀ j, j < n → c.slots[j]? = some (mk (f j))
def upf {α : Type} (f : Nat → α) (i : Nat) (x : α) : Nat → α := fun j => if j = i then x else f j
theorem upf_same {α : Type} (f : Nat → α) (i : Nat) (x : α) : upf f i x i = x := by simp [upf]
theorem upf_ne {α : Type} (f : Nat → α) (i j : Nat) (x : α) (h : j ≠ i) : upf f i x j = f j := by simp [upf, h]
section IaS
variable {α : Type} {Z : State} {h h' : Heap} {a b : Addr} {ty : FieldType} {n sl : Nat} {mk : α → Value} {f : Nat → α} {v : Value} {ws : List Addr}
theorem Ia.lt (F : Ia Z h a ty n mk f) : a < h.size := by obtain ⟨c, A, -⟩ := F; exact A.lt
theorem Ia.ext (F : Ia Z h a ty n mk f) (E : Ext h h') : Ia Z h' a ty n mk f := by obtain ⟨c, A, r⟩ := F; exact ⟨c, A.ext E, r⟩
theorem Ia.other (F : Ia Z h b ty n mk f) (W : Wr h h' a sl v) (q : b ≠ a) : Ia Z h' b ty n mk f := by obtain ⟨c, A, r⟩ := F; exact ⟨c, A.other W q, r⟩
theorem Ia.keep (F : Ia Z h a ty n mk f) (K : Keep h h' ws) (q : a ∉ ws) : Ia Z h' a ty n mk f := by obtain ⟨c, A, r⟩ := F; exact ⟨c, ⟨K.2.1 a c A.1 q, A.2⟩, r⟩
theorem Ia.new {k : ClassId} {z : Int32} {x : α} (A : Arr Z h a (newA k ty z) ty) (hz : z.toNatClampNeg = n) (hn : n < 2147483648) (hx : defaultValue ty = mk x) : Ia Z h a ty n mk (fun _ => x) := by
  refine ⟨_, A, by rw [sz_new, hz], hn, fun j hj => ?_⟩
  simp [newA, hz, hj, hx]
theorem Ia.set {x : α} {j : Int32} {i : Nat} (F : Ia Z h a ty n mk f) (W : Wr h h' a j.toNatClampNeg (mk x)) (hj : j.toNatClampNeg = i) : Ia Z h' a ty n mk (upf f i x) := by
  obtain ⟨c, A, s1, s2, s3⟩ := F
  refine ⟨_, A.same W, by simpa [Cell.setSlot] using s1, s2, fun k hk => ?_⟩
  subst hj
  have q := s3 k hk
  simp only [Cell.setSlot, upf]
  by_cases e : k = j.toNatClampNeg
  · subst e
    rw [Array.getElem?_setIfInBounds_self]
    simp [s1, hk]
  · rw [Array.getElem?_setIfInBounds_ne (by omega), q]
    simp [e]
end IaS
theorem in_of {c : Cell} {n : Nat} {j : Int32} (S : c.slots.size = n) (h : 0 ≤ j.toInt ∧ j.toInt < n) : ¬ (j < 0 ∨ c.slots.size ≤ j.toNatClampNeg) := by
  rw [S, Int32.lt_iff_toInt_lt]
  have e0 : (0 : Int32).toInt = 0 := rfl
  simp only [Int32.toNatClampNeg]
  omega
theorem at_of {n : Nat} {j : Int32} (h : 0 ≤ j.toInt ∧ j.toInt < n) : j.toNatClampNeg < n := by
  simp only [Int32.toNatClampNeg]
  omega
end Jvm.RoadKit
namespace Jvm.Pilot.@@N@@
open Jvm Jvm.ClassFile Sem Op Lib Jvm.Free Jvm.Stand Jvm.LawKit Jvm.RoadKit Bundle Jvm.Pilot.@@N@@.Jvm.D
def own_i : Nat → Int32
  | 0 => 0
  | u + 1 => own_i u + (1 : Int32)
theorem own_iv (u : Nat) (h : u < 1000) : (own_i u).toInt = u := by
  induction u with
  | zero => rfl
  | succ u ih =>
    have q := ih (by omega)
    have a := c_iadd (own_i u) 1
    have r := rng32 (own_i u + 1)
    have e1 : (1 : Int32).toInt = 1 := by decide
    show (own_i u + 1).toInt = _
    omega
theorem own_in (u : Nat) (h : u < 1000) : (own_i u).toNatClampNeg = u := by
  have q := own_iv u h
  simp only [Int32.toNatClampNeg]
  omega
theorem own_nv (u : Nat) (h : u < 1000) : (Nat.toInt32 u).toInt = u := len_toInt (by omega)
theorem own_n32 (u : Nat) (h : u < 1000) : own_i u = Nat.toInt32 u := by
  apply Int32.toInt_inj.mp
  rw [own_iv u h, own_nv u h]
theorem own_lt (u n : Nat) (h : u < n) (hn : n < 1000) : own_i u < Nat.toInt32 n := by
  rw [Int32.lt_iff_toInt_lt, own_iv u (by omega), own_nv n hn]
  omega
theorem own_st {r0 : Addr} {a : Int64} {b : Addr} {c d : Int32} {s6 s7 : Slot} {w : Int64} (h : (s6 = .unset ∧ s7 = .unset) ∨ ∃ z : Int64, s6 = .val (.long z) ∧ s7 = .second) : storeLocals #[rv r0, lv a, sd, rv b, iv c, iv d, s6, s7] 6 (.long w) = some #[rv r0, lv a, sd, rv b, iv c, iv d, lv w, sd] := by
  rcases h with ⟨rfl, rfl⟩ | ⟨z, rfl, rfl⟩ <;> rfl
def own_idx (a s : Int64) : Int64 := (a &&& (9223372036854775807 : Int64)) - ((a &&& (9223372036854775807 : Int64)) / s) * s
def own_wc (s : Int64) : Int32 := (((s + (63 : Int64)).toUInt64 >>> ((6 : Int32) &&& 0x3f).toInt64.toUInt64).toInt64).toInt32
def own_ix (i : Int64) : Int32 := ((i.toUInt64 >>> ((6 : Int32) &&& 0x3f).toInt64.toUInt64).toInt64).toInt32
def own_set (W : Nat → Int64) (i : Int64) : Nat → Int64 := upf W (own_ix i).toNatClampNeg ((W (own_ix i).toNatClampNeg) ||| ((1 : Int64) <<< (i.toInt32 &&& 0x3f).toInt64))
def own_b1 (x : Int64) : Int64 := x - (((x.toUInt64 >>> ((1 : Int32) &&& 0x3f).toInt64.toUInt64).toInt64) &&& (6148914691236517205 : Int64))
def own_b2 (x : Int64) : Int64 := (x &&& (3689348814741910323 : Int64)) + (((x.toUInt64 >>> ((2 : Int32) &&& 0x3f).toInt64.toUInt64).toInt64) &&& (3689348814741910323 : Int64))
def own_b3 (x : Int64) : Int64 := (x + ((x.toUInt64 >>> ((4 : Int32) &&& 0x3f).toInt64.toUInt64).toInt64)) &&& (1085102592571150095 : Int64)
def own_b4 (x : Int64) : Int64 := x + ((x.toUInt64 >>> ((8 : Int32) &&& 0x3f).toInt64.toUInt64).toInt64)
def own_b5 (x : Int64) : Int64 := x + ((x.toUInt64 >>> ((16 : Int32) &&& 0x3f).toInt64.toUInt64).toInt64)
def own_b6 (x : Int64) : Int64 := x + ((x.toUInt64 >>> ((32 : Int32) &&& 0x3f).toInt64.toUInt64).toInt64)
def own_bc (x : Int64) : Int32 := (own_b6 (own_b5 (own_b4 (own_b3 (own_b2 (own_b1 x)))))).toInt32 &&& (127 : Int32)
def own_sum (W : Nat → Int64) : Nat → Int64
  | 0 => 0
  | u + 1 => own_sum W u + (own_bc (W (own_i u).toNatClampNeg)).toInt64
def pcr : Nat → Nat → Nat
  | 0, _ => 0
  | k + 1, n => n % 2 + pcr k (n / 2)
def mk8 (c : Nat) : Nat → Nat
  | 0 => 0
  | k + 1 => c + 256 * mk8 c k
def bm (f : Nat → Nat) : Nat → Nat → Nat
  | 0, _ => 0
  | k + 1, n => f (n % 256) + 256 * bm f k (n / 256)
theorem and_sp (a c M : Nat) (hc : c < 256) : a &&& (c + 256 * M) = ((a % 256) &&& c) + 256 * ((a / 256) &&& M) := by
  have h1 := Nat.and_mod_two_pow (a := a) (b := c + 256 * M) (n := 8)
  have h2 := Nat.and_div_two_pow (a := a) (b := c + 256 * M) (n := 8)
  have e : (2 : Nat) ^ 8 = 256 := by decide
  rw [e] at h1 h2
  have e1 : (c + 256 * M) % 256 = c := by omega
  have e2 : (c + 256 * M) / 256 = M := by omega
  rw [e1] at h1
  rw [e2] at h2
  have q := Nat.mod_add_div (a &&& (c + 256 * M)) 256
  rw [h1, h2] at q
  exact q.symm
def f1 (b : Nat) : Nat := b - ((b / 2) &&& 85)
def f2 (b : Nat) : Nat := (b &&& 51) + ((b / 4) &&& 51)
def f3 (b : Nat) : Nat := (b + b / 16) &&& 15
def pcb (b : Nat) : Nat := b % 2 + (b / 2 % 2 + (b / 4 % 2 + (b / 8 % 2 + (b / 16 % 2 + (b / 32 % 2 + (b / 64 % 2 + b / 128 % 2))))))
theorem tb1 : ∀ b : Fin 256, ∀ p : Fin 2, ((b.1 / 2 + 128 * p.1) &&& 85) = ((b.1 / 2) &&& 85) := by decide +kernel
theorem tb2 : ∀ b : Fin 256, ∀ p : Fin 4, ((b.1 / 4 + 64 * p.1) &&& 51) = ((b.1 / 4) &&& 51) := by decide +kernel
theorem tb3 : ∀ b : Fin 256, ∀ p : Fin 16, ((b.1 + b.1 / 16 + 16 * p.1) &&& 15) = ((b.1 + b.1 / 16) &&& 15) := by decide +kernel
theorem tbs : ∀ b : Fin 256, ((b.1 / 2) &&& 85) ≤ b.1 ∧ f1 b.1 < 256 ∧ f2 (f1 b.1) < 256 ∧ f2 (f1 b.1) % 16 ≤ 4 ∧ f2 (f1 b.1) / 16 ≤ 4 ∧ f3 (f2 (f1 b.1)) = pcb b.1 ∧ pcb b.1 ≤ 8 := by decide +kernel
theorem tf2 : ∀ b : Fin 256, f2 b.1 < 256 := by decide +kernel
theorem st1 (k : Nat) : ∀ n, (n / 2 &&& mk8 85 k) ≤ n ∧ (n < 256 ^ k → n - (n / 2 &&& mk8 85 k) = bm f1 k n) := by
  induction k with
  | zero => intro n; exact ⟨by simp [mk8], fun h => by simp [mk8, bm] at h ⊢; omega⟩
  | succ k ih =>
    intro n
    have hs := and_sp (n / 2) 85 (mk8 85 k) (by decide)
    have d1 : n / 2 / 256 = n / 256 / 2 := by omega
    have d2 : n / 2 % 256 = (n % 256) / 2 + 128 * (n / 256 % 2) := by omega
    have t1 := tb1 ⟨n % 256, by omega⟩ ⟨n / 256 % 2, by omega⟩
    simp only at t1
    rw [d1, d2, t1] at hs
    have ts := (tbs ⟨n % 256, by omega⟩).1
    simp only at ts
    obtain ⟨i1, i2⟩ := ih (n / 256)
    show (n / 2 &&& (85 + 256 * mk8 85 k)) ≤ n ∧ _
    refine ⟨by rw [hs]; omega, fun h => ?_⟩
    have i3 := i2 (by rw [Nat.pow_succ] at h; omega)
    show n - (n / 2 &&& (85 + 256 * mk8 85 k)) = f1 (n % 256) + 256 * bm f1 k (n / 256)
    rw [hs, ← i3]
    unfold f1
    omega
theorem st2 (k : Nat) : ∀ n, n < 256 ^ k → (n &&& mk8 51 k) + (n / 4 &&& mk8 51 k) = bm f2 k n := by
  induction k with
  | zero => intro n h; simp [mk8, bm]
  | succ k ih =>
    intro n h
    have hs := and_sp n 51 (mk8 51 k) (by decide)
    have hs2 := and_sp (n / 4) 51 (mk8 51 k) (by decide)
    have d1 : n / 4 / 256 = n / 256 / 4 := by omega
    have d2 : n / 4 % 256 = (n % 256) / 4 + 64 * (n / 256 % 4) := by omega
    have t1 := tb2 ⟨n % 256, by omega⟩ ⟨n / 256 % 4, by omega⟩
    simp only at t1
    rw [d1, d2, t1] at hs2
    have i3 := ih (n / 256) (by rw [Nat.pow_succ] at h; omega)
    show (n &&& (51 + 256 * mk8 51 k)) + (n / 4 &&& (51 + 256 * mk8 51 k)) = f2 (n % 256) + 256 * bm f2 k (n / 256)
    rw [hs, hs2, ← i3]
    unfold f2
    omega
def okn : Nat → Nat → Prop
  | 0, n => n = 0
  | k + 1, n => n % 256 % 16 ≤ 4 ∧ n % 256 / 16 ≤ 4 ∧ okn k (n / 256)
theorem st3 (k : Nat) : ∀ n, okn k n → (n + n / 16 &&& mk8 15 k) = bm f3 k n := by
  induction k with
  | zero => intro n h; simp [mk8, bm]
  | succ k ih =>
    intro n h
    obtain ⟨h1, h2, h3⟩ := h
    have h4 : n / 256 % 16 ≤ 4 := by
      cases k with
      | zero => have : n / 256 = 0 := h3; omega
      | succ k => have := h3.1; omega
    have hs := and_sp (n + n / 16) 15 (mk8 15 k) (by decide)
    have d1 : (n + n / 16) / 256 = n / 256 + n / 256 / 16 := by omega
    have d2 : (n + n / 16) % 256 = (n % 256) + (n % 256) / 16 + 16 * (n / 256 % 16) := by omega
    have t1 := tb3 ⟨n % 256, by omega⟩ ⟨n / 256 % 16, by omega⟩
    simp only at t1
    rw [d1, d2, t1] at hs
    have i3 := ih (n / 256) h3
    show (n + n / 16 &&& (15 + 256 * mk8 15 k)) = f3 (n % 256) + 256 * bm f3 k (n / 256)
    rw [hs, ← i3]
    rfl
theorem bm_lt (f : Nat → Nat) (hf : ∀ b, b < 256 → f b < 256) (k : Nat) : ∀ n, bm f k n < 256 ^ k := by
  induction k with
  | zero => intro n; simp [bm]
  | succ k ih =>
    intro n
    have a := hf (n % 256) (by omega)
    have b := ih (n / 256)
    show f (n % 256) + 256 * bm f k (n / 256) < _
    rw [Nat.pow_succ]
    omega
theorem bm_bm (f g : Nat → Nat) (hf : ∀ b, b < 256 → f b < 256) (k : Nat) : ∀ n, bm g k (bm f k n) = bm (fun b => g (f b)) k n := by
  induction k with
  | zero => intro n; rfl
  | succ k ih =>
    intro n
    have a := hf (n % 256) (by omega)
    show g ((f (n % 256) + 256 * bm f k (n / 256)) % 256) + 256 * bm g k ((f (n % 256) + 256 * bm f k (n / 256)) / 256) = g (f (n % 256)) + 256 * bm (fun b => g (f b)) k (n / 256)
    rw [show (f (n % 256) + 256 * bm f k (n / 256)) % 256 = f (n % 256) by omega, show (f (n % 256) + 256 * bm f k (n / 256)) / 256 = bm f k (n / 256) by omega, ih]
theorem ok_bm (f : Nat → Nat) (hf : ∀ b, b < 256 → f b < 256 ∧ f b % 16 ≤ 4 ∧ f b / 16 ≤ 4) (k : Nat) : ∀ n, okn k (bm f k n) := by
  induction k with
  | zero => intro n; rfl
  | succ k ih =>
    intro n
    obtain ⟨a, b, c⟩ := hf (n % 256) (by omega)
    have e1 : bm f (k + 1) n % 256 = f (n % 256) := by show (f (n % 256) + 256 * bm f k (n / 256)) % 256 = _; omega
    have e2 : bm f (k + 1) n / 256 = bm f k (n / 256) := by show (f (n % 256) + 256 * bm f k (n / 256)) / 256 = _; omega
    refine ⟨by rw [e1]; exact b, by rw [e1]; exact c, by rw [e2]; exact ih _⟩
theorem bm_cong (f g : Nat → Nat) (h : ∀ b, b < 256 → f b = g b) (k : Nat) : ∀ n, bm f k n = bm g k n := by
  induction k with
  | zero => intro n; rfl
  | succ k ih => intro n; show f (n % 256) + 256 * bm f k (n / 256) = g (n % 256) + 256 * bm g k (n / 256); rw [h _ (by omega), ih]
theorem stages (n : Nat) (h : n < 256 ^ 8) :
    bm f2 8 (bm f1 8 n) < 256 ^ 8 ∧ bm f3 8 (bm f2 8 (bm f1 8 n)) = bm pcb 8 n ∧ okn 8 (bm f2 8 (bm f1 8 n)) := by
  have hf1 : ∀ b, b < 256 → f1 b < 256 := fun b hb => (tbs ⟨b, hb⟩).2.1
  have hf2 : ∀ b, b < 256 → f2 b < 256 := fun b hb => tf2 ⟨b, hb⟩
  refine ⟨bm_lt f2 hf2 8 _, ?_, ?_⟩
  · rw [bm_bm f1 f2 hf1, bm_bm (fun b => f2 (f1 b)) f3 (fun b hb => (tbs ⟨b, hb⟩).2.2.1)]
    exact bm_cong _ _ (fun b hb => (tbs ⟨b, hb⟩).2.2.2.2.2.1) 8 n
  · rw [bm_bm f1 f2 hf1]
    exact ok_bm _ (fun b hb => ⟨(tbs ⟨b, hb⟩).2.2.1, (tbs ⟨b, hb⟩).2.2.2.1, (tbs ⟨b, hb⟩).2.2.2.2.1⟩) 8 n
theorem pcr8 (j n : Nat) : pcr (j + 8) n = pcb (n % 256) + pcr j (n / 256) := by
  rw [show j + 8 = j + 1 + 1 + 1 + 1 + 1 + 1 + 1 + 1 from rfl]
  simp only [pcr]
  rw [show n / 2 / 2 / 2 / 2 / 2 / 2 / 2 / 2 = n / 256 by omega]
  unfold pcb
  omega
def bsum (f : Nat → Nat) : Nat → Nat → Nat
  | 0, _ => 0
  | k + 1, n => f (n % 256) + bsum f k (n / 256)
theorem pcr_bsum (k : Nat) : ∀ n, pcr (8 * k) n = bsum pcb k n := by
  induction k with
  | zero => intro n; rfl
  | succ k ih => intro n; rw [show 8 * (k + 1) = 8 * k + 8 by omega, pcr8, ih]; rfl
theorem dv (a R k : Nat) (h : a < k) : (a + k * R) / k = R := by
  rw [Nat.add_mul_div_left _ _ (by omega), Nat.div_eq_of_lt h, Nat.zero_add]
theorem fold_b (a0 a1 a2 a3 a4 a5 a6 a7 z w1 w2 w3 : Nat) (h0 : a0 ≤ 8) (h1 : a1 ≤ 8) (h2 : a2 ≤ 8) (h3 : a3 ≤ 8) (h4 : a4 ≤ 8) (h5 : a5 ≤ 8) (h6 : a6 ≤ 8) (h7 : a7 ≤ 8)
    (hz : z = a0 + 256 * (a1 + 256 * (a2 + 256 * (a3 + 256 * (a4 + 256 * (a5 + 256 * (a6 + 256 * a7)))))))
    (k1 : w1 = z + z / 256) (k2 : w2 = w1 + w1 / 65536) (k3 : w3 = w2 + w2 / 4294967296) :
    w3 < 18446744073709551616 ∧ w3 % 128 = a0 + (a1 + (a2 + (a3 + (a4 + (a5 + (a6 + (a7 + 0))))))) ∧ w1 < 18446744073709551616 ∧ w2 < 18446744073709551616 ∧ z < 18446744073709551616 := by
  have e1 : z / 256 = a1 + 256 * (a2 + 256 * (a3 + 256 * (a4 + 256 * (a5 + 256 * (a6 + 256 * a7))))) := by rw [hz]; exact dv _ _ _ (by clear hz k1 k2 k3; omega)
  rw [e1] at k1
  have f1 : w1 = ((a0 + a1) + 256 * (a1 + a2)) + 65536 * ((a2 + a3) + 256 * ((a3 + a4) + 256 * ((a4 + a5) + 256 * ((a5 + a6) + 256 * ((a6 + a7) + 256 * a7))))) := by rw [k1, hz]; clear hz k1 k2 k3 e1; omega
  have e2 : w1 / 65536 = (a2 + a3) + 256 * ((a3 + a4) + 256 * ((a4 + a5) + 256 * ((a5 + a6) + 256 * ((a6 + a7) + 256 * a7)))) := by rw [f1]; exact dv _ _ _ (by clear hz k1 k2 k3 e1 f1; omega)
  rw [e2] at k2
  have f2 : w2 = ((a0 + a1 + a2 + a3) + 256 * (a1 + a2 + a3 + a4) + 65536 * (a2 + a3 + a4 + a5) + 16777216 * (a3 + a4 + a5 + a6)) + 4294967296 * ((a4 + a5 + a6 + a7) + 256 * ((a5 + a6 + a7) + 256 * ((a6 + a7) + 256 * a7))) := by rw [k2, f1]; clear hz k1 k2 k3 e1 f1 e2; omega
  have e3 : w2 / 4294967296 = (a4 + a5 + a6 + a7) + 256 * ((a5 + a6 + a7) + 256 * ((a6 + a7) + 256 * a7)) := by rw [f2]; exact dv _ _ _ (by clear hz k1 k2 k3 e1 f1 e2 f2; omega)
  rw [e3] at k3
  have f3 : w3 = (a0 + a1 + a2 + a3 + a4 + a5 + a6 + a7) + 128 * (2 * (a1 + a2 + a3 + a4 + a5 + a6 + a7) + 512 * (a2 + a3 + a4 + a5 + a6 + a7) + 131072 * (a3 + a4 + a5 + a6 + a7) + 33554432 * (a4 + a5 + a6 + a7) + 8589934592 * (a5 + a6 + a7) + 2199023255552 * (a6 + a7) + 562949953421312 * a7) := by rw [k3, f2]; clear hz k1 k2 k3 e1 f1 e2 f2 e3; omega
  clear k1 k2 k3 e1 e2 e3
  refine ⟨by rw [f3]; clear f1 f2 f3 hz; omega, ?_, by rw [f1]; clear f1 f2 f3 hz; omega, by rw [f2]; clear f1 f2 f3 hz; omega, by rw [hz]; clear f1 f2 f3 hz; omega⟩
  rw [f3, Nat.add_mul_mod_self_left, Nat.mod_eq_of_lt (by clear f1 f2 f3 hz; omega)]
  clear f1 f2 f3 hz
  omega
theorem fold_a (a0 a1 a2 a3 a4 a5 a6 a7 z : Nat) (h0 : a0 ≤ 8) (h1 : a1 ≤ 8) (h2 : a2 ≤ 8) (h3 : a3 ≤ 8) (h4 : a4 ≤ 8) (h5 : a5 ≤ 8) (h6 : a6 ≤ 8) (h7 : a7 ≤ 8)
    (hz : z = a0 + 256 * (a1 + 256 * (a2 + 256 * (a3 + 256 * (a4 + 256 * (a5 + 256 * (a6 + 256 * a7))))))) :
    let w1 := z + z / 256; let w2 := w1 + w1 / 65536; let w3 := w2 + w2 / 4294967296
    w3 < 18446744073709551616 ∧ w3 % 128 = a0 + (a1 + (a2 + (a3 + (a4 + (a5 + (a6 + (a7 + 0))))))) ∧ w1 < 18446744073709551616 ∧ w2 < 18446744073709551616 ∧ z < 18446744073709551616 :=
  fold_b a0 a1 a2 a3 a4 a5 a6 a7 z _ _ _ h0 h1 h2 h3 h4 h5 h6 h7 hz rfl rfl rfl
theorem fold_sum (n z : Nat) (hz : z = bm pcb 8 n) : let w1 := z + z / 256; let w2 := w1 + w1 / 65536; let w3 := w2 + w2 / 4294967296
    w3 < 18446744073709551616 ∧ w3 % 128 = pcr 64 n ∧ w1 < 18446744073709551616 ∧ w2 < 18446744073709551616 ∧ z < 18446744073709551616 := by
  have hb : ∀ b, b < 256 → pcb b ≤ 8 := fun b hb => (tbs ⟨b, hb⟩).2.2.2.2.2.2
  have hp : pcr 64 n = bsum pcb 8 n := pcr_bsum 8 n
  rw [hp]
  have e8 : bsum pcb 8 n = pcb (n % 256) + (pcb (n / 256 % 256) + (pcb (n / 256 / 256 % 256) + (pcb (n / 256 / 256 / 256 % 256) + (pcb (n / 256 / 256 / 256 / 256 % 256) + (pcb (n / 256 / 256 / 256 / 256 / 256 % 256) + (pcb (n / 256 / 256 / 256 / 256 / 256 / 256 % 256) + (pcb (n / 256 / 256 / 256 / 256 / 256 / 256 / 256 % 256) + 0))))))) := by simp only [bsum]
  rw [e8]
  exact fold_a _ _ _ _ _ _ _ _ z (hb _ (by omega)) (hb _ (by omega)) (hb _ (by omega)) (hb _ (by omega)) (hb _ (by omega)) (hb _ (by omega)) (hb _ (by omega)) (hb _ (by omega)) (by rw [hz]; simp only [bm, Nat.mul_zero, Nat.add_zero])
def nb (x : Int64) : Nat := x.toBitVec.toNat
theorem nb_lt (x : Int64) : nb x < 18446744073709551616 := x.toBitVec.isLt
theorem nb_add (a b : Int64) : nb (a + b) = (nb a + nb b) % 18446744073709551616 := by
  unfold nb
  rw [Int64.toBitVec_add, BitVec.toNat_add]
theorem nb_sub (a b : Int64) : nb (a - b) = (18446744073709551616 - nb b + nb a) % 18446744073709551616 := by
  unfold nb
  rw [Int64.toBitVec_sub, BitVec.toNat_sub]
theorem nb_and (a b : Int64) : nb (a &&& b) = nb a &&& nb b := by
  unfold nb
  rw [Int64.toBitVec_and, BitVec.toNat_and]
theorem nb_or (a b : Int64) : nb (a ||| b) = nb a ||| nb b := by
  unfold nb
  rw [Int64.toBitVec_or, BitVec.toNat_or]
theorem nb_int (x : Int64) : (x.toInt - nb x) % 18446744073709551616 = 0 := by
  unfold nb
  rw [show x.toInt = x.toBitVec.toInt from rfl, BitVec.toInt_eq_toNat_cond]
  split <;> omega
theorem nb_sh (x : Int64) (q : Int32) (k : Nat) (hk : ((q &&& 0x3f).toInt64.toUInt64).toNat = k) (h : k < 64) : nb ((x.toUInt64 >>> (q &&& 0x3f).toInt64.toUInt64).toInt64) = nb x / 2 ^ k := by
  show (x.toUInt64 >>> (q &&& 0x3f).toInt64.toUInt64).toNat = _
  rw [UInt64.toNat_shiftRight, hk, Nat.mod_eq_of_lt h, Nat.shiftRight_eq_div_pow]
  rfl
theorem okn_lt (k : Nat) : ∀ n, okn (k + 1) n → n < 69 * 256 ^ k := by
  induction k with
  | zero => intro n h; obtain ⟨h1, h2, h3⟩ := h; have : n / 256 = 0 := h3; omega
  | succ k ih =>
    intro n h
    obtain ⟨h1, h2, h3⟩ := h
    have q := ih (n / 256) h3
    rw [Nat.pow_succ]
    generalize 256 ^ k = m at *
    omega
theorem own_bcv (x : Int64) : (own_bc x).toInt = pcr 64 (nb x) := by
  have hx := nb_lt x
  have e8 : (256 : Nat) ^ 8 = 18446744073709551616 := by decide
  have hx8 : nb x < 256 ^ 8 := by rw [e8]; exact hx
  have s1 := st1 8 (nb x)
  have y1 : nb (own_b1 x) = bm f1 8 (nb x) := by
    unfold own_b1
    rw [nb_sub, nb_and, nb_sh x 1 1 (by decide) (by decide), show nb (6148914691236517205 : Int64) = mk8 85 8 by decide, show (2 : Nat) ^ 1 = 2 by decide, ← s1.2 hx8]
    have := s1.1
    generalize (nb x / 2 &&& mk8 85 8) = v at *
    omega
  have b1 : bm f1 8 (nb x) < 256 ^ 8 := bm_lt f1 (fun b hb => (tbs ⟨b, hb⟩).2.1) 8 _
  obtain ⟨b2, b3, b4⟩ := stages (nb x) hx8
  have s2 := st2 8 _ b1
  have y2 : nb (own_b2 (own_b1 x)) = bm f2 8 (bm f1 8 (nb x)) := by
    unfold own_b2
    rw [nb_add, nb_and, nb_and, nb_sh _ 2 2 (by decide) (by decide), y1, show nb (3689348814741910323 : Int64) = mk8 51 8 by decide, show (2 : Nat) ^ 2 = 4 by decide, s2]
    rw [e8] at b2
    exact Nat.mod_eq_of_lt b2
  have s3 := st3 8 _ b4
  have l3 := okn_lt 7 _ b4
  have y3 : nb (own_b3 (own_b2 (own_b1 x))) = bm pcb 8 (nb x) := by
    unfold own_b3
    rw [nb_and, nb_add, nb_sh _ 4 4 (by decide) (by decide), y2, show nb (1085102592571150095 : Int64) = mk8 15 8 by decide, show (2 : Nat) ^ 4 = 16 by decide, Nat.mod_eq_of_lt, s3, b3]
    have e7 : (256 : Nat) ^ 7 = 72057594037927936 := by decide
    rw [e7] at l3
    clear s1 s2 s3 hx hx8
    omega
  obtain ⟨g1, g2, g3, g4, g5⟩ := fold_sum (nb x) _ rfl
  have y4 : nb (own_b4 (own_b3 (own_b2 (own_b1 x)))) = bm pcb 8 (nb x) + bm pcb 8 (nb x) / 256 := by
    unfold own_b4
    rw [nb_add, nb_sh _ 8 8 (by decide) (by decide), y3, show (2 : Nat) ^ 8 = 256 by decide]
    exact Nat.mod_eq_of_lt g3
  generalize hz : bm pcb 8 (nb x) = z at *
  have y5 : nb (own_b5 (own_b4 (own_b3 (own_b2 (own_b1 x))))) = (z + z / 256) + (z + z / 256) / 65536 := by
    unfold own_b5
    rw [nb_add, nb_sh _ 16 16 (by decide) (by decide), y4, show (2 : Nat) ^ 16 = 65536 by decide]
    exact Nat.mod_eq_of_lt g4
  have y6 : nb (own_b6 (own_b5 (own_b4 (own_b3 (own_b2 (own_b1 x)))))) = ((z + z / 256) + (z + z / 256) / 65536) + ((z + z / 256) + (z + z / 256) / 65536) / 4294967296 := by
    unfold own_b6
    rw [nb_add, nb_sh _ 32 32 (by decide) (by decide), y5, show (2 : Nat) ^ 32 = 4294967296 by decide]
    exact Nat.mod_eq_of_lt g1
  unfold own_bc
  have m := c_mask (own_b6 (own_b5 (own_b4 (own_b3 (own_b2 (own_b1 x)))))).toInt32 127 7 (by decide) (by decide)
  have l := c_l2i (own_b6 (own_b5 (own_b4 (own_b3 (own_b2 (own_b1 x))))))
  have ni := nb_int (own_b6 (own_b5 (own_b4 (own_b3 (own_b2 (own_b1 x))))))
  rw [y6] at ni
  rw [m, ← g2]
  generalize ((z + z / 256) + (z + z / 256) / 65536) + ((z + z / 256) + (z + z / 256) / 65536) / 4294967296 = w at *
  generalize own_b6 (own_b5 (own_b4 (own_b3 (own_b2 (own_b1 x))))) = X at *
  clear s1 s2 s3 l3 y1 y2 y3 y4 y5 y6 g1 g3 g4 g5 m b1 b2 b3 b4 hx hx8 g2 e8 hz
  omega
theorem pcr_le (k : Nat) : ∀ n, pcr k n ≤ k := by
  induction k with
  | zero => intro n; exact Nat.le_refl _
  | succ k ih => intro n; have := ih (n / 2); show n % 2 + pcr k (n / 2) ≤ _; omega
theorem pcr_or (k : Nat) : ∀ n i, i < k → pcr k (n ||| 2 ^ i) = pcr k n + (if n.testBit i then 0 else 1) := by
  induction k with
  | zero => intro n i h; omega
  | succ k ih =>
    intro n i h
    show (n ||| 2 ^ i) % 2 + pcr k ((n ||| 2 ^ i) / 2) = n % 2 + pcr k (n / 2) + _
    have hd : (n ||| 2 ^ i) / 2 = (n / 2) ||| (2 ^ i / 2) := by
      have := Nat.or_div_two_pow (a := n) (b := 2 ^ i) (n := 1)
      simpa using this
    have hm : (n ||| 2 ^ i) % 2 = (n % 2) ||| (2 ^ i % 2) := by
      have := Nat.or_mod_two_pow (a := n) (b := 2 ^ i) (n := 1)
      simpa using this
    rw [hd, hm]
    cases i with
    | zero =>
      have t : n.testBit 0 = decide (n % 2 = 1) := Nat.testBit_zero n
      rw [t, show (2 : Nat) ^ 0 / 2 = 0 by decide, Nat.or_zero, show (2 : Nat) ^ 0 % 2 = 1 by decide]
      rcases (by omega : n % 2 = 0 ∨ n % 2 = 1) with e | e <;> rw [e] <;> simp <;> omega
    | succ i =>
      rw [show 2 ^ (i + 1) / 2 = 2 ^ i by rw [Nat.pow_succ]; omega, show 2 ^ (i + 1) % 2 = 0 by rw [Nat.pow_succ]; omega, Nat.or_zero, ih (n / 2) i (by omega), Nat.testBit_succ]
      omega
def tot (W : Nat → Int64) : Nat → Nat
  | 0 => 0
  | u + 1 => tot W u + pcr 64 (nb (W u))
theorem tot_le (W : Nat → Int64) (u : Nat) : tot W u ≤ 64 * u := by
  induction u with
  | zero => exact Nat.le_refl _
  | succ u ih => have := pcr_le 64 (nb (W u)); show tot W u + pcr 64 (nb (W u)) ≤ _; omega
theorem own_sumv (W : Nat → Int64) (u : Nat) (h : u ≤ 5) : (own_sum W u).toInt = tot W u := by
  induction u with
  | zero => rfl
  | succ u ih =>
    have q := ih (by omega)
    have a := c_ladd (own_sum W u) (own_bc (W (own_i u).toNatClampNeg)).toInt64
    rw [c_i2l, own_bcv, own_in u (by omega)] at a
    have r := rng64 (own_sum W u + (own_bc (W (own_i u).toNatClampNeg)).toInt64)
    have t1 := tot_le W u
    have t2 := pcr_le 64 (nb (W u))
    rw [own_in u (by omega)] at r
    show (own_sum W u + (own_bc (W (own_i u).toNatClampNeg)).toInt64).toInt = ((tot W u + pcr 64 (nb (W u)) : Nat) : Int)
    rw [own_in u (by omega)]
    omega
def bt (W : Nat → Int64) (j : Nat) : Bool := (nb (W (j / 64))).testBit (j % 64)
def ixn (i : Int64) : Nat := i.toInt.toNat
def Okx (i : Int64) (n : Nat) : Prop := 0 ≤ i.toInt ∧ i.toInt < 64 * (n : Int)
theorem own_ixv (i : Int64) (h0 : 0 ≤ i.toInt) (h1 : i.toInt < 137438952896) : (own_ix i).toInt = i.toInt / 64 := by
  unfold own_ix
  have a := c_lushr i 6 6 (by decide) (by decide)
  have b := c_l2i ((i.toUInt64 >>> ((6 : Int32) &&& 0x3f).toInt64.toUInt64).toInt64)
  have r := rng32 (((i.toUInt64 >>> ((6 : Int32) &&& 0x3f).toInt64.toUInt64).toInt64).toInt32)
  have e : ((2 ^ 6 : Nat) : Int) = 64 := by decide
  rw [e] at a
  omega
theorem own_wcv (s : Int64) (h0 : 0 ≤ s.toInt) (h1 : s.toInt ≤ 137438952896) : (own_wc s).toInt = (s.toInt + 63) / 64 := by
  unfold own_wc
  have q := c_ladd s 63
  have rq := rng64 (s + 63)
  have e63 : (63 : Int64).toInt = 63 := by decide
  have a := c_lushr (s + 63) 6 6 (by decide) (by decide)
  have b := c_l2i (((s + 63).toUInt64 >>> ((6 : Int32) &&& 0x3f).toInt64.toUInt64).toInt64)
  have r := rng32 ((((s + 63).toUInt64 >>> ((6 : Int32) &&& 0x3f).toInt64.toUInt64).toInt64).toInt32)
  have e : ((2 ^ 6 : Nat) : Int) = 64 := by decide
  rw [e] at a
  omega
theorem own_szb (q0 : Int64) : ¬ ((q0 &&& (2147483647 : Int64)) - ((q0 &&& (2147483647 : Int64)) / (300 : Int64)) * (300 : Int64)) < (0 : Int64) ∧ ¬ (137438952896 : Int64) < ((q0 &&& (2147483647 : Int64)) - ((q0 &&& (2147483647 : Int64)) / (300 : Int64)) * (300 : Int64)) ∧ ¬ own_wc ((q0 &&& (2147483647 : Int64)) - ((q0 &&& (2147483647 : Int64)) / (300 : Int64)) * (300 : Int64)) < 0 ∧ (own_wc ((q0 &&& (2147483647 : Int64)) - ((q0 &&& (2147483647 : Int64)) / (300 : Int64)) * (300 : Int64))).toNatClampNeg ≤ 5 := by
  have m := c_maskL q0 2147483647 31 (by decide) (by decide)
  have d := (c_lrem (q0 &&& (2147483647 : Int64)) 300 300 (by decide)).1 (by omega)
  have v := own_wcv ((q0 &&& (2147483647 : Int64)) - ((q0 &&& (2147483647 : Int64)) / (300 : Int64)) * (300 : Int64)) (by omega) (by omega)
  generalize ((q0 &&& (2147483647 : Int64)) - ((q0 &&& (2147483647 : Int64)) / (300 : Int64)) * (300 : Int64)) = s at *
  have e0 : (0 : Int64).toInt = 0 := by decide
  have e1 : (137438952896 : Int64).toInt = 137438952896 := by decide
  have e2 : (0 : Int32).toInt = 0 := by decide
  simp only [Int64.lt_iff_toInt_lt, Int32.lt_iff_toInt_lt, Int32.toNatClampNeg]
  omega
theorem own_nz (s : Int64) (h : (0 : Int64) < s) : s ≠ (0 : Int64) := fun q => by
  rw [q] at h
  exact absurd h (by decide)
theorem own_ixb (a s : Int64) (hs : ¬ s < (0 : Int64) ∧ ¬ (137438952896 : Int64) < s ∧ ¬ own_wc s < 0 ∧ (own_wc s).toNatClampNeg ≤ 5) (hp : (0 : Int64) < s) : ¬ own_idx a s < (0 : Int64) ∧ own_idx a s < s ∧ (0 ≤ (own_ix (own_idx a s)).toInt ∧ (own_ix (own_idx a s)).toInt < (((own_wc s).toNatClampNeg : Nat) : Int)) ∧ Okx (own_idx a s) (own_wc s).toNatClampNeg := by
  have m := c_maskL a 9223372036854775807 63 (by decide) (by decide)
  have e0 : (0 : Int64).toInt = 0 := by decide
  have e1 : (137438952896 : Int64).toInt = 137438952896 := by decide
  obtain ⟨h1, h2, h3, h4⟩ := hs
  rw [Int64.lt_iff_toInt_lt] at h1 h2 hp
  have d := (c_lrem (a &&& (9223372036854775807 : Int64)) s s.toInt rfl).1 (by omega)
  have d1 := Int.emod_nonneg (a &&& (9223372036854775807 : Int64)).toInt (show s.toInt ≠ 0 by omega)
  have d2 := Int.emod_lt_of_pos (a &&& (9223372036854775807 : Int64)).toInt (show 0 < s.toInt by omega)
  rw [← d] at d1 d2
  change 0 ≤ (own_idx a s).toInt at d1
  change (own_idx a s).toInt < s.toInt at d2
  have w := own_wcv s (by omega) (by omega)
  have x := own_ixv (own_idx a s) d1 (by omega)
  unfold Okx
  simp only [Int64.lt_iff_toInt_lt, Int32.toNatClampNeg]
  omega
theorem own_k (i : Int64) (n : Nat) (h : Okx i n) (hn : n ≤ 5) : (own_ix i).toNatClampNeg = ixn i / 64 ∧ nb ((1 : Int64) <<< (i.toInt32 &&& 0x3f).toInt64) = 2 ^ (ixn i % 64) := by
  obtain ⟨h0, h1⟩ := h
  have x := own_ixv i h0 (by omega)
  have l := c_l2i i
  have r := rng32 i.toInt32
  have lq : i.toInt32.toInt = i.toInt := by omega
  have bq : i.toInt32.toBitVec.toNat % 64 = ixn i % 64 := by
    have t : i.toInt32.toInt = i.toInt32.toBitVec.toInt := rfl
    rw [lq, BitVec.toInt_eq_toNat_cond] at t
    unfold ixn
    split at t <;> omega
  have s := c_lshl 1 i.toInt32 (ixn i % 64) bq
  refine ⟨by unfold ixn; simp only [Int32.toNatClampNeg]; omega, ?_⟩
  have ni := nb_int ((1 : Int64) <<< (i.toInt32 &&& 0x3f).toInt64)
  have nl := nb_lt ((1 : Int64) <<< (i.toInt32 &&& 0x3f).toInt64)
  have e1 : (1 : Int64).toInt = 1 := by decide
  rw [e1, Int.one_mul] at s
  have p : (2 : Nat) ^ (ixn i % 64) < 18446744073709551616 := by
    have := Nat.pow_lt_pow_right (a := 2) (by decide) (show ixn i % 64 < 64 by omega)
    simpa using this
  generalize (2 : Nat) ^ (ixn i % 64) = P at *
  omega
theorem set_bt (W : Nat → Int64) (i : Int64) (n : Nat) (h : Okx i n) (hn : n ≤ 5) (j : Nat) : bt (own_set W i) j = (bt W j || decide (j = ixn i)) := by
  obtain ⟨k1, k2⟩ := own_k i n h hn
  unfold bt own_set
  rw [k1]
  by_cases e : j / 64 = ixn i / 64
  · rw [e, upf_same, nb_or, k2, Nat.testBit_or, Nat.testBit_two_pow]
    congr 1
    by_cases q : j = ixn i
    · simp [q]
    · have : ¬ (ixn i % 64 = j % 64) := by omega
      simp [q, this]
  · rw [upf_ne _ _ _ _ e]
    have q : ¬ j = ixn i := fun q => e (by rw [q])
    simp [q]
theorem tot_upf (W : Nat → Int64) (K : Nat) (v : Int64) (n : Nat) : tot (upf W K v) n + (if K < n then pcr 64 (nb (W K)) else 0) = tot W n + (if K < n then pcr 64 (nb v) else 0) := by
  induction n with
  | zero => simp [tot]
  | succ n ih =>
    show tot (upf W K v) n + pcr 64 (nb (upf W K v n)) + _ = tot W n + pcr 64 (nb (W n)) + _
    by_cases e : n = K
    · subst e
      rw [upf_same]
      simp at ih ⊢
      omega
    · rw [upf_ne _ _ _ _ e]
      by_cases q : K < n
      · have : K < n + 1 := by omega
        simp only [q, this, if_true] at ih ⊢
        omega
      · have : ¬ K < n + 1 := by omega
        simp only [q, this, if_false] at ih ⊢
        omega
theorem set_tot (W : Nat → Int64) (i : Int64) (n : Nat) (h : Okx i n) (hn : n ≤ 5) : tot (own_set W i) n = tot W n + (if bt W (ixn i) then 0 else 1) := by
  obtain ⟨k1, k2⟩ := own_k i n h hn
  have hK : ixn i / 64 < n := by obtain ⟨a, b⟩ := h; unfold ixn; omega
  have t := tot_upf W (ixn i / 64) (W (ixn i / 64) ||| ((1 : Int64) <<< (i.toInt32 &&& 0x3f).toInt64)) n
  rw [nb_or, k2, pcr_or 64 _ _ (by omega)] at t
  unfold own_set bt
  rw [k1]
  simp only [hK, if_true] at t
  omega
theorem step_W {W W' : Nat → Int64} {i : Int64} {e : Int32} {n : Nat} (hn : n ≤ 5) (h : Okx i n) (hW : W' = (if e = (0 : Int32) then W else own_set W i)) : (∀ j, bt W' j = (bt W j || (decide (¬ e = (0 : Int32)) && decide (j = ixn i)))) ∧ tot W' n = tot W n + (if e = (0 : Int32) ∨ bt W (ixn i) = true then 0 else 1) := by
  by_cases q : e = (0 : Int32)
  · rw [if_pos q] at hW
    subst hW
    simp [q]
  · rw [if_neg q] at hW
    subst hW
    refine ⟨fun j => by rw [set_bt W i n h hn]; simp [q], ?_⟩
    rw [set_tot W i n h hn]
    simp [q]
theorem tot_zero (n : Nat) : tot (fun _ => (0 : Int64)) n = 0 := by
  induction n with
  | zero => rfl
  | succ n ih => show tot (fun _ => (0 : Int64)) n + pcr 64 (nb 0) = 0; rw [ih]; decide
theorem own_before {W0 : Nat → Int64} {n : Nat} (hn : n ≤ 5) (hW : W0 = (fun _ => (0 : Int64))) : own_sum W0 n = (0 : Int64) := by
  apply Int64.toInt_inj.mp
  rw [own_sumv W0 n hn, hW, tot_zero]
  decide
theorem own_ieq {a b : Int64} {n : Nat} (ha : Okx a n) (hb : Okx b n) : a = b ↔ ixn a = ixn b := by
  rw [← Int64.toInt_inj]
  obtain ⟨a1, a2⟩ := ha
  obtain ⟨b1, b2⟩ := hb
  unfold ixn
  omega
theorem own_fin4 {n : Nat} (hn : n ≤ 5) {W0 W1 W2 W3 W4 : Nat → Int64} {ea eb ec ed : Int32} {ia ib ic id' : Int64} (hW0 : W0 = (fun _ => (0 : Int64))) (hW1 : W1 = (if ea = (0 : Int32) then W0 else own_set W0 ia)) (hW2 : W2 = (if eb = (0 : Int32) then W1 else own_set W1 ib)) (hW3 : W3 = (if ec = (0 : Int32) then W2 else own_set W2 ic)) (hW4 : W4 = (if ed = (0 : Int32) then W3 else own_set W3 id'))
    (oa : Okx ia n) (ob : Okx ib n) (oc : Okx ic n) (od : Okx id' n) :
    tot W1 n = (if ea = (0 : Int32) then 0 else 1) ∧ tot W2 n = tot W1 n + (if eb = (0 : Int32) ∨ (¬ ea = (0 : Int32) ∧ ib = ia) then 0 else 1) ∧ tot W3 n = tot W2 n + (if ec = (0 : Int32) ∨ (¬ ea = (0 : Int32) ∧ ic = ia) ∨ (¬ eb = (0 : Int32) ∧ ic = ib) then 0 else 1) ∧ tot W4 n = tot W3 n + (if ed = (0 : Int32) ∨ (¬ ea = (0 : Int32) ∧ id' = ia) ∨ (¬ eb = (0 : Int32) ∧ id' = ib) ∨ (¬ ec = (0 : Int32) ∧ id' = ic) then 0 else 1) := by
  obtain ⟨b1, t1⟩ := step_W hn oa hW1
  obtain ⟨b2, t2⟩ := step_W hn ob hW2
  obtain ⟨b3, t3⟩ := step_W hn oc hW3
  obtain ⟨b4, t4⟩ := step_W hn od hW4
  have b0 : ∀ j, bt W0 j = false := fun j => by rw [hW0]; unfold bt; rw [show nb (0 : Int64) = 0 by decide]; exact Nat.zero_testBit _
  have t0 : tot W0 n = 0 := by rw [hW0]; exact tot_zero n
  simp only [b3, b2, b1, b0, t0, Bool.false_or, Bool.or_eq_true, Bool.and_eq_true, decide_eq_true_eq, ← own_ieq ob oa, ← own_ieq oc oa, ← own_ieq oc ob, ← own_ieq od oa, ← own_ieq od ob, ← own_ieq od oc, Nat.zero_add, Bool.false_eq_true, or_false] at t1 t2 t3 t4
  refine ⟨t1, t2, ?_, ?_⟩
  · rw [t3]
  · rw [t4]
    congr 1
    by_cases p1 : ea = (0 : Int32) <;> by_cases p2 : eb = (0 : Int32) <;> by_cases p3 : ec = (0 : Int32) <;> by_cases p4 : ed = (0 : Int32) <;> simp [p1, p2, p3, p4, or_assoc]
theorem inc_of (x : Int64) (c : Nat) (k : Nat) (h : x.toInt = k) (hk : k < 1000) : (x + (1 : Int64)).toInt = (k : Int) + 1 := by
  have a := c_ladd x 1
  have r := rng64 (x + 1)
  have e1 : (1 : Int64).toInt = 1 := by decide
  omega
theorem own_after {n : Nat} (hn : n ≤ 5) {W0 W1 W2 W3 W4 : Nat → Int64} {ea eb ec ed : Int32} {ia ib ic id' x1 x2 x3 x4 : Int64} (hW0 : W0 = (fun _ => (0 : Int64))) (hW1 : W1 = (if ea = (0 : Int32) then W0 else own_set W0 ia)) (hW2 : W2 = (if eb = (0 : Int32) then W1 else own_set W1 ib)) (hW3 : W3 = (if ec = (0 : Int32) then W2 else own_set W2 ic)) (hW4 : W4 = (if ed = (0 : Int32) then W3 else own_set W3 id')) (oa : Okx ia n) (ob : Okx ib n) (oc : Okx ic n) (od : Okx id' n) (k1 : (((ea = (0 : Int32)) ∧ x1 = (0 : Int64)) ∨ (¬ (ea = (0 : Int32)) ∧ x1 = ((0 : Int64) + (1 : Int64))))) (k2 : (((eb = (0 : Int32)) ∧ x2 = x1) ∨ (¬ (eb = (0 : Int32)) ∧ (ea = (0 : Int32)) ∧ x2 = (x1 + (1 : Int64))) ∨ (¬ (eb = (0 : Int32)) ∧ ¬ (ea = (0 : Int32)) ∧ (ib = ia) ∧ x2 = x1) ∨ (¬ (eb = (0 : Int32)) ∧ ¬ (ea = (0 : Int32)) ∧ ¬ (ib = ia) ∧ x2 = (x1 + (1 : Int64))))) (k3 : (((ec = (0 : Int32)) ∧ x3 = x2) ∨ (¬ (ec = (0 : Int32)) ∧ (ea = (0 : Int32)) ∧ (eb = (0 : Int32)) ∧ x3 = (x2 + (1 : Int64))) ∨ (¬ (ec = (0 : Int32)) ∧ (ea = (0 : Int32)) ∧ ¬ (eb = (0 : Int32)) ∧ (ic = ib) ∧ x3 = x2) ∨ (¬ (ec = (0 : Int32)) ∧ (ea = (0 : Int32)) ∧ ¬ (eb = (0 : Int32)) ∧ ¬ (ic = ib) ∧ x3 = (x2 + (1 : Int64))) ∨ (¬ (ec = (0 : Int32)) ∧ ¬ (ea = (0 : Int32)) ∧ (ic = ia) ∧ x3 = x2) ∨ (¬ (ec = (0 : Int32)) ∧ ¬ (ea = (0 : Int32)) ∧ ¬ (ic = ia) ∧ (eb = (0 : Int32)) ∧ x3 = (x2 + (1 : Int64))) ∨ (¬ (ec = (0 : Int32)) ∧ ¬ (ea = (0 : Int32)) ∧ ¬ (ic = ia) ∧ ¬ (eb = (0 : Int32)) ∧ (ic = ib) ∧ x3 = x2) ∨ (¬ (ec = (0 : Int32)) ∧ ¬ (ea = (0 : Int32)) ∧ ¬ (ic = ia) ∧ ¬ (eb = (0 : Int32)) ∧ ¬ (ic = ib) ∧ x3 = (x2 + (1 : Int64))))) (k4 : (((ed = (0 : Int32)) ∧ x4 = x3) ∨ (¬ (ed = (0 : Int32)) ∧ (ea = (0 : Int32)) ∧ (eb = (0 : Int32)) ∧ (ec = (0 : Int32)) ∧ x4 = (x3 + (1 : Int64))) ∨ (¬ (ed = (0 : Int32)) ∧ (ea = (0 : Int32)) ∧ (eb = (0 : Int32)) ∧ ¬ (ec = (0 : Int32)) ∧ (id' = ic) ∧ x4 = x3) ∨ (¬ (ed = (0 : Int32)) ∧ (ea = (0 : Int32)) ∧ (eb = (0 : Int32)) ∧ ¬ (ec = (0 : Int32)) ∧ ¬ (id' = ic) ∧ x4 = (x3 + (1 : Int64))) ∨ (¬ (ed = (0 : Int32)) ∧ (ea = (0 : Int32)) ∧ ¬ (eb = (0 : Int32)) ∧ (id' = ib) ∧ x4 = x3) ∨ (¬ (ed = (0 : Int32)) ∧ (ea = (0 : Int32)) ∧ ¬ (eb = (0 : Int32)) ∧ ¬ (id' = ib) ∧ (ec = (0 : Int32)) ∧ x4 = (x3 + (1 : Int64))) ∨ (¬ (ed = (0 : Int32)) ∧ (ea = (0 : Int32)) ∧ ¬ (eb = (0 : Int32)) ∧ ¬ (id' = ib) ∧ ¬ (ec = (0 : Int32)) ∧ (id' = ic) ∧ x4 = x3) ∨ (¬ (ed = (0 : Int32)) ∧ (ea = (0 : Int32)) ∧ ¬ (eb = (0 : Int32)) ∧ ¬ (id' = ib) ∧ ¬ (ec = (0 : Int32)) ∧ ¬ (id' = ic) ∧ x4 = (x3 + (1 : Int64))) ∨ (¬ (ed = (0 : Int32)) ∧ ¬ (ea = (0 : Int32)) ∧ (id' = ia) ∧ x4 = x3) ∨ (¬ (ed = (0 : Int32)) ∧ ¬ (ea = (0 : Int32)) ∧ ¬ (id' = ia) ∧ (eb = (0 : Int32)) ∧ (ec = (0 : Int32)) ∧ x4 = (x3 + (1 : Int64))) ∨ (¬ (ed = (0 : Int32)) ∧ ¬ (ea = (0 : Int32)) ∧ ¬ (id' = ia) ∧ (eb = (0 : Int32)) ∧ ¬ (ec = (0 : Int32)) ∧ (id' = ic) ∧ x4 = x3) ∨ (¬ (ed = (0 : Int32)) ∧ ¬ (ea = (0 : Int32)) ∧ ¬ (id' = ia) ∧ (eb = (0 : Int32)) ∧ ¬ (ec = (0 : Int32)) ∧ ¬ (id' = ic) ∧ x4 = (x3 + (1 : Int64))) ∨ (¬ (ed = (0 : Int32)) ∧ ¬ (ea = (0 : Int32)) ∧ ¬ (id' = ia) ∧ ¬ (eb = (0 : Int32)) ∧ (id' = ib) ∧ x4 = x3) ∨ (¬ (ed = (0 : Int32)) ∧ ¬ (ea = (0 : Int32)) ∧ ¬ (id' = ia) ∧ ¬ (eb = (0 : Int32)) ∧ ¬ (id' = ib) ∧ (ec = (0 : Int32)) ∧ x4 = (x3 + (1 : Int64))) ∨ (¬ (ed = (0 : Int32)) ∧ ¬ (ea = (0 : Int32)) ∧ ¬ (id' = ia) ∧ ¬ (eb = (0 : Int32)) ∧ ¬ (id' = ib) ∧ ¬ (ec = (0 : Int32)) ∧ (id' = ic) ∧ x4 = x3) ∨ (¬ (ed = (0 : Int32)) ∧ ¬ (ea = (0 : Int32)) ∧ ¬ (id' = ia) ∧ ¬ (eb = (0 : Int32)) ∧ ¬ (id' = ib) ∧ ¬ (ec = (0 : Int32)) ∧ ¬ (id' = ic) ∧ x4 = (x3 + (1 : Int64))))) : own_sum W4 n = x4 := by
  obtain ⟨t1, t2, t3, t4⟩ := own_fin4 hn hW0 hW1 hW2 hW3 hW4 oa ob oc od
  have y1 : x1.toInt = tot W1 n := by
    rw [t1]
    rcases k1 with ⟨a, b⟩ | ⟨a, b⟩
    · rw [b, if_pos a]; decide
    · rw [b, if_neg a]; decide
  have z2 : (x2 = x1 ∧ (eb = (0 : Int32) ∨ (¬ ea = (0 : Int32) ∧ ib = ia))) ∨ (x2 = x1 + (1 : Int64) ∧ ¬ (eb = (0 : Int32) ∨ (¬ ea = (0 : Int32) ∧ ib = ia))) := by
    clear t1 t2 t3 t4 hW0 hW1 hW2 hW3 hW4 oa ob oc od y1
    rcases k2 with h | h | h | h <;> simp [h]
  have y2 : x2.toInt = tot W2 n := by
    rw [t2]
    have tl := tot_le W1 n
    rcases z2 with ⟨a, b⟩ | ⟨a, b⟩
    · rw [a, if_pos b, y1]; rfl
    · rw [a, if_neg b, inc_of x1 0 (tot W1 n) y1 (by omega)]; omega
  have z3 : (x3 = x2 ∧ (ec = (0 : Int32) ∨ (¬ ea = (0 : Int32) ∧ ic = ia) ∨ (¬ eb = (0 : Int32) ∧ ic = ib))) ∨ (x3 = x2 + (1 : Int64) ∧ ¬ (ec = (0 : Int32) ∨ (¬ ea = (0 : Int32) ∧ ic = ia) ∨ (¬ eb = (0 : Int32) ∧ ic = ib))) := by
    clear t1 t2 t3 t4 hW0 hW1 hW2 hW3 hW4 oa ob oc od y1 y2
    rcases k3 with h | h | h | h | h | h | h | h <;> simp [h]
  have y3 : x3.toInt = tot W3 n := by
    rw [t3]
    have tl := tot_le W2 n
    rcases z3 with ⟨a, b⟩ | ⟨a, b⟩
    · rw [a, if_pos b, y2]; rfl
    · rw [a, if_neg b, inc_of x2 0 (tot W2 n) y2 (by omega)]; omega
  have z4 : (x4 = x3 ∧ (ed = (0 : Int32) ∨ (¬ ea = (0 : Int32) ∧ id' = ia) ∨ (¬ eb = (0 : Int32) ∧ id' = ib) ∨ (¬ ec = (0 : Int32) ∧ id' = ic))) ∨ (x4 = x3 + (1 : Int64) ∧ ¬ (ed = (0 : Int32) ∨ (¬ ea = (0 : Int32) ∧ id' = ia) ∨ (¬ eb = (0 : Int32) ∧ id' = ib) ∨ (¬ ec = (0 : Int32) ∧ id' = ic))) := by
    clear t1 t2 t3 t4 hW0 hW1 hW2 hW3 hW4 oa ob oc od y1 y2 y3
    rcases k4 with h | h | h | h | h | h | h | h | h | h | h | h | h | h | h | h <;> simp [h]
  have y4 : x4.toInt = tot W4 n := by
    rw [t4]
    have tl := tot_le W3 n
    rcases z4 with ⟨a, b⟩ | ⟨a, b⟩
    · rw [a, if_pos b, y3]; rfl
    · rw [a, if_neg b, inc_of x3 0 (tot W3 n) y3 (by omega)]; omega
  apply Int64.toInt_inj.mp
  rw [own_sumv W4 n hn, y4]
theorem pd_0 : parseMethodDescriptor "(JJLjava/util/function/BiFunction;)J" = some ⟨[.long, .long, (.object "java/util/function/BiFunction")], some .long⟩ := by decide +kernel
theorem pd_1 : parseMethodDescriptor "(J)V" = some ⟨[.long], none⟩ := by decide +kernel
theorem pd_2 : parseMethodDescriptor "(J)I" = some ⟨[.long], some .int⟩ := by decide +kernel
theorem pd_3 : parseMethodDescriptor "(JJ)J" = some ⟨[.long, .long], some .long⟩ := by decide +kernel
theorem pd_4 : parseMethodDescriptor "()J" = some ⟨[], some .long⟩ := by decide +kernel
theorem pn_1 : plainName "com/example/malla/malla/arrays/BitArrayBitCountPinLaw" = true := by first | (simp [plainName, overriddenIn]; done) | decide +kernel
theorem d1_0 : decode method_2_code 0 = .ok (.lload_n 0, 1) := by decide +kernel
theorem d1_1 : decode method_2_code 1 = .ok (.ldc2_w 9, 3) := by decide +kernel
theorem d1_4 : decode method_2_code 4 = .ok (.land, 1) := by decide +kernel
theorem d1_5 : decode method_2_code 5 = .ok (.lload_n 2, 1) := by decide +kernel
theorem d1_6 : decode method_2_code 6 = .ok (.lrem, 1) := by decide +kernel
theorem d1_7 : decode method_2_code 7 = .ok (.lreturn, 1) := by decide +kernel
theorem ef_1 (m : MethodId) (q0 : Int64) (q1 : Int64) : entryFrame m #[(.long q0), (.long q1)] 4 = mkF m 0 #[lv q0, sd, lv q1, sd] [] := by first | (simp [entryFrame, mkF, argsToLocals, Value.category, iv, rv, lv, un, sd]; done) | rfl
def Q1 (Z : State) (q0 : Int64) (q1 : Int64) (h0 : Heap) (n0 : Nat) (v : Option Value) (h : Heap) (L : List Loc) : Prop := v = some (.long (own_idx q0 q1)) ∧ Fr n0 L ∧ h = h0
set_option maxRecDepth 65536 in
set_option maxHeartbeats 40000000 in
theorem rm1 (l : Launch) (Z : State) (a0 : Array Value) (hw : ∀ d ∈ tables_1, d.before a0 Z = true) (ws : List Jvm.Cond) (q0 : Int64) (q1 : Int64) (h0 : Heap) (n0 : Nat) (Z0 : n0 ≤ h0.size) (hq : q1 ≠ (0 : Int64)) :
    MetFree l (⟨"com/example/malla/malla/arrays/BitArrayBitCountPinLaw", "idx", "(JJ)J"⟩ : MethodName) (head1 (Jvm.Cond.code (⟨"com/example/malla/malla/arrays/BitArrayBitCountPinLaw", "idx", "(JJ)J"⟩ : MethodName) method_2_code 4 (some .long) :: ws) ({ frames := 0, cells := 0, slots := 0, locals := 0 } : Room)) (fun a U => a = #[(.long q0), (.long q1)] ∧ Z.Warmed39 U.vm ∧ U.heap = h0) (fun _ _ _ _ _ => True) (fun _ U o U' => ∃ v L, o = .returned v ∧ Q1 Z q0 q1 h0 n0 v U'.heap L ∧ FrameEnd U o U' L ({ frames := 0, cells := 0, slots := 0, locals := 0 } : Room).cells ({ frames := 0, cells := 0, slots := 0, locals := 0 } : Room).slots) := by
  refine MetFree.of_bodySF (plainFor_of_name pn_1) hisR ?_
  intro p e s m args below meth c s₁ Bd hml0 hP hK
  obtain ⟨rfl, hZ, hh⟩ := hP
  have hx := Bd.exec
  have hby := Bd.bytes
  have hml : c.maxLocals = 4 := hml0
  have hown : s.vm.findClass "com/example/malla/malla/arrays/BitArrayBitCountPinLaw" = some m.cls := findClass_of_methodNamed Bd.named
  have hnm := (name_of_methodNamed Bd.named Bd.method).1
  have X0 : Stand p l e ({ frames := 0, cells := 0, slots := 0, locals := 0 } : Room) s m #[(.long q0), (.long q1)] below meth c s₁ [] 0 0 := Stand.of_body Bd
  have e0 : s₁.heap = h0 := by rw [← hh, Bd.state]; rfl
  have N0 := Fr.nil n0
  suffices HH : ∀ G : Outcome → State → Prop, (∀ v L U', Q1 Z q0 q1 h0 n0 v U'.heap L → FrameEnd s (.returned v) U' L ({ frames := 0, cells := 0, slots := 0, locals := 0 } : Room).cells ({ frames := 0, cells := 0, slots := 0, locals := 0 } : Room).slots → G (.returned v) U') → Go p.tables e below G (s₁.setTop (mkF m 0 #[lv q0, sd, lv q1, sd] [])) by
    obtain ⟨s2, o, h1, h2, h3, h4⟩ := HH (fun o U' => ∃ v L, o = .returned v ∧ Q1 Z q0 q1 h0 n0 v U'.heap L ∧ FrameEnd s o U' L ({ frames := 0, cells := 0, slots := 0, locals := 0 } : Room).cells ({ frames := 0, cells := 0, slots := 0, locals := 0 } : Room).slots) (fun v L U' q f => ⟨v, L, rfl, q, f⟩)
    exact ⟨s2, o, castTop (ef_1 m q0 q1) h1, h2, h3, h4⟩
  intro G hG
  show Go p.tables e below G (s₁.setTop (mkF m 0 #[lv q0, sd, lv q1, sd] []))
  refine Go.stp (fun t_ k_ => XS.lloadN X0.here hx rfl (hb hby d1_0) rfl k_) ?_
  show Go p.tables e below G (s₁.setTop (mkF m 1 #[lv q0, sd, lv q1, sd] [(.long q0)]))
  refine Go.stp (fun t_ k_ => X0.ldc2Long hx hown (mvT hZ (hw _ (List.mem_of_getElem? (i := 6) rfl))) (g := (mkF m 1 #[lv q0, sd, lv q1, sd] [(.long q0)])) rfl (hb hby d1_1) t_ k_) ?_
  show Go p.tables e below G (s₁.setTop (mkF m 4 #[lv q0, sd, lv q1, sd] [(.long (9223372036854775807 : Int64)), (.long q0)]))
  refine Go.stp (fun t_ k_ => XS.land X0.here hx rfl (hb hby d1_4) rfl k_) ?_
  show Go p.tables e below G (s₁.setTop (mkF m 5 #[lv q0, sd, lv q1, sd] [(.long (q0 &&& (9223372036854775807 : Int64)))]))
  refine Go.stp (fun t_ k_ => XS.lloadN X0.here hx rfl (hb hby d1_5) rfl k_) ?_
  show Go p.tables e below G (s₁.setTop (mkF m 6 #[lv q0, sd, lv q1, sd] [(.long q1), (.long (q0 &&& (9223372036854775807 : Int64)))]))
  refine Go.stp (fun t_ k_ => XS.lrem X0.here hx rfl (hb hby d1_6) rfl hq k_) ?_
  show Go p.tables e below G (s₁.setTop (mkF m 7 #[lv q0, sd, lv q1, sd] [(.long ((q0 &&& (9223372036854775807 : Int64)) - ((q0 &&& (9223372036854775807 : Int64)) / q1) * q1))]))
  obtain ⟨fs, hr, hrun, hended, hW, hsame⟩ := X0.leave (v := some (.long ((q0 &&& (9223372036854775807 : Int64)) - ((q0 &&& (9223372036854775807 : Int64)) / q1) * q1))) (fun h => by rw [Bd.returns] at h; cases h)
  refine ⟨_, _, retL X0 hx Bd.returns (hb hby d1_7) hr, hrun, hended, hG _ _ _ ?_ ⟨⟨_, rfl⟩, hW, hsame.mono (by decide) (by decide)⟩⟩
  show Q1 Z q0 q1 h0 n0 _ s₁.heap _
  rw [e0]
  exact ⟨rfl, N0, rfl⟩
theorem pn_4 : plainName "com/example/malla/malla/arrays/BitArray" = true := by first | (simp [plainName, overriddenIn]; done) | decide +kernel
theorem d4_0 : decode prog_2_method_21_code 0 = .ok (.lload_n 0, 1) := by decide +kernel
theorem d4_1 : decode prog_2_method_21_code 1 = .ok (.lconst 0, 1) := by decide +kernel
theorem d4_2 : decode prog_2_method_21_code 2 = .ok (.lcmp, 1) := by decide +kernel
theorem d4_3 : decode prog_2_method_21_code 3 = .ok (.ifCond .lt 11, 3) := by decide +kernel
theorem d4_6 : decode prog_2_method_21_code 6 = .ok (.lload_n 0, 1) := by decide +kernel
theorem d4_7 : decode prog_2_method_21_code 7 = .ok (.ldc2_w 204, 3) := by decide +kernel
theorem d4_10 : decode prog_2_method_21_code 10 = .ok (.lcmp, 1) := by decide +kernel
theorem d4_11 : decode prog_2_method_21_code 11 = .ok (.ifCond .le 17, 3) := by decide +kernel
theorem d4_28 : decode prog_2_method_21_code 28 = .ok (.return_, 1) := by decide +kernel
theorem ef_4 (m : MethodId) (q0 : Int64) : entryFrame m #[(.long q0)] 2 = mkF m 0 #[lv q0, sd] [] := by first | (simp [entryFrame, mkF, argsToLocals, Value.category, iv, rv, lv, un, sd]; done) | rfl
def Q4 (Z : State) (q0 : Int64) (h0 : Heap) (n0 : Nat) (v : Option Value) (h : Heap) (L : List Loc) : Prop := v = none ∧ Fr n0 L ∧ h = h0
set_option maxRecDepth 65536 in
set_option maxHeartbeats 40000000 in
theorem rm4 (l : Launch) (Z : State) (a0 : Array Value) (hw : ∀ d ∈ tables_1, d.before a0 Z = true) (ws : List Jvm.Cond) (q0 : Int64) (h0 : Heap) (n0 : Nat) (Z0 : n0 ≤ h0.size) (b0 : ¬ q0 < (0 : Int64)) (b1 : ¬ (137438952896 : Int64) < q0) :
    MetFree l (⟨"com/example/malla/malla/arrays/BitArray", "checkSize", "(J)V"⟩ : MethodName) (head1 (Jvm.Cond.code (⟨"com/example/malla/malla/arrays/BitArray", "checkSize", "(J)V"⟩ : MethodName) prog_2_method_21_code 2 none :: ws) ({ frames := 0, cells := 0, slots := 0, locals := 0 } : Room)) (fun a U => a = #[(.long q0)] ∧ Z.Warmed39 U.vm ∧ U.heap = h0) (fun _ _ _ _ _ => True) (fun _ U o U' => ∃ v L, o = .returned v ∧ Q4 Z q0 h0 n0 v U'.heap L ∧ FrameEnd U o U' L ({ frames := 0, cells := 0, slots := 0, locals := 0 } : Room).cells ({ frames := 0, cells := 0, slots := 0, locals := 0 } : Room).slots) := by
  refine MetFree.of_bodySF (plainFor_of_name pn_4) hisR ?_
  intro p e s m args below meth c s₁ Bd hml0 hP hK
  obtain ⟨rfl, hZ, hh⟩ := hP
  have hx := Bd.exec
  have hby := Bd.bytes
  have hml : c.maxLocals = 2 := hml0
  have hown : s.vm.findClass "com/example/malla/malla/arrays/BitArray" = some m.cls := findClass_of_methodNamed Bd.named
  have hnm := (name_of_methodNamed Bd.named Bd.method).1
  have X0 : Stand p l e ({ frames := 0, cells := 0, slots := 0, locals := 0 } : Room) s m #[(.long q0)] below meth c s₁ [] 0 0 := Stand.of_body Bd
  have e0 : s₁.heap = h0 := by rw [← hh, Bd.state]; rfl
  have N0 := Fr.nil n0
  suffices HH : ∀ G : Outcome → State → Prop, (∀ v L U', Q4 Z q0 h0 n0 v U'.heap L → FrameEnd s (.returned v) U' L ({ frames := 0, cells := 0, slots := 0, locals := 0 } : Room).cells ({ frames := 0, cells := 0, slots := 0, locals := 0 } : Room).slots → G (.returned v) U') → Go p.tables e below G (s₁.setTop (mkF m 0 #[lv q0, sd] [])) by
    obtain ⟨s2, o, h1, h2, h3, h4⟩ := HH (fun o U' => ∃ v L, o = .returned v ∧ Q4 Z q0 h0 n0 v U'.heap L ∧ FrameEnd s o U' L ({ frames := 0, cells := 0, slots := 0, locals := 0 } : Room).cells ({ frames := 0, cells := 0, slots := 0, locals := 0 } : Room).slots) (fun v L U' q f => ⟨v, L, rfl, q, f⟩)
    exact ⟨s2, o, castTop (ef_4 m q0) h1, h2, h3, h4⟩
  intro G hG
  show Go p.tables e below G (s₁.setTop (mkF m 0 #[lv q0, sd] []))
  refine Go.stp (fun t_ k_ => XS.lloadN X0.here hx rfl (hb hby d4_0) rfl k_) ?_
  show Go p.tables e below G (s₁.setTop (mkF m 1 #[lv q0, sd] [(.long q0)]))
  refine Go.stp (fun t_ k_ => XS.lconst X0.here hx rfl (hb hby d4_1) k_) ?_
  show Go p.tables e below G (s₁.setTop (mkF m 2 #[lv q0, sd] [(.long (0 : Int64)), (.long q0)]))
  refine Go.stp (fun t_ k_ => XS.lcmp X0.here hx rfl (hb hby d4_2) rfl k_) ?_
  show Go p.tables e below G (s₁.setTop (mkF m 3 #[lv q0, sd] [(.int (lcmpW q0 (0 : Int64)))]))
  have hd3 : ¬ (q0 < (0 : Int64)) := b0
  refine Go.stp (fun t_ k_ => XS.ifNo X0.here hx rfl (hb hby d4_3) rfl ((if0 _ _).trans (flt (fun q => hd3 ((lw_lt q0 (0 : Int64)).mp q))).1) k_) ?_
  show Go p.tables e below G (s₁.setTop (mkF m 6 #[lv q0, sd] []))
  refine Go.stp (fun t_ k_ => XS.lloadN X0.here hx rfl (hb hby d4_6) rfl k_) ?_
  show Go p.tables e below G (s₁.setTop (mkF m 7 #[lv q0, sd] [(.long q0)]))
  refine Go.stp (fun t_ k_ => X0.ldc2Long hx hown (mvT hZ (hw _ (List.mem_of_getElem? (i := 19) rfl))) (g := (mkF m 7 #[lv q0, sd] [(.long q0)])) rfl (hb hby d4_7) t_ k_) ?_
  show Go p.tables e below G (s₁.setTop (mkF m 10 #[lv q0, sd] [(.long (137438952896 : Int64)), (.long q0)]))
  refine Go.stp (fun t_ k_ => XS.lcmp X0.here hx rfl (hb hby d4_10) rfl k_) ?_
  show Go p.tables e below G (s₁.setTop (mkF m 11 #[lv q0, sd] [(.int (lcmpW q0 (137438952896 : Int64)))]))
  have hd11 : ¬ ((137438952896 : Int64) < q0) := b1
  refine Go.stp (fun t_ k_ => XS.ifYes X0.here hx rfl (pc0 := 11) (pc' := 28) rfl (hb hby d4_11) rfl ((if0 _ _).trans (flt (fun q => hd11 ((lw_gt q0 (137438952896 : Int64)).mp q))).2.2.2) (by decide) (by decide) k_) ?_
  show Go p.tables e below G (s₁.setTop (mkF m 28 #[lv q0, sd] []))
  obtain ⟨fs, hr, hrun, hended, hW, hsame⟩ := X0.leave (v := none) (fun _ => rfl)
  refine ⟨_, _, X0.returnOut hx Bd.returns (hb hby d4_28) hr, hrun, hended, hG _ _ _ ?_ ⟨⟨_, rfl⟩, hW, hsame.mono (by decide) (by decide)⟩⟩
  show Q4 Z q0 h0 n0 _ s₁.heap _
  rw [e0]
  exact ⟨rfl, N0, rfl⟩
theorem d5_0 : decode prog_2_method_23_code 0 = .ok (.lload_n 0, 1) := by decide +kernel
theorem d5_1 : decode prog_2_method_23_code 1 = .ok (.ldc2_w 208, 3) := by decide +kernel
theorem d5_4 : decode prog_2_method_23_code 4 = .ok (.ladd, 1) := by decide +kernel
theorem d5_5 : decode prog_2_method_23_code 5 = .ok (.bipush 6, 2) := by decide +kernel
theorem d5_7 : decode prog_2_method_23_code 7 = .ok (.lushr, 1) := by decide +kernel
theorem d5_8 : decode prog_2_method_23_code 8 = .ok (.l2i, 1) := by decide +kernel
theorem d5_9 : decode prog_2_method_23_code 9 = .ok (.ireturn, 1) := by decide +kernel
theorem ef_5 (m : MethodId) (q0 : Int64) : entryFrame m #[(.long q0)] 2 = mkF m 0 #[lv q0, sd] [] := by first | (simp [entryFrame, mkF, argsToLocals, Value.category, iv, rv, lv, un, sd]; done) | rfl
def Q5 (Z : State) (q0 : Int64) (h0 : Heap) (n0 : Nat) (v : Option Value) (h : Heap) (L : List Loc) : Prop := v = some (.int (own_wc q0)) ∧ Fr n0 L ∧ h = h0
set_option maxRecDepth 65536 in
set_option maxHeartbeats 40000000 in
theorem rm5 (l : Launch) (Z : State) (a0 : Array Value) (hw : ∀ d ∈ tables_1, d.before a0 Z = true) (ws : List Jvm.Cond) (q0 : Int64) (h0 : Heap) (n0 : Nat) (Z0 : n0 ≤ h0.size) :
    MetFree l (⟨"com/example/malla/malla/arrays/BitArray", "wordCount", "(J)I"⟩ : MethodName) (head1 (Jvm.Cond.code (⟨"com/example/malla/malla/arrays/BitArray", "wordCount", "(J)I"⟩ : MethodName) prog_2_method_23_code 2 (some .int) :: ws) ({ frames := 0, cells := 0, slots := 0, locals := 0 } : Room)) (fun a U => a = #[(.long q0)] ∧ Z.Warmed39 U.vm ∧ U.heap = h0) (fun _ _ _ _ _ => True) (fun _ U o U' => ∃ v L, o = .returned v ∧ Q5 Z q0 h0 n0 v U'.heap L ∧ FrameEnd U o U' L ({ frames := 0, cells := 0, slots := 0, locals := 0 } : Room).cells ({ frames := 0, cells := 0, slots := 0, locals := 0 } : Room).slots) := by
  refine MetFree.of_bodySF (plainFor_of_name pn_4) hisR ?_
  intro p e s m args below meth c s₁ Bd hml0 hP hK
  obtain ⟨rfl, hZ, hh⟩ := hP
  have hx := Bd.exec
  have hby := Bd.bytes
  have hml : c.maxLocals = 2 := hml0
  have hown : s.vm.findClass "com/example/malla/malla/arrays/BitArray" = some m.cls := findClass_of_methodNamed Bd.named
  have hnm := (name_of_methodNamed Bd.named Bd.method).1
  have X0 : Stand p l e ({ frames := 0, cells := 0, slots := 0, locals := 0 } : Room) s m #[(.long q0)] below meth c s₁ [] 0 0 := Stand.of_body Bd
  have e0 : s₁.heap = h0 := by rw [← hh, Bd.state]; rfl
  have N0 := Fr.nil n0
  suffices HH : ∀ G : Outcome → State → Prop, (∀ v L U', Q5 Z q0 h0 n0 v U'.heap L → FrameEnd s (.returned v) U' L ({ frames := 0, cells := 0, slots := 0, locals := 0 } : Room).cells ({ frames := 0, cells := 0, slots := 0, locals := 0 } : Room).slots → G (.returned v) U') → Go p.tables e below G (s₁.setTop (mkF m 0 #[lv q0, sd] [])) by
    obtain ⟨s2, o, h1, h2, h3, h4⟩ := HH (fun o U' => ∃ v L, o = .returned v ∧ Q5 Z q0 h0 n0 v U'.heap L ∧ FrameEnd s o U' L ({ frames := 0, cells := 0, slots := 0, locals := 0 } : Room).cells ({ frames := 0, cells := 0, slots := 0, locals := 0 } : Room).slots) (fun v L U' q f => ⟨v, L, rfl, q, f⟩)
    exact ⟨s2, o, castTop (ef_5 m q0) h1, h2, h3, h4⟩
  intro G hG
  show Go p.tables e below G (s₁.setTop (mkF m 0 #[lv q0, sd] []))
  refine Go.stp (fun t_ k_ => XS.lloadN X0.here hx rfl (hb hby d5_0) rfl k_) ?_
  show Go p.tables e below G (s₁.setTop (mkF m 1 #[lv q0, sd] [(.long q0)]))
  refine Go.stp (fun t_ k_ => X0.ldc2Long hx hown (mvT hZ (hw _ (List.mem_of_getElem? (i := 25) rfl))) (g := (mkF m 1 #[lv q0, sd] [(.long q0)])) rfl (hb hby d5_1) t_ k_) ?_
  show Go p.tables e below G (s₁.setTop (mkF m 4 #[lv q0, sd] [(.long (63 : Int64)), (.long q0)]))
  refine Go.stp (fun t_ k_ => XS.ladd X0.here hx rfl (hb hby d5_4) rfl k_) ?_
  show Go p.tables e below G (s₁.setTop (mkF m 5 #[lv q0, sd] [(.long (q0 + (63 : Int64)))]))
  refine Go.stp (fun t_ k_ => XS.bipush X0.here hx rfl (hb hby d5_5) k_) ?_
  show Go p.tables e below G (s₁.setTop (mkF m 7 #[lv q0, sd] [(.int (6 : Int32)), (.long (q0 + (63 : Int64)))]))
  refine Go.stp (fun t_ k_ => XS.lushr X0.here hx rfl (hb hby d5_7) rfl k_) ?_
  show Go p.tables e below G (s₁.setTop (mkF m 8 #[lv q0, sd] [(.long (((q0 + (63 : Int64)).toUInt64 >>> ((6 : Int32) &&& 0x3f).toInt64.toUInt64).toInt64))]))
  refine Go.stp (fun t_ k_ => XS.l2i X0.here hx rfl (hb hby d5_8) rfl k_) ?_
  show Go p.tables e below G (s₁.setTop (mkF m 9 #[lv q0, sd] [(.int ((((q0 + (63 : Int64)).toUInt64 >>> ((6 : Int32) &&& 0x3f).toInt64.toUInt64).toInt64).toInt32))]))
  obtain ⟨fs, hr, hrun, hended, hW, hsame⟩ := X0.leave (v := some (.int ((((q0 + (63 : Int64)).toUInt64 >>> ((6 : Int32) &&& 0x3f).toInt64.toUInt64).toInt64).toInt32))) (fun h => by rw [Bd.returns] at h; cases h)
  refine ⟨_, _, retI X0 hx Bd.returns (hb hby d5_9) hr, hrun, hended, hG _ _ _ ?_ ⟨⟨_, rfl⟩, hW, hsame.mono (by decide) (by decide)⟩⟩
  show Q5 Z q0 h0 n0 _ s₁.heap _
  rw [e0]
  exact ⟨rfl, N0, rfl⟩
theorem pn_10 : plainName "jdk/internal/util/Preconditions" = true := by first | (simp [plainName, overriddenIn]; done) | decide +kernel
theorem d10_0 : decode jdk_41_method_14_code 0 = .ok (.lload_n 0, 1) := by decide +kernel
theorem d10_1 : decode jdk_41_method_14_code 1 = .ok (.lconst 0, 1) := by decide +kernel
theorem d10_2 : decode jdk_41_method_14_code 2 = .ok (.lcmp, 1) := by decide +kernel
theorem d10_3 : decode jdk_41_method_14_code 3 = .ok (.ifCond .lt 9, 3) := by decide +kernel
theorem d10_6 : decode jdk_41_method_14_code 6 = .ok (.lload_n 0, 1) := by decide +kernel
theorem d10_7 : decode jdk_41_method_14_code 7 = .ok (.lload_n 2, 1) := by decide +kernel
theorem d10_8 : decode jdk_41_method_14_code 8 = .ok (.lcmp, 1) := by decide +kernel
theorem d10_9 : decode jdk_41_method_14_code 9 = .ok (.ifCond .lt 11, 3) := by decide +kernel
theorem d10_20 : decode jdk_41_method_14_code 20 = .ok (.lload_n 0, 1) := by decide +kernel
theorem d10_21 : decode jdk_41_method_14_code 21 = .ok (.lreturn, 1) := by decide +kernel
theorem ef_10 (m : MethodId) (q0 : Int64) (q1 : Int64) : entryFrame m #[(.long q0), (.long q1), .null] 5 = mkF m 0 #[lv q0, sd, lv q1, sd, .val .null] [] := by first | (simp [entryFrame, mkF, argsToLocals, Value.category, iv, rv, lv, un, sd]; done) | rfl
def Q10 (Z : State) (q0 : Int64) (q1 : Int64) (h0 : Heap) (n0 : Nat) (v : Option Value) (h : Heap) (L : List Loc) : Prop := v = some (.long q0) ∧ Fr n0 L ∧ h = h0
set_option maxRecDepth 65536 in
set_option maxHeartbeats 40000000 in
theorem rm10 (l : Launch) (Z : State) (a0 : Array Value) (hw : ∀ d ∈ tables_1, d.before a0 Z = true) (ws : List Jvm.Cond) (q0 : Int64) (q1 : Int64) (h0 : Heap) (n0 : Nat) (Z0 : n0 ≤ h0.size) (b0 : ¬ q0 < (0 : Int64)) (b1 : q0 < q1) :
    MetFree l (⟨"jdk/internal/util/Preconditions", "checkIndex", "(JJLjava/util/function/BiFunction;)J"⟩ : MethodName) (head1 (Jvm.Cond.code (⟨"jdk/internal/util/Preconditions", "checkIndex", "(JJLjava/util/function/BiFunction;)J"⟩ : MethodName) jdk_41_method_14_code 5 (some .long) :: ws) ({ frames := 0, cells := 0, slots := 0, locals := 0 } : Room)) (fun a U => a = #[(.long q0), (.long q1), .null] ∧ Z.Warmed39 U.vm ∧ U.heap = h0) (fun _ _ _ _ _ => True) (fun _ U o U' => ∃ v L, o = .returned v ∧ Q10 Z q0 q1 h0 n0 v U'.heap L ∧ FrameEnd U o U' L ({ frames := 0, cells := 0, slots := 0, locals := 0 } : Room).cells ({ frames := 0, cells := 0, slots := 0, locals := 0 } : Room).slots) := by
  refine MetFree.of_bodySF (plainFor_of_name pn_10) hisR ?_
  intro p e s m args below meth c s₁ Bd hml0 hP hK
  obtain ⟨rfl, hZ, hh⟩ := hP
  have hx := Bd.exec
  have hby := Bd.bytes
  have hml : c.maxLocals = 5 := hml0
  have hown : s.vm.findClass "jdk/internal/util/Preconditions" = some m.cls := findClass_of_methodNamed Bd.named
  have hnm := (name_of_methodNamed Bd.named Bd.method).1
  have X0 : Stand p l e ({ frames := 0, cells := 0, slots := 0, locals := 0 } : Room) s m #[(.long q0), (.long q1), .null] below meth c s₁ [] 0 0 := Stand.of_body Bd
  have e0 : s₁.heap = h0 := by rw [← hh, Bd.state]; rfl
  have N0 := Fr.nil n0
  suffices HH : ∀ G : Outcome → State → Prop, (∀ v L U', Q10 Z q0 q1 h0 n0 v U'.heap L → FrameEnd s (.returned v) U' L ({ frames := 0, cells := 0, slots := 0, locals := 0 } : Room).cells ({ frames := 0, cells := 0, slots := 0, locals := 0 } : Room).slots → G (.returned v) U') → Go p.tables e below G (s₁.setTop (mkF m 0 #[lv q0, sd, lv q1, sd, .val .null] [])) by
    obtain ⟨s2, o, h1, h2, h3, h4⟩ := HH (fun o U' => ∃ v L, o = .returned v ∧ Q10 Z q0 q1 h0 n0 v U'.heap L ∧ FrameEnd s o U' L ({ frames := 0, cells := 0, slots := 0, locals := 0 } : Room).cells ({ frames := 0, cells := 0, slots := 0, locals := 0 } : Room).slots) (fun v L U' q f => ⟨v, L, rfl, q, f⟩)
    exact ⟨s2, o, castTop (ef_10 m q0 q1) h1, h2, h3, h4⟩
  intro G hG
  show Go p.tables e below G (s₁.setTop (mkF m 0 #[lv q0, sd, lv q1, sd, .val .null] []))
  refine Go.stp (fun t_ k_ => XS.lloadN X0.here hx rfl (hb hby d10_0) rfl k_) ?_
  show Go p.tables e below G (s₁.setTop (mkF m 1 #[lv q0, sd, lv q1, sd, .val .null] [(.long q0)]))
  refine Go.stp (fun t_ k_ => XS.lconst X0.here hx rfl (hb hby d10_1) k_) ?_
  show Go p.tables e below G (s₁.setTop (mkF m 2 #[lv q0, sd, lv q1, sd, .val .null] [(.long (0 : Int64)), (.long q0)]))
  refine Go.stp (fun t_ k_ => XS.lcmp X0.here hx rfl (hb hby d10_2) rfl k_) ?_
  show Go p.tables e below G (s₁.setTop (mkF m 3 #[lv q0, sd, lv q1, sd, .val .null] [(.int (lcmpW q0 (0 : Int64)))]))
  have hd3 : ¬ (q0 < (0 : Int64)) := b0
  refine Go.stp (fun t_ k_ => XS.ifNo X0.here hx rfl (hb hby d10_3) rfl ((if0 _ _).trans (flt (fun q => hd3 ((lw_lt q0 (0 : Int64)).mp q))).1) k_) ?_
  show Go p.tables e below G (s₁.setTop (mkF m 6 #[lv q0, sd, lv q1, sd, .val .null] []))
  refine Go.stp (fun t_ k_ => XS.lloadN X0.here hx rfl (hb hby d10_6) rfl k_) ?_
  show Go p.tables e below G (s₁.setTop (mkF m 7 #[lv q0, sd, lv q1, sd, .val .null] [(.long q0)]))
  refine Go.stp (fun t_ k_ => XS.lloadN X0.here hx rfl (hb hby d10_7) rfl k_) ?_
  show Go p.tables e below G (s₁.setTop (mkF m 8 #[lv q0, sd, lv q1, sd, .val .null] [(.long q1), (.long q0)]))
  refine Go.stp (fun t_ k_ => XS.lcmp X0.here hx rfl (hb hby d10_8) rfl k_) ?_
  show Go p.tables e below G (s₁.setTop (mkF m 9 #[lv q0, sd, lv q1, sd, .val .null] [(.int (lcmpW q0 q1))]))
  have hd9 : q0 < q1 := b1
  refine Go.stp (fun t_ k_ => XS.ifYes X0.here hx rfl (pc0 := 9) (pc' := 20) rfl (hb hby d10_9) rfl ((if0 _ _).trans (tlt ((lw_lt q0 q1).mpr hd9)).1) (by decide) (by decide) k_) ?_
  show Go p.tables e below G (s₁.setTop (mkF m 20 #[lv q0, sd, lv q1, sd, .val .null] []))
  refine Go.stp (fun t_ k_ => XS.lloadN X0.here hx rfl (hb hby d10_20) rfl k_) ?_
  show Go p.tables e below G (s₁.setTop (mkF m 21 #[lv q0, sd, lv q1, sd, .val .null] [(.long q0)]))
  obtain ⟨fs, hr, hrun, hended, hW, hsame⟩ := X0.leave (v := some (.long q0)) (fun h => by rw [Bd.returns] at h; cases h)
  refine ⟨_, _, retL X0 hx Bd.returns (hb hby d10_21) hr, hrun, hended, hG _ _ _ ?_ ⟨⟨_, rfl⟩, hW, hsame.mono (by decide) (by decide)⟩⟩
  show Q10 Z q0 q1 h0 n0 _ s₁.heap _
  rw [e0]
  exact ⟨rfl, N0, rfl⟩
theorem pn_9 : plainName "java/util/Objects" = true := by first | (simp [plainName, overriddenIn]; done) | decide +kernel
theorem d9_0 : decode jdk_31_method_20_code 0 = .ok (.lload_n 0, 1) := by decide +kernel
theorem d9_1 : decode jdk_31_method_20_code 1 = .ok (.lload_n 2, 1) := by decide +kernel
theorem d9_2 : decode jdk_31_method_20_code 2 = .ok (.aconst_null, 1) := by decide +kernel
theorem d9_3 : decode jdk_31_method_20_code 3 = .ok (.invokestatic 118, 3) := by decide +kernel
theorem d9_6 : decode jdk_31_method_20_code 6 = .ok (.lreturn, 1) := by decide +kernel
theorem ef_9 (m : MethodId) (q0 : Int64) (q1 : Int64) : entryFrame m #[(.long q0), (.long q1)] 4 = mkF m 0 #[lv q0, sd, lv q1, sd] [] := by first | (simp [entryFrame, mkF, argsToLocals, Value.category, iv, rv, lv, un, sd]; done) | rfl
def Q9 (Z : State) (q0 : Int64) (q1 : Int64) (h0 : Heap) (n0 : Nat) (v : Option Value) (h : Heap) (L : List Loc) : Prop := v = some (.long q0) ∧ Fr n0 L ∧ h = h0
set_option maxRecDepth 65536 in
set_option maxHeartbeats 40000000 in
theorem rm9 (l : Launch) (Z : State) (a0 : Array Value) (hw : ∀ d ∈ tables_1, d.before a0 Z = true) (ws : List Jvm.Cond) (q0 : Int64) (q1 : Int64) (h0 : Heap) (n0 : Nat) (Z0 : n0 ≤ h0.size) (b0 : ¬ q0 < (0 : Int64)) (b1 : q0 < q1) :
    MetFree l (⟨"java/util/Objects", "checkIndex", "(JJ)J"⟩ : MethodName) (head1 (Jvm.Cond.code (⟨"java/util/Objects", "checkIndex", "(JJ)J"⟩ : MethodName) jdk_31_method_20_code 4 (some .long) :: ws) ({ frames := 1, cells := 0, slots := 0, locals := 16 } : Room)) (fun a U => a = #[(.long q0), (.long q1)] ∧ Z.Warmed39 U.vm ∧ U.heap = h0) (fun _ _ _ _ _ => True) (fun _ U o U' => ∃ v L, o = .returned v ∧ Q9 Z q0 q1 h0 n0 v U'.heap L ∧ FrameEnd U o U' L ({ frames := 1, cells := 0, slots := 0, locals := 16 } : Room).cells ({ frames := 1, cells := 0, slots := 0, locals := 16 } : Room).slots) := by
  refine MetFree.of_bodySF (plainFor_of_name pn_9) hisR ?_
  intro p e s m args below meth c s₁ Bd hml0 hP hK
  obtain ⟨rfl, hZ, hh⟩ := hP
  have hx := Bd.exec
  have hby := Bd.bytes
  have hml : c.maxLocals = 4 := hml0
  have hown : s.vm.findClass "java/util/Objects" = some m.cls := findClass_of_methodNamed Bd.named
  have hnm := (name_of_methodNamed Bd.named Bd.method).1
  have X0 : Stand p l e ({ frames := 1, cells := 0, slots := 0, locals := 16 } : Room) s m #[(.long q0), (.long q1)] below meth c s₁ [] 0 0 := Stand.of_body Bd
  have e0 : s₁.heap = h0 := by rw [← hh, Bd.state]; rfl
  have N0 := Fr.nil n0
  suffices HH : ∀ G : Outcome → State → Prop, (∀ v L U', Q9 Z q0 q1 h0 n0 v U'.heap L → FrameEnd s (.returned v) U' L ({ frames := 1, cells := 0, slots := 0, locals := 16 } : Room).cells ({ frames := 1, cells := 0, slots := 0, locals := 16 } : Room).slots → G (.returned v) U') → Go p.tables e below G (s₁.setTop (mkF m 0 #[lv q0, sd, lv q1, sd] [])) by
    obtain ⟨s2, o, h1, h2, h3, h4⟩ := HH (fun o U' => ∃ v L, o = .returned v ∧ Q9 Z q0 q1 h0 n0 v U'.heap L ∧ FrameEnd s o U' L ({ frames := 1, cells := 0, slots := 0, locals := 16 } : Room).cells ({ frames := 1, cells := 0, slots := 0, locals := 16 } : Room).slots) (fun v L U' q f => ⟨v, L, rfl, q, f⟩)
    exact ⟨s2, o, castTop (ef_9 m q0 q1) h1, h2, h3, h4⟩
  intro G hG
  show Go p.tables e below G (s₁.setTop (mkF m 0 #[lv q0, sd, lv q1, sd] []))
  refine Go.stp (fun t_ k_ => XS.lloadN X0.here hx rfl (hb hby d9_0) rfl k_) ?_
  show Go p.tables e below G (s₁.setTop (mkF m 1 #[lv q0, sd, lv q1, sd] [(.long q0)]))
  refine Go.stp (fun t_ k_ => XS.lloadN X0.here hx rfl (hb hby d9_1) rfl k_) ?_
  show Go p.tables e below G (s₁.setTop (mkF m 2 #[lv q0, sd, lv q1, sd] [(.long q1), (.long q0)]))
  refine Go.stp (fun t_ k_ => XS.aconstNull X0.here hx rfl (hb hby d9_2) k_) ?_
  show Go p.tables e below G (s₁.setTop (mkF m 3 #[lv q0, sd, lv q1, sd] [.null, (.long q1), (.long q0)]))
  obtain ⟨_, _, ⟨T1, L1, k1, n1⟩, -, X1, ⟨Lc1, hQ1, l1, y1, z1⟩, st1⟩ := Jvm.LawKit.callS X0 hx (y := (⟨"jdk/internal/util/Preconditions", "checkIndex", "(JJLjava/util/function/BiFunction;)J"⟩ : MethodName)) hown (mvT hZ (hw _ (List.mem_of_getElem? (i := 50) rfl))) (mvT hZ (hw _ (List.mem_of_getElem? (i := 51) rfl))) (mvT hZ (hw _ (List.mem_of_getElem? (i := 52) rfl))) (mvT hZ (hw _ (List.mem_of_getElem? (i := 53) rfl))) (by decide) (backOf (W := 0) (rm10 l Z a0 hw [] q0 q1  h0 n0 Z0 b0 b1) hZ (hw _ (List.mem_of_getElem? (i := 53) rfl)) (hw _ (List.mem_of_getElem? (i := 52) rfl)) (by decide) (by decide)) (g := (mkF m 3 #[lv q0, sd, lv q1, sd] [.null, (.long q1), (.long q0)])) rfl (by rw [hml]; rfl) (argsL := [(.long q0), (.long q1), .null]) (rest := []) (lenOf pd_0 rfl) rfl (by show 2 * 0 + _ ≤ _; exact Nat.le_of_eq rfl) (hb hby d9_3) (fun _ _ => ⟨rfl, e0, (by decide : 0 + 0 ≤ _), (by decide : 0 + 0 ≤ _)⟩)
  dsimp only [Pt.U, Pt.locs, Pt.cells, Pt.slots] at X1 l1 y1 z1 st1 hQ1
  subst l1 y1 z1
  obtain ⟨rfl, Nq1, e1⟩ := hQ1
  have N1 := Fr.app N0 Nq1
  refine Go.stp (fun t_ k_ => st1 t_ k_) ?_
  show Go p.tables e below G (T1.setTop (mkF m 6 #[lv q0, sd, lv q1, sd] [(.long q0)]))
  obtain ⟨fs, hr, hrun, hended, hW, hsame⟩ := X1.leave (v := some (.long q0)) (fun h => by rw [Bd.returns] at h; cases h)
  refine ⟨_, _, retL X1 hx Bd.returns (hb hby d9_6) hr, hrun, hended, hG _ _ _ ?_ ⟨⟨_, rfl⟩, hW, hsame.mono (by decide) (by decide)⟩⟩
  show Q9 Z q0 q1 h0 n0 _ T1.heap _
  rw [e1]
  exact ⟨rfl, N1, rfl⟩
theorem pn_7 : plainName "java/lang/Long" = true := by first | (simp [plainName, overriddenIn]; done) | decide +kernel
theorem d7_0 : decode jdk_35_method_50_code 0 = .ok (.lload_n 0, 1) := by decide +kernel
theorem d7_1 : decode jdk_35_method_50_code 1 = .ok (.lload_n 0, 1) := by decide +kernel
theorem d7_2 : decode jdk_35_method_50_code 2 = .ok (.iconst 1, 1) := by decide +kernel
theorem d7_3 : decode jdk_35_method_50_code 3 = .ok (.lushr, 1) := by decide +kernel
theorem d7_4 : decode jdk_35_method_50_code 4 = .ok (.ldc2_w 314, 3) := by decide +kernel
theorem d7_7 : decode jdk_35_method_50_code 7 = .ok (.land, 1) := by decide +kernel
theorem d7_8 : decode jdk_35_method_50_code 8 = .ok (.lsub, 1) := by decide +kernel
theorem d7_9 : decode jdk_35_method_50_code 9 = .ok (.lstore_n 0, 1) := by decide +kernel
theorem d7_10 : decode jdk_35_method_50_code 10 = .ok (.lload_n 0, 1) := by decide +kernel
theorem d7_11 : decode jdk_35_method_50_code 11 = .ok (.ldc2_w 316, 3) := by decide +kernel
theorem d7_14 : decode jdk_35_method_50_code 14 = .ok (.land, 1) := by decide +kernel
theorem d7_15 : decode jdk_35_method_50_code 15 = .ok (.lload_n 0, 1) := by decide +kernel
theorem d7_16 : decode jdk_35_method_50_code 16 = .ok (.iconst 2, 1) := by decide +kernel
theorem d7_17 : decode jdk_35_method_50_code 17 = .ok (.lushr, 1) := by decide +kernel
theorem d7_18 : decode jdk_35_method_50_code 18 = .ok (.ldc2_w 316, 3) := by decide +kernel
theorem d7_21 : decode jdk_35_method_50_code 21 = .ok (.land, 1) := by decide +kernel
theorem d7_22 : decode jdk_35_method_50_code 22 = .ok (.ladd, 1) := by decide +kernel
theorem d7_23 : decode jdk_35_method_50_code 23 = .ok (.lstore_n 0, 1) := by decide +kernel
theorem d7_24 : decode jdk_35_method_50_code 24 = .ok (.lload_n 0, 1) := by decide +kernel
theorem d7_25 : decode jdk_35_method_50_code 25 = .ok (.lload_n 0, 1) := by decide +kernel
theorem d7_26 : decode jdk_35_method_50_code 26 = .ok (.iconst 4, 1) := by decide +kernel
theorem d7_27 : decode jdk_35_method_50_code 27 = .ok (.lushr, 1) := by decide +kernel
theorem d7_28 : decode jdk_35_method_50_code 28 = .ok (.ladd, 1) := by decide +kernel
theorem d7_29 : decode jdk_35_method_50_code 29 = .ok (.ldc2_w 318, 3) := by decide +kernel
theorem d7_32 : decode jdk_35_method_50_code 32 = .ok (.land, 1) := by decide +kernel
theorem d7_33 : decode jdk_35_method_50_code 33 = .ok (.lstore_n 0, 1) := by decide +kernel
theorem d7_34 : decode jdk_35_method_50_code 34 = .ok (.lload_n 0, 1) := by decide +kernel
theorem d7_35 : decode jdk_35_method_50_code 35 = .ok (.lload_n 0, 1) := by decide +kernel
theorem d7_36 : decode jdk_35_method_50_code 36 = .ok (.bipush 8, 2) := by decide +kernel
theorem d7_38 : decode jdk_35_method_50_code 38 = .ok (.lushr, 1) := by decide +kernel
theorem d7_39 : decode jdk_35_method_50_code 39 = .ok (.ladd, 1) := by decide +kernel
theorem d7_40 : decode jdk_35_method_50_code 40 = .ok (.lstore_n 0, 1) := by decide +kernel
theorem d7_41 : decode jdk_35_method_50_code 41 = .ok (.lload_n 0, 1) := by decide +kernel
theorem d7_42 : decode jdk_35_method_50_code 42 = .ok (.lload_n 0, 1) := by decide +kernel
theorem d7_43 : decode jdk_35_method_50_code 43 = .ok (.bipush 16, 2) := by decide +kernel
theorem d7_45 : decode jdk_35_method_50_code 45 = .ok (.lushr, 1) := by decide +kernel
theorem d7_46 : decode jdk_35_method_50_code 46 = .ok (.ladd, 1) := by decide +kernel
theorem d7_47 : decode jdk_35_method_50_code 47 = .ok (.lstore_n 0, 1) := by decide +kernel
theorem d7_48 : decode jdk_35_method_50_code 48 = .ok (.lload_n 0, 1) := by decide +kernel
theorem d7_49 : decode jdk_35_method_50_code 49 = .ok (.lload_n 0, 1) := by decide +kernel
theorem d7_50 : decode jdk_35_method_50_code 50 = .ok (.bipush 32, 2) := by decide +kernel
theorem d7_52 : decode jdk_35_method_50_code 52 = .ok (.lushr, 1) := by decide +kernel
theorem d7_53 : decode jdk_35_method_50_code 53 = .ok (.ladd, 1) := by decide +kernel
theorem d7_54 : decode jdk_35_method_50_code 54 = .ok (.lstore_n 0, 1) := by decide +kernel
theorem d7_55 : decode jdk_35_method_50_code 55 = .ok (.lload_n 0, 1) := by decide +kernel
theorem d7_56 : decode jdk_35_method_50_code 56 = .ok (.l2i, 1) := by decide +kernel
theorem d7_57 : decode jdk_35_method_50_code 57 = .ok (.bipush 127, 2) := by decide +kernel
theorem d7_59 : decode jdk_35_method_50_code 59 = .ok (.iand, 1) := by decide +kernel
theorem d7_60 : decode jdk_35_method_50_code 60 = .ok (.ireturn, 1) := by decide +kernel
theorem ef_7 (m : MethodId) (q0 : Int64) : entryFrame m #[(.long q0)] 2 = mkF m 0 #[lv q0, sd] [] := by first | (simp [entryFrame, mkF, argsToLocals, Value.category, iv, rv, lv, un, sd]; done) | rfl
def Q7 (Z : State) (q0 : Int64) (h0 : Heap) (n0 : Nat) (v : Option Value) (h : Heap) (L : List Loc) : Prop := v = some (.int (own_bc q0)) ∧ Fr n0 L ∧ h = h0
set_option maxRecDepth 65536 in
set_option maxHeartbeats 40000000 in
theorem rm7 (l : Launch) (Z : State) (a0 : Array Value) (hw : ∀ d ∈ tables_1, d.before a0 Z = true) (ws : List Jvm.Cond) (q0 : Int64) (h0 : Heap) (n0 : Nat) (Z0 : n0 ≤ h0.size) :
    MetFree l (⟨"java/lang/Long", "bitCount", "(J)I"⟩ : MethodName) (head1 (Jvm.Cond.code (⟨"java/lang/Long", "bitCount", "(J)I"⟩ : MethodName) jdk_35_method_50_code 2 (some .int) :: ws) ({ frames := 0, cells := 0, slots := 0, locals := 0 } : Room)) (fun a U => a = #[(.long q0)] ∧ Z.Warmed39 U.vm ∧ U.heap = h0) (fun _ _ _ _ _ => True) (fun _ U o U' => ∃ v L, o = .returned v ∧ Q7 Z q0 h0 n0 v U'.heap L ∧ FrameEnd U o U' L ({ frames := 0, cells := 0, slots := 0, locals := 0 } : Room).cells ({ frames := 0, cells := 0, slots := 0, locals := 0 } : Room).slots) := by
  refine MetFree.of_bodySF (plainFor_of_name pn_7) hisR ?_
  intro p e s m args below meth c s₁ Bd hml0 hP hK
  obtain ⟨rfl, hZ, hh⟩ := hP
  have hx := Bd.exec
  have hby := Bd.bytes
  have hml : c.maxLocals = 2 := hml0
  have hown : s.vm.findClass "java/lang/Long" = some m.cls := findClass_of_methodNamed Bd.named
  have hnm := (name_of_methodNamed Bd.named Bd.method).1
  have X0 : Stand p l e ({ frames := 0, cells := 0, slots := 0, locals := 0 } : Room) s m #[(.long q0)] below meth c s₁ [] 0 0 := Stand.of_body Bd
  have e0 : s₁.heap = h0 := by rw [← hh, Bd.state]; rfl
  have N0 := Fr.nil n0
  suffices HH : ∀ G : Outcome → State → Prop, (∀ v L U', Q7 Z q0 h0 n0 v U'.heap L → FrameEnd s (.returned v) U' L ({ frames := 0, cells := 0, slots := 0, locals := 0 } : Room).cells ({ frames := 0, cells := 0, slots := 0, locals := 0 } : Room).slots → G (.returned v) U') → Go p.tables e below G (s₁.setTop (mkF m 0 #[lv q0, sd] [])) by
    obtain ⟨s2, o, h1, h2, h3, h4⟩ := HH (fun o U' => ∃ v L, o = .returned v ∧ Q7 Z q0 h0 n0 v U'.heap L ∧ FrameEnd s o U' L ({ frames := 0, cells := 0, slots := 0, locals := 0 } : Room).cells ({ frames := 0, cells := 0, slots := 0, locals := 0 } : Room).slots) (fun v L U' q f => ⟨v, L, rfl, q, f⟩)
    exact ⟨s2, o, castTop (ef_7 m q0) h1, h2, h3, h4⟩
  intro G hG
  show Go p.tables e below G (s₁.setTop (mkF m 0 #[lv q0, sd] []))
  refine Go.stp (fun t_ k_ => XS.lloadN X0.here hx rfl (hb hby d7_0) rfl k_) ?_
  show Go p.tables e below G (s₁.setTop (mkF m 1 #[lv q0, sd] [(.long q0)]))
  refine Go.stp (fun t_ k_ => XS.lloadN X0.here hx rfl (hb hby d7_1) rfl k_) ?_
  show Go p.tables e below G (s₁.setTop (mkF m 2 #[lv q0, sd] [(.long q0), (.long q0)]))
  refine Go.stp (fun t_ k_ => XS.iconst X0.here hx rfl (hb hby d7_2) k_) ?_
  show Go p.tables e below G (s₁.setTop (mkF m 3 #[lv q0, sd] [(.int (1 : Int32)), (.long q0), (.long q0)]))
  refine Go.stp (fun t_ k_ => XS.lushr X0.here hx rfl (hb hby d7_3) rfl k_) ?_
  show Go p.tables e below G (s₁.setTop (mkF m 4 #[lv q0, sd] [(.long ((q0.toUInt64 >>> ((1 : Int32) &&& 0x3f).toInt64.toUInt64).toInt64)), (.long q0)]))
  refine Go.stp (fun t_ k_ => X0.ldc2Long hx hown (mvT hZ (hw _ (List.mem_of_getElem? (i := 38) rfl))) (g := (mkF m 4 #[lv q0, sd] [(.long ((q0.toUInt64 >>> ((1 : Int32) &&& 0x3f).toInt64.toUInt64).toInt64)), (.long q0)])) rfl (hb hby d7_4) t_ k_) ?_
  show Go p.tables e below G (s₁.setTop (mkF m 7 #[lv q0, sd] [(.long (6148914691236517205 : Int64)), (.long ((q0.toUInt64 >>> ((1 : Int32) &&& 0x3f).toInt64.toUInt64).toInt64)), (.long q0)]))
  refine Go.stp (fun t_ k_ => XS.land X0.here hx rfl (hb hby d7_7) rfl k_) ?_
  show Go p.tables e below G (s₁.setTop (mkF m 8 #[lv q0, sd] [(.long (((q0.toUInt64 >>> ((1 : Int32) &&& 0x3f).toInt64.toUInt64).toInt64) &&& (6148914691236517205 : Int64))), (.long q0)]))
  refine Go.stp (fun t_ k_ => XS.lsub X0.here hx rfl (hb hby d7_8) rfl k_) ?_
  show Go p.tables e below G (s₁.setTop (mkF m 9 #[lv q0, sd] [(.long (q0 - (((q0.toUInt64 >>> ((1 : Int32) &&& 0x3f).toInt64.toUInt64).toInt64) &&& (6148914691236517205 : Int64))))]))
  refine Go.stp (fun t_ k_ => XS.lstoreN X0.here hx rfl (hb hby d7_9) rfl (l' := #[lv (q0 - (((q0.toUInt64 >>> ((1 : Int32) &&& 0x3f).toInt64.toUInt64).toInt64) &&& (6148914691236517205 : Int64))), sd]) rfl k_) ?_
  show Go p.tables e below G (s₁.setTop (mkF m 10 #[lv (q0 - (((q0.toUInt64 >>> ((1 : Int32) &&& 0x3f).toInt64.toUInt64).toInt64) &&& (6148914691236517205 : Int64))), sd] []))
  suffices K1 : ∀ y1 : Int64, y1 = (q0 - (((q0.toUInt64 >>> ((1 : Int32) &&& 0x3f).toInt64.toUInt64).toInt64) &&& (6148914691236517205 : Int64))) → Go p.tables e below G (s₁.setTop (mkF m 10 #[lv y1, sd] [])) from K1 _ rfl
  intro y1 hy1
  refine Go.stp (fun t_ k_ => XS.lloadN X0.here hx rfl (hb hby d7_10) rfl k_) ?_
  show Go p.tables e below G (s₁.setTop (mkF m 11 #[lv y1, sd] [(.long y1)]))
  refine Go.stp (fun t_ k_ => X0.ldc2Long hx hown (mvT hZ (hw _ (List.mem_of_getElem? (i := 39) rfl))) (g := (mkF m 11 #[lv y1, sd] [(.long y1)])) rfl (hb hby d7_11) t_ k_) ?_
  show Go p.tables e below G (s₁.setTop (mkF m 14 #[lv y1, sd] [(.long (3689348814741910323 : Int64)), (.long y1)]))
  refine Go.stp (fun t_ k_ => XS.land X0.here hx rfl (hb hby d7_14) rfl k_) ?_
  show Go p.tables e below G (s₁.setTop (mkF m 15 #[lv y1, sd] [(.long (y1 &&& (3689348814741910323 : Int64)))]))
  refine Go.stp (fun t_ k_ => XS.lloadN X0.here hx rfl (hb hby d7_15) rfl k_) ?_
  show Go p.tables e below G (s₁.setTop (mkF m 16 #[lv y1, sd] [(.long y1), (.long (y1 &&& (3689348814741910323 : Int64)))]))
  refine Go.stp (fun t_ k_ => XS.iconst X0.here hx rfl (hb hby d7_16) k_) ?_
  show Go p.tables e below G (s₁.setTop (mkF m 17 #[lv y1, sd] [(.int (2 : Int32)), (.long y1), (.long (y1 &&& (3689348814741910323 : Int64)))]))
  refine Go.stp (fun t_ k_ => XS.lushr X0.here hx rfl (hb hby d7_17) rfl k_) ?_
  show Go p.tables e below G (s₁.setTop (mkF m 18 #[lv y1, sd] [(.long ((y1.toUInt64 >>> ((2 : Int32) &&& 0x3f).toInt64.toUInt64).toInt64)), (.long (y1 &&& (3689348814741910323 : Int64)))]))
  refine Go.stp (fun t_ k_ => X0.ldc2Long hx hown (mvT hZ (hw _ (List.mem_of_getElem? (i := 39) rfl))) (g := (mkF m 18 #[lv y1, sd] [(.long ((y1.toUInt64 >>> ((2 : Int32) &&& 0x3f).toInt64.toUInt64).toInt64)), (.long (y1 &&& (3689348814741910323 : Int64)))])) rfl (hb hby d7_18) t_ k_) ?_
  show Go p.tables e below G (s₁.setTop (mkF m 21 #[lv y1, sd] [(.long (3689348814741910323 : Int64)), (.long ((y1.toUInt64 >>> ((2 : Int32) &&& 0x3f).toInt64.toUInt64).toInt64)), (.long (y1 &&& (3689348814741910323 : Int64)))]))
  refine Go.stp (fun t_ k_ => XS.land X0.here hx rfl (hb hby d7_21) rfl k_) ?_
  show Go p.tables e below G (s₁.setTop (mkF m 22 #[lv y1, sd] [(.long (((y1.toUInt64 >>> ((2 : Int32) &&& 0x3f).toInt64.toUInt64).toInt64) &&& (3689348814741910323 : Int64))), (.long (y1 &&& (3689348814741910323 : Int64)))]))
  refine Go.stp (fun t_ k_ => XS.ladd X0.here hx rfl (hb hby d7_22) rfl k_) ?_
  show Go p.tables e below G (s₁.setTop (mkF m 23 #[lv y1, sd] [(.long ((y1 &&& (3689348814741910323 : Int64)) + (((y1.toUInt64 >>> ((2 : Int32) &&& 0x3f).toInt64.toUInt64).toInt64) &&& (3689348814741910323 : Int64))))]))
  refine Go.stp (fun t_ k_ => XS.lstoreN X0.here hx rfl (hb hby d7_23) rfl (l' := #[lv ((y1 &&& (3689348814741910323 : Int64)) + (((y1.toUInt64 >>> ((2 : Int32) &&& 0x3f).toInt64.toUInt64).toInt64) &&& (3689348814741910323 : Int64))), sd]) rfl k_) ?_
  show Go p.tables e below G (s₁.setTop (mkF m 24 #[lv ((y1 &&& (3689348814741910323 : Int64)) + (((y1.toUInt64 >>> ((2 : Int32) &&& 0x3f).toInt64.toUInt64).toInt64) &&& (3689348814741910323 : Int64))), sd] []))
  suffices K2 : ∀ y2 : Int64, y2 = ((y1 &&& (3689348814741910323 : Int64)) + (((y1.toUInt64 >>> ((2 : Int32) &&& 0x3f).toInt64.toUInt64).toInt64) &&& (3689348814741910323 : Int64))) → Go p.tables e below G (s₁.setTop (mkF m 24 #[lv y2, sd] [])) from K2 _ rfl
  intro y2 hy2
  refine Go.stp (fun t_ k_ => XS.lloadN X0.here hx rfl (hb hby d7_24) rfl k_) ?_
  show Go p.tables e below G (s₁.setTop (mkF m 25 #[lv y2, sd] [(.long y2)]))
  refine Go.stp (fun t_ k_ => XS.lloadN X0.here hx rfl (hb hby d7_25) rfl k_) ?_
  show Go p.tables e below G (s₁.setTop (mkF m 26 #[lv y2, sd] [(.long y2), (.long y2)]))
  refine Go.stp (fun t_ k_ => XS.iconst X0.here hx rfl (hb hby d7_26) k_) ?_
  show Go p.tables e below G (s₁.setTop (mkF m 27 #[lv y2, sd] [(.int (4 : Int32)), (.long y2), (.long y2)]))
  refine Go.stp (fun t_ k_ => XS.lushr X0.here hx rfl (hb hby d7_27) rfl k_) ?_
  show Go p.tables e below G (s₁.setTop (mkF m 28 #[lv y2, sd] [(.long ((y2.toUInt64 >>> ((4 : Int32) &&& 0x3f).toInt64.toUInt64).toInt64)), (.long y2)]))
  refine Go.stp (fun t_ k_ => XS.ladd X0.here hx rfl (hb hby d7_28) rfl k_) ?_
  show Go p.tables e below G (s₁.setTop (mkF m 29 #[lv y2, sd] [(.long (y2 + ((y2.toUInt64 >>> ((4 : Int32) &&& 0x3f).toInt64.toUInt64).toInt64)))]))
  refine Go.stp (fun t_ k_ => X0.ldc2Long hx hown (mvT hZ (hw _ (List.mem_of_getElem? (i := 40) rfl))) (g := (mkF m 29 #[lv y2, sd] [(.long (y2 + ((y2.toUInt64 >>> ((4 : Int32) &&& 0x3f).toInt64.toUInt64).toInt64)))])) rfl (hb hby d7_29) t_ k_) ?_
  show Go p.tables e below G (s₁.setTop (mkF m 32 #[lv y2, sd] [(.long (1085102592571150095 : Int64)), (.long (y2 + ((y2.toUInt64 >>> ((4 : Int32) &&& 0x3f).toInt64.toUInt64).toInt64)))]))
  refine Go.stp (fun t_ k_ => XS.land X0.here hx rfl (hb hby d7_32) rfl k_) ?_
  show Go p.tables e below G (s₁.setTop (mkF m 33 #[lv y2, sd] [(.long ((y2 + ((y2.toUInt64 >>> ((4 : Int32) &&& 0x3f).toInt64.toUInt64).toInt64)) &&& (1085102592571150095 : Int64)))]))
  refine Go.stp (fun t_ k_ => XS.lstoreN X0.here hx rfl (hb hby d7_33) rfl (l' := #[lv ((y2 + ((y2.toUInt64 >>> ((4 : Int32) &&& 0x3f).toInt64.toUInt64).toInt64)) &&& (1085102592571150095 : Int64)), sd]) rfl k_) ?_
  show Go p.tables e below G (s₁.setTop (mkF m 34 #[lv ((y2 + ((y2.toUInt64 >>> ((4 : Int32) &&& 0x3f).toInt64.toUInt64).toInt64)) &&& (1085102592571150095 : Int64)), sd] []))
  suffices K3 : ∀ y3 : Int64, y3 = ((y2 + ((y2.toUInt64 >>> ((4 : Int32) &&& 0x3f).toInt64.toUInt64).toInt64)) &&& (1085102592571150095 : Int64)) → Go p.tables e below G (s₁.setTop (mkF m 34 #[lv y3, sd] [])) from K3 _ rfl
  intro y3 hy3
  refine Go.stp (fun t_ k_ => XS.lloadN X0.here hx rfl (hb hby d7_34) rfl k_) ?_
  show Go p.tables e below G (s₁.setTop (mkF m 35 #[lv y3, sd] [(.long y3)]))
  refine Go.stp (fun t_ k_ => XS.lloadN X0.here hx rfl (hb hby d7_35) rfl k_) ?_
  show Go p.tables e below G (s₁.setTop (mkF m 36 #[lv y3, sd] [(.long y3), (.long y3)]))
  refine Go.stp (fun t_ k_ => XS.bipush X0.here hx rfl (hb hby d7_36) k_) ?_
  show Go p.tables e below G (s₁.setTop (mkF m 38 #[lv y3, sd] [(.int (8 : Int32)), (.long y3), (.long y3)]))
  refine Go.stp (fun t_ k_ => XS.lushr X0.here hx rfl (hb hby d7_38) rfl k_) ?_
  show Go p.tables e below G (s₁.setTop (mkF m 39 #[lv y3, sd] [(.long ((y3.toUInt64 >>> ((8 : Int32) &&& 0x3f).toInt64.toUInt64).toInt64)), (.long y3)]))
  refine Go.stp (fun t_ k_ => XS.ladd X0.here hx rfl (hb hby d7_39) rfl k_) ?_
  show Go p.tables e below G (s₁.setTop (mkF m 40 #[lv y3, sd] [(.long (y3 + ((y3.toUInt64 >>> ((8 : Int32) &&& 0x3f).toInt64.toUInt64).toInt64)))]))
  refine Go.stp (fun t_ k_ => XS.lstoreN X0.here hx rfl (hb hby d7_40) rfl (l' := #[lv (y3 + ((y3.toUInt64 >>> ((8 : Int32) &&& 0x3f).toInt64.toUInt64).toInt64)), sd]) rfl k_) ?_
  show Go p.tables e below G (s₁.setTop (mkF m 41 #[lv (y3 + ((y3.toUInt64 >>> ((8 : Int32) &&& 0x3f).toInt64.toUInt64).toInt64)), sd] []))
  suffices K4 : ∀ y4 : Int64, y4 = (y3 + ((y3.toUInt64 >>> ((8 : Int32) &&& 0x3f).toInt64.toUInt64).toInt64)) → Go p.tables e below G (s₁.setTop (mkF m 41 #[lv y4, sd] [])) from K4 _ rfl
  intro y4 hy4
  refine Go.stp (fun t_ k_ => XS.lloadN X0.here hx rfl (hb hby d7_41) rfl k_) ?_
  show Go p.tables e below G (s₁.setTop (mkF m 42 #[lv y4, sd] [(.long y4)]))
  refine Go.stp (fun t_ k_ => XS.lloadN X0.here hx rfl (hb hby d7_42) rfl k_) ?_
  show Go p.tables e below G (s₁.setTop (mkF m 43 #[lv y4, sd] [(.long y4), (.long y4)]))
  refine Go.stp (fun t_ k_ => XS.bipush X0.here hx rfl (hb hby d7_43) k_) ?_
  show Go p.tables e below G (s₁.setTop (mkF m 45 #[lv y4, sd] [(.int (16 : Int32)), (.long y4), (.long y4)]))
  refine Go.stp (fun t_ k_ => XS.lushr X0.here hx rfl (hb hby d7_45) rfl k_) ?_
  show Go p.tables e below G (s₁.setTop (mkF m 46 #[lv y4, sd] [(.long ((y4.toUInt64 >>> ((16 : Int32) &&& 0x3f).toInt64.toUInt64).toInt64)), (.long y4)]))
  refine Go.stp (fun t_ k_ => XS.ladd X0.here hx rfl (hb hby d7_46) rfl k_) ?_
  show Go p.tables e below G (s₁.setTop (mkF m 47 #[lv y4, sd] [(.long (y4 + ((y4.toUInt64 >>> ((16 : Int32) &&& 0x3f).toInt64.toUInt64).toInt64)))]))
  refine Go.stp (fun t_ k_ => XS.lstoreN X0.here hx rfl (hb hby d7_47) rfl (l' := #[lv (y4 + ((y4.toUInt64 >>> ((16 : Int32) &&& 0x3f).toInt64.toUInt64).toInt64)), sd]) rfl k_) ?_
  show Go p.tables e below G (s₁.setTop (mkF m 48 #[lv (y4 + ((y4.toUInt64 >>> ((16 : Int32) &&& 0x3f).toInt64.toUInt64).toInt64)), sd] []))
  suffices K5 : ∀ y5 : Int64, y5 = (y4 + ((y4.toUInt64 >>> ((16 : Int32) &&& 0x3f).toInt64.toUInt64).toInt64)) → Go p.tables e below G (s₁.setTop (mkF m 48 #[lv y5, sd] [])) from K5 _ rfl
  intro y5 hy5
  refine Go.stp (fun t_ k_ => XS.lloadN X0.here hx rfl (hb hby d7_48) rfl k_) ?_
  show Go p.tables e below G (s₁.setTop (mkF m 49 #[lv y5, sd] [(.long y5)]))
  refine Go.stp (fun t_ k_ => XS.lloadN X0.here hx rfl (hb hby d7_49) rfl k_) ?_
  show Go p.tables e below G (s₁.setTop (mkF m 50 #[lv y5, sd] [(.long y5), (.long y5)]))
  refine Go.stp (fun t_ k_ => XS.bipush X0.here hx rfl (hb hby d7_50) k_) ?_
  show Go p.tables e below G (s₁.setTop (mkF m 52 #[lv y5, sd] [(.int (32 : Int32)), (.long y5), (.long y5)]))
  refine Go.stp (fun t_ k_ => XS.lushr X0.here hx rfl (hb hby d7_52) rfl k_) ?_
  show Go p.tables e below G (s₁.setTop (mkF m 53 #[lv y5, sd] [(.long ((y5.toUInt64 >>> ((32 : Int32) &&& 0x3f).toInt64.toUInt64).toInt64)), (.long y5)]))
  refine Go.stp (fun t_ k_ => XS.ladd X0.here hx rfl (hb hby d7_53) rfl k_) ?_
  show Go p.tables e below G (s₁.setTop (mkF m 54 #[lv y5, sd] [(.long (y5 + ((y5.toUInt64 >>> ((32 : Int32) &&& 0x3f).toInt64.toUInt64).toInt64)))]))
  refine Go.stp (fun t_ k_ => XS.lstoreN X0.here hx rfl (hb hby d7_54) rfl (l' := #[lv (y5 + ((y5.toUInt64 >>> ((32 : Int32) &&& 0x3f).toInt64.toUInt64).toInt64)), sd]) rfl k_) ?_
  show Go p.tables e below G (s₁.setTop (mkF m 55 #[lv (y5 + ((y5.toUInt64 >>> ((32 : Int32) &&& 0x3f).toInt64.toUInt64).toInt64)), sd] []))
  suffices K6 : ∀ y6 : Int64, y6 = (y5 + ((y5.toUInt64 >>> ((32 : Int32) &&& 0x3f).toInt64.toUInt64).toInt64)) → Go p.tables e below G (s₁.setTop (mkF m 55 #[lv y6, sd] [])) from K6 _ rfl
  intro y6 hy6
  refine Go.stp (fun t_ k_ => XS.lloadN X0.here hx rfl (hb hby d7_55) rfl k_) ?_
  show Go p.tables e below G (s₁.setTop (mkF m 56 #[lv y6, sd] [(.long y6)]))
  refine Go.stp (fun t_ k_ => XS.l2i X0.here hx rfl (hb hby d7_56) rfl k_) ?_
  show Go p.tables e below G (s₁.setTop (mkF m 57 #[lv y6, sd] [(.int (y6.toInt32))]))
  refine Go.stp (fun t_ k_ => XS.bipush X0.here hx rfl (hb hby d7_57) k_) ?_
  show Go p.tables e below G (s₁.setTop (mkF m 59 #[lv y6, sd] [(.int (127 : Int32)), (.int (y6.toInt32))]))
  refine Go.stp (fun t_ k_ => XS.iand X0.here hx rfl (hb hby d7_59) rfl k_) ?_
  show Go p.tables e below G (s₁.setTop (mkF m 60 #[lv y6, sd] [(.int ((y6.toInt32) &&& (127 : Int32)))]))
  obtain ⟨fs, hr, hrun, hended, hW, hsame⟩ := X0.leave (v := some (.int ((y6.toInt32) &&& (127 : Int32)))) (fun h => by rw [Bd.returns] at h; cases h)
  refine ⟨_, _, retI X0 hx Bd.returns (hb hby d7_60) hr, hrun, hended, hG _ _ _ ?_ ⟨⟨_, rfl⟩, hW, hsame.mono (by decide) (by decide)⟩⟩
  show Q7 Z q0 h0 n0 _ s₁.heap _
  rw [e0]
  exact ⟨by subst hy1 hy2 hy3 hy4 hy5 hy6; rfl, N0, rfl⟩
theorem d2_0 : decode prog_2_method_1_code 0 = .ok (.aload_n 0, 1) := by decide +kernel
theorem d2_1 : decode prog_2_method_1_code 1 = .ok (.invokespecial 3, 3) := by decide +kernel
theorem d2_4 : decode prog_2_method_1_code 4 = .ok (.lload_n 1, 1) := by decide +kernel
theorem d2_5 : decode prog_2_method_1_code 5 = .ok (.invokestatic 9, 3) := by decide +kernel
theorem d2_8 : decode prog_2_method_1_code 8 = .ok (.aload_n 0, 1) := by decide +kernel
theorem d2_9 : decode prog_2_method_1_code 9 = .ok (.lload_n 1, 1) := by decide +kernel
theorem d2_10 : decode prog_2_method_1_code 10 = .ok (.putfield 15, 3) := by decide +kernel
theorem d2_13 : decode prog_2_method_1_code 13 = .ok (.aload_n 0, 1) := by decide +kernel
theorem d2_14 : decode prog_2_method_1_code 14 = .ok (.lload_n 1, 1) := by decide +kernel
theorem d2_15 : decode prog_2_method_1_code 15 = .ok (.invokestatic 19, 3) := by decide +kernel
theorem d2_18 : decode prog_2_method_1_code 18 = .ok (.newarray .long, 2) := by decide +kernel
theorem d2_20 : decode prog_2_method_1_code 20 = .ok (.putfield 23, 3) := by decide +kernel
theorem d2_23 : decode prog_2_method_1_code 23 = .ok (.return_, 1) := by decide +kernel
theorem ef_2 (m : MethodId) (r0 : Addr) (q1 : Int64) : entryFrame m #[(.ref r0), (.long q1)] 3 = mkF m 0 #[rv r0, lv q1, sd] [] := by first | (simp [entryFrame, mkF, argsToLocals, Value.category, iv, rv, lv, un, sd]; done) | rfl
def Q2 (Z : State) (r0 : Addr) (q1 : Int64) (h0 : Heap) (n0 : Nat) (v : Option Value) (h : Heap) (L : List Loc) : Prop := v = none ∧ Fr n0 L ∧ Keep h0 h [r0] ∧ ∃ wa : Addr, n0 ≤ wa ∧ r0 ≠ wa ∧ Exa Z h r0 "com/example/malla/malla/arrays/BitArray" ∧ Fld Z h r0 "com/example/malla/malla/arrays/BitArray" "size" "J" (.long q1) ∧ Fld Z h r0 "com/example/malla/malla/arrays/BitArray" "words" "[J" (.ref wa) ∧ Ia Z h wa .long (own_wc q1).toNatClampNeg Value.long (fun _ => (0 : Int64))
set_option maxRecDepth 65536 in
set_option maxHeartbeats 40000000 in
theorem rm2 (l : Launch) (Z : State) (a0 : Array Value) (hw : ∀ d ∈ tables_1, d.before a0 Z = true) (ws : List Jvm.Cond) (r0 : Addr) (q1 : Int64) (h0 : Heap) (n0 : Nat) (Z0 : n0 ≤ h0.size) (E_r0 : Exa Z h0 r0 "com/example/malla/malla/arrays/BitArray") (F_s : Fld Z h0 r0 "com/example/malla/malla/arrays/BitArray" "size" "J" (.long (0 : Int64))) (F_w : Fld Z h0 r0 "com/example/malla/malla/arrays/BitArray" "words" "[J" .null) (g_r0 : n0 ≤ r0) (b0 : ¬ q1 < (0 : Int64)) (b1 : ¬ (137438952896 : Int64) < q1) (w0 : ¬ own_wc q1 < 0) (w5 : (own_wc q1).toNatClampNeg ≤ 5) :
    MetFree l (⟨"com/example/malla/malla/arrays/BitArray", "<init>", "(J)V"⟩ : MethodName) (head1 (Jvm.Cond.code (⟨"com/example/malla/malla/arrays/BitArray", "<init>", "(J)V"⟩ : MethodName) prog_2_method_1_code 3 none :: ws) ({ frames := 1, cells := 1, slots := 5, locals := 14 } : Room)) (fun a U => a = #[(.ref r0), (.long q1)] ∧ Z.Warmed39 U.vm ∧ U.heap = h0) (fun _ _ _ _ _ => True) (fun _ U o U' => ∃ v L, o = .returned v ∧ Q2 Z r0 q1 h0 n0 v U'.heap L ∧ FrameEnd U o U' L ({ frames := 1, cells := 1, slots := 5, locals := 14 } : Room).cells ({ frames := 1, cells := 1, slots := 5, locals := 14 } : Room).slots) := by
  refine MetFree.of_bodySF (plainFor_of_name pn_4) hisR ?_
  intro p e s m args below meth c s₁ Bd hml0 hP hK
  obtain ⟨rfl, hZ, hh⟩ := hP
  have hx := Bd.exec
  have hby := Bd.bytes
  have hml : c.maxLocals = 3 := hml0
  have hown : s.vm.findClass "com/example/malla/malla/arrays/BitArray" = some m.cls := findClass_of_methodNamed Bd.named
  have hnm := (name_of_methodNamed Bd.named Bd.method).1
  have X0 : Stand p l e ({ frames := 1, cells := 1, slots := 5, locals := 14 } : Room) s m #[(.ref r0), (.long q1)] below meth c s₁ [] 0 0 := Stand.of_body Bd
  have e0 : s₁.heap = h0 := by rw [← hh, Bd.state]; rfl
  have N0 := Fr.nil n0
  suffices HH : ∀ G : Outcome → State → Prop, (∀ v L U', Q2 Z r0 q1 h0 n0 v U'.heap L → FrameEnd s (.returned v) U' L ({ frames := 1, cells := 1, slots := 5, locals := 14 } : Room).cells ({ frames := 1, cells := 1, slots := 5, locals := 14 } : Room).slots → G (.returned v) U') → Go p.tables e below G (s₁.setTop (mkF m 0 #[rv r0, lv q1, sd] [])) by
    obtain ⟨s2, o, h1, h2, h3, h4⟩ := HH (fun o U' => ∃ v L, o = .returned v ∧ Q2 Z r0 q1 h0 n0 v U'.heap L ∧ FrameEnd s o U' L ({ frames := 1, cells := 1, slots := 5, locals := 14 } : Room).cells ({ frames := 1, cells := 1, slots := 5, locals := 14 } : Room).slots) (fun v L U' q f => ⟨v, L, rfl, q, f⟩)
    exact ⟨s2, o, castTop (ef_2 m r0 q1) h1, h2, h3, h4⟩
  intro G hG
  have K0 := Keep.refl h0 [r0]
  show Go p.tables e below G (s₁.setTop (mkF m 0 #[rv r0, lv q1, sd] []))
  refine Go.stp (fun t_ k_ => XS.aloadN X0.here hx rfl (hb hby d2_0) rfl rfl k_) ?_
  show Go p.tables e below G (s₁.setTop (mkF m 1 #[rv r0, lv q1, sd] [(.ref r0)]))
  obtain ⟨T1, X1, e1, st1⟩ := initO X0 hx hZ hown (hw _ (List.mem_of_getElem? (i := 13) rfl)) (hw _ (List.mem_of_getElem? (i := 14) rfl)) (hw _ (List.mem_of_getElem? (i := 15) rfl)) e0 (g := (mkF m 1 #[rv r0, lv q1, sd] [(.ref r0)])) rfl (by rw [hml]; rfl) rfl (hb hby d2_1) (by decide) (W := 0) (by show 2 * 0 + _ ≤ _; exact Nat.le_of_eq rfl) (by decide)
  refine Go.stp (fun t_ k_ => st1 t_ k_) ?_
  show Go p.tables e below G (T1.setTop (mkF m 4 #[rv r0, lv q1, sd] []))
  refine Go.stp (fun t_ k_ => XS.lloadN X1.here hx rfl (hb hby d2_4) rfl k_) ?_
  show Go p.tables e below G (T1.setTop (mkF m 5 #[rv r0, lv q1, sd] [(.long q1)]))
  obtain ⟨_, _, ⟨T2, L2, k2, n2⟩, -, X2, ⟨Lc2, hQ2, l2, y2, z2⟩, st2⟩ := Jvm.LawKit.callS X1 hx (y := (⟨"com/example/malla/malla/arrays/BitArray", "checkSize", "(J)V"⟩ : MethodName)) hown (mvT hZ (hw _ (List.mem_of_getElem? (i := 16) rfl))) (mvT hZ (hw _ (List.mem_of_getElem? (i := 17) rfl))) (mvT hZ (hw _ (List.mem_of_getElem? (i := 9) rfl))) (mvT hZ (hw _ (List.mem_of_getElem? (i := 18) rfl))) (by decide) (backOf (W := 0) (rm4 l Z a0 hw [] q1  h0 n0 Z0 b0 b1) hZ (hw _ (List.mem_of_getElem? (i := 18) rfl)) (hw _ (List.mem_of_getElem? (i := 9) rfl)) (by decide) (by decide)) (g := (mkF m 5 #[rv r0, lv q1, sd] [(.long q1)])) rfl (by rw [hml]; rfl) (argsL := [(.long q1)]) (rest := []) (lenOf pd_1 rfl) rfl (by show 2 * 0 + _ ≤ _; exact Nat.le_of_eq rfl) (hb hby d2_5) (fun _ _ => ⟨rfl, e1, (by decide : 0 + 0 ≤ _), (by decide : 0 + 0 ≤ _)⟩)
  dsimp only [Pt.U, Pt.locs, Pt.cells, Pt.slots] at X2 l2 y2 z2 st2 hQ2
  subst l2 y2 z2
  obtain ⟨rfl, Nq2, e2⟩ := hQ2
  have N2 := Fr.app N0 Nq2
  refine Go.stp (fun t_ k_ => st2 t_ k_) ?_
  show Go p.tables e below G (T2.setTop (mkF m 8 #[rv r0, lv q1, sd] []))
  refine Go.stp (fun t_ k_ => XS.aloadN X2.here hx rfl (hb hby d2_8) rfl rfl k_) ?_
  show Go p.tables e below G (T2.setTop (mkF m 9 #[rv r0, lv q1, sd] [(.ref r0)]))
  refine Go.stp (fun t_ k_ => XS.lloadN X2.here hx rfl (hb hby d2_9) rfl k_) ?_
  show Go p.tables e below G (T2.setTop (mkF m 10 #[rv r0, lv q1, sd] [(.long q1), (.ref r0)]))
  obtain ⟨T3, h3, X3, e3, W3, st3⟩ := putF X2 hx hZ hown (host := "") (Or.inl (hw _ (List.mem_of_getElem? (i := 20) rfl))) Via.refl e2 F_s E_r0 (Or.inr ⟨(hw _ (List.mem_of_getElem? (i := 21) rfl)), rfl, hnm⟩) (hw _ (List.mem_of_getElem? (i := 8) rfl)) (ty := .long) (by decide) rfl rfl (g := (mkF m 10 #[rv r0, lv q1, sd] [(.long q1), (.ref r0)])) rfl rfl (hb hby d2_10)
  have f4 : Fld Z h3 r0 "com/example/malla/malla/arrays/BitArray" "size" "J" (.long q1) := F_s.same W3
  have f5 : Exa Z h3 r0 "com/example/malla/malla/arrays/BitArray" := E_r0.wr W3
  have f6 : Fld Z h3 r0 "com/example/malla/malla/arrays/BitArray" "words" "[J" .null := F_w.other W3 (Or.inr (slot_ne (Or.inr (hw _ (List.mem_of_getElem? (i := 28) rfl))) (Or.inr (hw _ (List.mem_of_getElem? (i := 21) rfl))) (by decide) (t := (.array .long)) (t' := .long) (by decide) (by decide)))
  have N3 := Fr.snoc X3 N2 g_r0
  have K3 := K0.wr W3 (Or.inl (List.mem_of_getElem? (i := 0) rfl))
  have Z3 : n0 ≤ h3.size := Nat.le_trans Z0 (Keep.of_wr W3).1
  refine Go.stp (fun t_ k_ => st3 t_ k_) ?_
  show Go p.tables e below G (T3.setTop (mkF m 13 #[rv r0, lv q1, sd] []))
  refine Go.stp (fun t_ k_ => XS.aloadN X3.here hx rfl (hb hby d2_13) rfl rfl k_) ?_
  show Go p.tables e below G (T3.setTop (mkF m 14 #[rv r0, lv q1, sd] [(.ref r0)]))
  refine Go.stp (fun t_ k_ => XS.lloadN X3.here hx rfl (hb hby d2_14) rfl k_) ?_
  show Go p.tables e below G (T3.setTop (mkF m 15 #[rv r0, lv q1, sd] [(.long q1), (.ref r0)]))
  obtain ⟨_, _, ⟨T7, L7, k7, n7⟩, -, X7, ⟨Lc7, hQ7, l7, y7, z7⟩, st7⟩ := Jvm.LawKit.callS X3 hx (y := (⟨"com/example/malla/malla/arrays/BitArray", "wordCount", "(J)I"⟩ : MethodName)) hown (mvT hZ (hw _ (List.mem_of_getElem? (i := 22) rfl))) (mvT hZ (hw _ (List.mem_of_getElem? (i := 23) rfl))) (mvT hZ (hw _ (List.mem_of_getElem? (i := 9) rfl))) (mvT hZ (hw _ (List.mem_of_getElem? (i := 24) rfl))) (by decide) (backOf (W := 1) (rm5 l Z a0 hw [] q1  h3 n0 Z3 ) hZ (hw _ (List.mem_of_getElem? (i := 24) rfl)) (hw _ (List.mem_of_getElem? (i := 9) rfl)) (by decide) (by decide)) (g := (mkF m 15 #[rv r0, lv q1, sd] [(.long q1), (.ref r0)])) rfl (by rw [hml]; rfl) (argsL := [(.long q1)]) (rest := [(.ref r0)]) (lenOf pd_2 rfl) rfl (by show 2 * 0 + _ ≤ _; exact Nat.le_of_eq rfl) (hb hby d2_15) (fun _ _ => ⟨rfl, e3, (by decide : 0 + 0 ≤ _), (by decide : 0 + 0 ≤ _)⟩)
  dsimp only [Pt.U, Pt.locs, Pt.cells, Pt.slots] at X7 l7 y7 z7 st7 hQ7
  subst l7 y7 z7
  obtain ⟨rfl, Nq7, e7⟩ := hQ7
  have N7 := Fr.app N3 Nq7
  refine Go.stp (fun t_ k_ => st7 t_ k_) ?_
  show Go p.tables e below G (T7.setTop (mkF m 18 #[rv r0, lv q1, sd] [(.int (own_wc q1)), (.ref r0)]))
  obtain ⟨T8, h8, k8, X8, e8, E8, A8, st8⟩ := newP X7 hx hZ (hw _ (List.mem_of_getElem? (i := 26) rfl)) e7 (g := (mkF m 18 #[rv r0, lv q1, sd] [(.int (own_wc q1)), (.ref r0)])) rfl (hb hby d2_18) rfl w0 (cap := 5) w5 (by decide) (by decide) (by decide)
  obtain ⟨b8, g8⟩ : ∃ z, z = h3.size := ⟨_, rfl⟩
  rw [← g8] at A8 st8
  have u9 : r0 ≠ b8 := Nat.ne_of_lt (Nat.lt_of_lt_of_le f5.lt (Nat.le_of_eq g8.symm))
  have g_b8 : n0 ≤ b8 := Nat.le_trans Z3 (Nat.le_of_eq g8.symm)
  have sz_b8 : h0.size ≤ b8 := Nat.le_trans K3.1 (Nat.le_of_eq g8.symm)
  have f10 : Exa Z h8 r0 "com/example/malla/malla/arrays/BitArray" := f5.ext E8
  have f11 : Fld Z h8 r0 "com/example/malla/malla/arrays/BitArray" "words" "[J" .null := f6.ext E8
  have f12 : Fld Z h8 r0 "com/example/malla/malla/arrays/BitArray" "size" "J" (.long q1) := f4.ext E8
  have Z8 : n0 ≤ h8.size := Nat.le_trans Z3 E8.1
  have K8 := K3.ext E8
  have f13 : Ia Z h8 b8 .long (own_wc q1).toNatClampNeg Value.long (fun _ => (0 : Int64)) := Ia.new A8 rfl (Nat.lt_of_le_of_lt w5 (by decide)) rfl
  refine Go.stp (fun t_ k_ => st8 t_ k_) ?_
  show Go p.tables e below G (T8.setTop (mkF m 20 #[rv r0, lv q1, sd] [(.ref b8), (.ref r0)]))
  obtain ⟨T14, h14, X14, e14, W14, st14⟩ := putF X8 hx hZ hown (host := "") (Or.inl (hw _ (List.mem_of_getElem? (i := 27) rfl))) Via.refl e8 f11 f10 (Or.inr ⟨(hw _ (List.mem_of_getElem? (i := 28) rfl)), rfl, hnm⟩) (hw _ (List.mem_of_getElem? (i := 8) rfl)) (ty := (.array .long)) (by decide) rfl rfl (g := (mkF m 20 #[rv r0, lv q1, sd] [(.ref b8), (.ref r0)])) rfl rfl (hb hby d2_20)
  have f15 : Fld Z h14 r0 "com/example/malla/malla/arrays/BitArray" "words" "[J" (.ref b8) := f11.same W14
  have f16 : Exa Z h14 r0 "com/example/malla/malla/arrays/BitArray" := f10.wr W14
  have f17 : Fld Z h14 r0 "com/example/malla/malla/arrays/BitArray" "size" "J" (.long q1) := f12.other W14 (Or.inr (slot_ne (Or.inr (hw _ (List.mem_of_getElem? (i := 21) rfl))) (Or.inr (hw _ (List.mem_of_getElem? (i := 28) rfl))) (by decide) (t := .long) (t' := (.array .long)) (by decide) (by decide)))
  have f18 : Ia Z h14 b8 .long (own_wc q1).toNatClampNeg Value.long (fun _ => (0 : Int64)) := f13.other W14 (Ne.symm u9)
  have N14 := Fr.snoc X14 N7 g_r0
  have K14 := K8.wr W14 (Or.inl (List.mem_of_getElem? (i := 0) rfl))
  have Z14 : n0 ≤ h14.size := Nat.le_trans Z8 (Keep.of_wr W14).1
  refine Go.stp (fun t_ k_ => st14 t_ k_) ?_
  show Go p.tables e below G (T14.setTop (mkF m 23 #[rv r0, lv q1, sd] []))
  obtain ⟨fs, hr, hrun, hended, hW, hsame⟩ := X14.leave (v := none) (fun _ => rfl)
  refine ⟨_, _, X14.returnOut hx Bd.returns (hb hby d2_23) hr, hrun, hended, hG _ _ _ ?_ ⟨⟨_, rfl⟩, hW, hsame.mono (by decide) (by decide)⟩⟩
  show Q2 Z r0 q1 h0 n0 _ T14.heap _
  rw [e14]
  exact ⟨rfl, N14, K14, b8, g_b8, u9, f16, f17, f15, f18⟩
theorem d6_0 : decode prog_2_method_9_code 0 = .ok (.lconst 0, 1) := by decide +kernel
theorem d6_1 : decode prog_2_method_9_code 1 = .ok (.lstore_n 1, 1) := by decide +kernel
theorem d6_2 : decode prog_2_method_9_code 2 = .ok (.aload_n 0, 1) := by decide +kernel
theorem d6_3 : decode prog_2_method_9_code 3 = .ok (.getfield 23, 3) := by decide +kernel
theorem d6_6 : decode prog_2_method_9_code 6 = .ok (.astore_n 3, 1) := by decide +kernel
theorem d6_7 : decode prog_2_method_9_code 7 = .ok (.aload_n 3, 1) := by decide +kernel
theorem d6_8 : decode prog_2_method_9_code 8 = .ok (.arraylength, 1) := by decide +kernel
theorem d6_9 : decode prog_2_method_9_code 9 = .ok (.istore 4, 2) := by decide +kernel
theorem d6_11 : decode prog_2_method_9_code 11 = .ok (.iconst 0, 1) := by decide +kernel
theorem d6_12 : decode prog_2_method_9_code 12 = .ok (.istore 5, 2) := by decide +kernel
theorem d6_14 : decode prog_2_method_9_code 14 = .ok (.iload 5, 2) := by decide +kernel
theorem d6_16 : decode prog_2_method_9_code 16 = .ok (.iload 4, 2) := by decide +kernel
theorem d6_18 : decode prog_2_method_9_code 18 = .ok (.if_icmp .ge 24, 3) := by decide +kernel
theorem d6_21 : decode prog_2_method_9_code 21 = .ok (.aload_n 3, 1) := by decide +kernel
theorem d6_22 : decode prog_2_method_9_code 22 = .ok (.iload 5, 2) := by decide +kernel
theorem d6_24 : decode prog_2_method_9_code 24 = .ok (.laload, 1) := by decide +kernel
theorem d6_25 : decode prog_2_method_9_code 25 = .ok (.lstore 6, 2) := by decide +kernel
theorem d6_27 : decode prog_2_method_9_code 27 = .ok (.lload_n 1, 1) := by decide +kernel
theorem d6_28 : decode prog_2_method_9_code 28 = .ok (.lload 6, 2) := by decide +kernel
theorem d6_30 : decode prog_2_method_9_code 30 = .ok (.invokestatic 41, 3) := by decide +kernel
theorem d6_33 : decode prog_2_method_9_code 33 = .ok (.i2l, 1) := by decide +kernel
theorem d6_34 : decode prog_2_method_9_code 34 = .ok (.ladd, 1) := by decide +kernel
theorem d6_35 : decode prog_2_method_9_code 35 = .ok (.lstore_n 1, 1) := by decide +kernel
theorem d6_36 : decode prog_2_method_9_code 36 = .ok (.iinc 5 1, 3) := by decide +kernel
theorem d6_39 : decode prog_2_method_9_code 39 = .ok (.goto (-25), 3) := by decide +kernel
theorem d6_42 : decode prog_2_method_9_code 42 = .ok (.lload_n 1, 1) := by decide +kernel
theorem d6_43 : decode prog_2_method_9_code 43 = .ok (.lreturn, 1) := by decide +kernel
theorem ef_6 (m : MethodId) (r0 : Addr) : entryFrame m #[(.ref r0)] 8 = mkF m 0 #[rv r0, un, un, un, un, un, un, un] [] := by first | (simp [entryFrame, mkF, argsToLocals, Value.category, iv, rv, lv, un, sd]; done) | rfl
def Q6 (Z : State) (r0 : Addr) (wa : Addr) (nw : Nat) (W : Nat → Int64) (h0 : Heap) (n0 : Nat) (v : Option Value) (h : Heap) (L : List Loc) : Prop := v = some (.long (own_sum W nw)) ∧ Fr n0 L ∧ h = h0
set_option maxRecDepth 65536 in
set_option maxHeartbeats 40000000 in
theorem rm6 (l : Launch) (Z : State) (a0 : Array Value) (hw : ∀ d ∈ tables_1, d.before a0 Z = true) (ws : List Jvm.Cond) (r0 : Addr) (wa : Addr) (nw : Nat) (W : Nat → Int64) (h0 : Heap) (n0 : Nat) (Z0 : n0 ≤ h0.size) (F_w : Fld Z h0 r0 "com/example/malla/malla/arrays/BitArray" "words" "[J" (.ref wa)) (I_w : Ia Z h0 wa .long nw Value.long W) (hn : nw ≤ 5) :
    MetFree l (⟨"com/example/malla/malla/arrays/BitArray", "bitCount", "()J"⟩ : MethodName) (head1 (Jvm.Cond.code (⟨"com/example/malla/malla/arrays/BitArray", "bitCount", "()J"⟩ : MethodName) prog_2_method_9_code 8 (some .long) :: ws) ({ frames := 1, cells := 0, slots := 0, locals := 15 } : Room)) (fun a U => a = #[(.ref r0)] ∧ Z.Warmed39 U.vm ∧ U.heap = h0) (fun _ _ _ _ _ => True) (fun _ U o U' => ∃ v L, o = .returned v ∧ Q6 Z r0 wa nw W h0 n0 v U'.heap L ∧ FrameEnd U o U' L ({ frames := 1, cells := 0, slots := 0, locals := 15 } : Room).cells ({ frames := 1, cells := 0, slots := 0, locals := 15 } : Room).slots) := by
  refine MetFree.of_bodySF (plainFor_of_name pn_4) hisR ?_
  intro p e s m args below meth c s₁ Bd hml0 hP hK
  obtain ⟨rfl, hZ, hh⟩ := hP
  have hx := Bd.exec
  have hby := Bd.bytes
  have hml : c.maxLocals = 8 := hml0
  have hown : s.vm.findClass "com/example/malla/malla/arrays/BitArray" = some m.cls := findClass_of_methodNamed Bd.named
  have hnm := (name_of_methodNamed Bd.named Bd.method).1
  have X0 : Stand p l e ({ frames := 1, cells := 0, slots := 0, locals := 15 } : Room) s m #[(.ref r0)] below meth c s₁ [] 0 0 := Stand.of_body Bd
  have e0 : s₁.heap = h0 := by rw [← hh, Bd.state]; rfl
  have N0 := Fr.nil n0
  suffices HH : ∀ G : Outcome → State → Prop, (∀ v L U', Q6 Z r0 wa nw W h0 n0 v U'.heap L → FrameEnd s (.returned v) U' L ({ frames := 1, cells := 0, slots := 0, locals := 15 } : Room).cells ({ frames := 1, cells := 0, slots := 0, locals := 15 } : Room).slots → G (.returned v) U') → Go p.tables e below G (s₁.setTop (mkF m 0 #[rv r0, un, un, un, un, un, un, un] [])) by
    obtain ⟨s2, o, h1, h2, h3, h4⟩ := HH (fun o U' => ∃ v L, o = .returned v ∧ Q6 Z r0 wa nw W h0 n0 v U'.heap L ∧ FrameEnd s o U' L ({ frames := 1, cells := 0, slots := 0, locals := 15 } : Room).cells ({ frames := 1, cells := 0, slots := 0, locals := 15 } : Room).slots) (fun v L U' q f => ⟨v, L, rfl, q, f⟩)
    exact ⟨s2, o, castTop (ef_6 m r0) h1, h2, h3, h4⟩
  intro G hG
  show Go p.tables e below G (s₁.setTop (mkF m 0 #[rv r0, un, un, un, un, un, un, un] []))
  refine Go.stp (fun t_ k_ => XS.lconst X0.here hx rfl (hb hby d6_0) k_) ?_
  show Go p.tables e below G (s₁.setTop (mkF m 1 #[rv r0, un, un, un, un, un, un, un] [(.long (0 : Int64))]))
  refine Go.stp (fun t_ k_ => XS.lstoreN X0.here hx rfl (hb hby d6_1) rfl (l' := #[rv r0, lv (0 : Int64), sd, un, un, un, un, un]) rfl k_) ?_
  show Go p.tables e below G (s₁.setTop (mkF m 2 #[rv r0, lv (0 : Int64), sd, un, un, un, un, un] []))
  refine Go.stp (fun t_ k_ => XS.aloadN X0.here hx rfl (hb hby d6_2) rfl rfl k_) ?_
  show Go p.tables e below G (s₁.setTop (mkF m 3 #[rv r0, lv (0 : Int64), sd, un, un, un, un, un] [(.ref r0)]))
  obtain ⟨T1, X1, e1, st1⟩ := getF X0 hx hZ hown (host := "") (Or.inl (hw _ (List.mem_of_getElem? (i := 27) rfl))) Via.refl e0 F_w (g := (mkF m 3 #[rv r0, lv (0 : Int64), sd, un, un, un, un, un] [(.ref r0)])) rfl rfl (hb hby d6_3)
  refine Go.stp (fun t_ k_ => st1 t_ k_) ?_
  show Go p.tables e below G (T1.setTop (mkF m 6 #[rv r0, lv (0 : Int64), sd, un, un, un, un, un] [(.ref wa)]))
  refine Go.stp (fun t_ k_ => XS.astoreN X1.here hx rfl (hb hby d6_6) rfl rfl (l' := #[rv r0, lv (0 : Int64), sd, rv wa, un, un, un, un]) rfl k_) ?_
  show Go p.tables e below G (T1.setTop (mkF m 7 #[rv r0, lv (0 : Int64), sd, rv wa, un, un, un, un] []))
  refine Go.stp (fun t_ k_ => XS.aloadN X1.here hx rfl (hb hby d6_7) rfl rfl k_) ?_
  show Go p.tables e below G (T1.setTop (mkF m 8 #[rv r0, lv (0 : Int64), sd, rv wa, un, un, un, un] [(.ref wa)]))
  obtain ⟨cl2, Ar2, Sz2, -, -⟩ := id I_w
  refine Go.stp (fun t_ k_ => X1.arraylength hx (by rw [e1]; exact Ar2.1) (State.isArrayOf_alike hZ.alike Ar2.2.1) (g := (mkF m 8 #[rv r0, lv (0 : Int64), sd, rv wa, un, un, un, un] [(.ref wa)])) rfl rfl (hb hby d6_8) t_ k_) ?_
  rw [Sz2]
  show Go p.tables e below G (T1.setTop (mkF m 9 #[rv r0, lv (0 : Int64), sd, rv wa, un, un, un, un] [(.int (Nat.toInt32 nw))]))
  refine Go.stp (fun t_ k_ => XS.istore X1.here hx rfl (hb hby d6_9) rfl (l' := #[rv r0, lv (0 : Int64), sd, rv wa, iv (Nat.toInt32 nw), un, un, un]) rfl k_) ?_
  show Go p.tables e below G (T1.setTop (mkF m 11 #[rv r0, lv (0 : Int64), sd, rv wa, iv (Nat.toInt32 nw), un, un, un] []))
  refine Go.stp (fun t_ k_ => XS.iconst X1.here hx rfl (hb hby d6_11) k_) ?_
  show Go p.tables e below G (T1.setTop (mkF m 12 #[rv r0, lv (0 : Int64), sd, rv wa, iv (Nat.toInt32 nw), un, un, un] [(.int (0 : Int32))]))
  refine Go.stp (fun t_ k_ => XS.istore X1.here hx rfl (hb hby d6_12) rfl (l' := #[rv r0, lv (0 : Int64), sd, rv wa, iv (Nat.toInt32 nw), iv (0 : Int32), un, un]) rfl k_) ?_
  show Go p.tables e below G (T1.setTop (mkF m 14 #[rv r0, lv (0 : Int64), sd, rv wa, iv (Nat.toInt32 nw), iv (0 : Int32), un, un] []))
  show Go p.tables e below G (T1.setTop (mkF m 14 #[.val (.ref r0), .val (.long (own_sum W 0)), .second, .val (.ref wa), .val (.int (Nat.toInt32 nw)), .val (.int (own_i 0)), .unset, .unset] []))
  suffices LP : ∀ (k : Nat) (T : State) (locs : List Loc) (u : Nat) (s6 : Slot) (s7 : Slot), Stand p l e ({ frames := 1, cells := 0, slots := 0, locals := 15 } : Room) s m #[(.ref r0)] below meth c T locs 0 0 → Fr n0 locs → T.heap = h0 → (u + k = nw) → ((s6 = .unset ∧ s7 = .unset) ∨ ∃ z : Int64, s6 = .val (.long z) ∧ s7 = .second) → Go p.tables e below G (T.setTop (mkF m 14 #[rv r0, lv (own_sum W u), sd, rv wa, iv (Nat.toInt32 nw), iv (own_i u), s6, s7] [])) from LP (nw) _ _ (0) (.unset) (.unset) X1 N0 e1 (by omega) (Or.inl ⟨rfl, rfl⟩)
  intro k
  induction k with
  | zero =>
    intro T locs u s6 s7 X N E hu hs67
    obtain rfl : nw = u := by omega
    show Go p.tables e below G (T.setTop (mkF m 14 #[rv r0, lv (own_sum W nw), sd, rv wa, iv (Nat.toInt32 nw), iv (own_i nw), s6, s7] []))
    refine Go.stp (fun t_ k_ => XS.iload X.here hx rfl (hb hby d6_14) rfl k_) ?_
    show Go p.tables e below G (T.setTop (mkF m 16 #[rv r0, lv (own_sum W nw), sd, rv wa, iv (Nat.toInt32 nw), iv (own_i nw), s6, s7] [(.int (own_i nw))]))
    refine Go.stp (fun t_ k_ => XS.iload X.here hx rfl (hb hby d6_16) rfl k_) ?_
    show Go p.tables e below G (T.setTop (mkF m 18 #[rv r0, lv (own_sum W nw), sd, rv wa, iv (Nat.toInt32 nw), iv (own_i nw), s6, s7] [(.int (Nat.toInt32 nw)), (.int (own_i nw))]))
    have hd18 : ¬ ((own_i nw) < (Nat.toInt32 nw)) := (by rw [own_n32 nw (by omega)]; exact Int32.lt_irrefl)
    refine Go.stp (fun t_ k_ => XS.icmpYes X.here hx rfl (pc0 := 18) (pc' := 42) rfl (hb hby d6_18) rfl (flt hd18).2.1 (by decide) (by decide) k_) ?_
    show Go p.tables e below G (T.setTop (mkF m 42 #[rv r0, lv (own_sum W nw), sd, rv wa, iv (Nat.toInt32 nw), iv (own_i nw), s6, s7] []))
    refine Go.stp (fun t_ k_ => XS.lloadN X.here hx rfl (hb hby d6_42) rfl k_) ?_
    show Go p.tables e below G (T.setTop (mkF m 43 #[rv r0, lv (own_sum W nw), sd, rv wa, iv (Nat.toInt32 nw), iv (own_i nw), s6, s7] [(.long (own_sum W nw))]))
    obtain ⟨fs, hr, hrun, hended, hW, hsame⟩ := X.leave (v := some (.long (own_sum W nw))) (fun h => by rw [Bd.returns] at h; cases h)
    refine ⟨_, _, retL X hx Bd.returns (hb hby d6_43) hr, hrun, hended, hG _ _ _ ?_ ⟨⟨_, rfl⟩, hW, hsame.mono (by decide) (by decide)⟩⟩
    show Q6 Z r0 wa nw W h0 n0 _ T.heap _
    rw [E]
    exact ⟨rfl, N, rfl⟩
  | succ k ih =>
    intro T locs u s6 s7 X N E hu hs67
    show Go p.tables e below G (T.setTop (mkF m 14 #[rv r0, lv (own_sum W u), sd, rv wa, iv (Nat.toInt32 nw), iv (own_i u), s6, s7] []))
    refine Go.stp (fun t_ k_ => XS.iload X.here hx rfl (hb hby d6_14) rfl k_) ?_
    show Go p.tables e below G (T.setTop (mkF m 16 #[rv r0, lv (own_sum W u), sd, rv wa, iv (Nat.toInt32 nw), iv (own_i u), s6, s7] [(.int (own_i u))]))
    refine Go.stp (fun t_ k_ => XS.iload X.here hx rfl (hb hby d6_16) rfl k_) ?_
    show Go p.tables e below G (T.setTop (mkF m 18 #[rv r0, lv (own_sum W u), sd, rv wa, iv (Nat.toInt32 nw), iv (own_i u), s6, s7] [(.int (Nat.toInt32 nw)), (.int (own_i u))]))
    have hd18 : (own_i u) < (Nat.toInt32 nw) := (own_lt u nw (by omega) (by omega))
    refine Go.stp (fun t_ k_ => XS.icmpNo X.here hx rfl (hb hby d6_18) rfl (tlt hd18).2.1 k_) ?_
    show Go p.tables e below G (T.setTop (mkF m 21 #[rv r0, lv (own_sum W u), sd, rv wa, iv (Nat.toInt32 nw), iv (own_i u), s6, s7] []))
    refine Go.stp (fun t_ k_ => XS.aloadN X.here hx rfl (hb hby d6_21) rfl rfl k_) ?_
    show Go p.tables e below G (T.setTop (mkF m 22 #[rv r0, lv (own_sum W u), sd, rv wa, iv (Nat.toInt32 nw), iv (own_i u), s6, s7] [(.ref wa)]))
    refine Go.stp (fun t_ k_ => XS.iload X.here hx rfl (hb hby d6_22) rfl k_) ?_
    show Go p.tables e below G (T.setTop (mkF m 24 #[rv r0, lv (own_sum W u), sd, rv wa, iv (Nat.toInt32 nw), iv (own_i u), s6, s7] [(.int (own_i u)), (.ref wa)]))
    obtain ⟨cl3, Ar3, Sz3, -, Hs3⟩ := id I_w
    have ib3 : 0 ≤ ((own_i u)).toInt ∧ ((own_i u)).toInt < ((nw : Nat) : Int) := (by rw [own_iv u (by omega)]; omega)
    refine Go.stp (fun t_ k_ => X.laload hx (j := (own_i u)) (v := (Value.long (W ((own_i u)).toNatClampNeg))) (by rw [E]; exact Ar3.1) (State.isArrayOf_alike hZ.alike Ar3.2.1) Ar3.2.2 (in_of Sz3 ib3) (Hs3 _ (at_of ib3)) (g := (mkF m 24 #[rv r0, lv (own_sum W u), sd, rv wa, iv (Nat.toInt32 nw), iv (own_i u), s6, s7] [(.int (own_i u)), (.ref wa)])) rfl rfl (hb hby d6_24) t_ k_) ?_
    show Go p.tables e below G (T.setTop (mkF m 25 #[rv r0, lv (own_sum W u), sd, rv wa, iv (Nat.toInt32 nw), iv (own_i u), s6, s7] [(.long (W ((own_i u)).toNatClampNeg))]))
    refine Go.stp (fun t_ k_ => XS.lstore X.here hx rfl (hb hby d6_25) rfl (l' := #[rv r0, lv (own_sum W u), sd, rv wa, iv (Nat.toInt32 nw), iv (own_i u), lv (W ((own_i u)).toNatClampNeg), sd]) (own_st hs67) k_) ?_
    show Go p.tables e below G (T.setTop (mkF m 27 #[rv r0, lv (own_sum W u), sd, rv wa, iv (Nat.toInt32 nw), iv (own_i u), lv (W ((own_i u)).toNatClampNeg), sd] []))
    refine Go.stp (fun t_ k_ => XS.lloadN X.here hx rfl (hb hby d6_27) rfl k_) ?_
    show Go p.tables e below G (T.setTop (mkF m 28 #[rv r0, lv (own_sum W u), sd, rv wa, iv (Nat.toInt32 nw), iv (own_i u), lv (W ((own_i u)).toNatClampNeg), sd] [(.long (own_sum W u))]))
    refine Go.stp (fun t_ k_ => XS.lload X.here hx rfl (hb hby d6_28) rfl k_) ?_
    show Go p.tables e below G (T.setTop (mkF m 30 #[rv r0, lv (own_sum W u), sd, rv wa, iv (Nat.toInt32 nw), iv (own_i u), lv (W ((own_i u)).toNatClampNeg), sd] [(.long (W ((own_i u)).toNatClampNeg)), (.long (own_sum W u))]))
    obtain ⟨_, _, ⟨T4, L4, k4, n4⟩, -, X4, ⟨Lc4, hQ4, l4, y4, z4⟩, st4⟩ := Jvm.LawKit.callS X hx (y := (⟨"java/lang/Long", "bitCount", "(J)I"⟩ : MethodName)) hown (mvT hZ (hw _ (List.mem_of_getElem? (i := 34) rfl))) (mvT hZ (hw _ (List.mem_of_getElem? (i := 35) rfl))) (mvT hZ (hw _ (List.mem_of_getElem? (i := 36) rfl))) (mvT hZ (hw _ (List.mem_of_getElem? (i := 37) rfl))) (by decide) (backOf (W := 2) (rm7 l Z a0 hw [] (W ((own_i u)).toNatClampNeg)  h0 n0 Z0 ) hZ (hw _ (List.mem_of_getElem? (i := 37) rfl)) (hw _ (List.mem_of_getElem? (i := 36) rfl)) (by decide) (by decide)) (g := (mkF m 30 #[rv r0, lv (own_sum W u), sd, rv wa, iv (Nat.toInt32 nw), iv (own_i u), lv (W ((own_i u)).toNatClampNeg), sd] [(.long (W ((own_i u)).toNatClampNeg)), (.long (own_sum W u))])) rfl (by rw [hml]; rfl) (argsL := [(.long (W ((own_i u)).toNatClampNeg))]) (rest := [(.long (own_sum W u))]) (lenOf pd_2 rfl) rfl (by show 2 * 0 + _ ≤ _; exact Nat.le_of_eq rfl) (hb hby d6_30) (fun _ _ => ⟨rfl, E, (by decide : 0 + 0 ≤ _), (by decide : 0 + 0 ≤ _)⟩)
    dsimp only [Pt.U, Pt.locs, Pt.cells, Pt.slots] at X4 l4 y4 z4 st4 hQ4
    subst l4 y4 z4
    obtain ⟨rfl, Nq4, e4⟩ := hQ4
    have N4 := Fr.app N Nq4
    refine Go.stp (fun t_ k_ => st4 t_ k_) ?_
    show Go p.tables e below G (T4.setTop (mkF m 33 #[rv r0, lv (own_sum W u), sd, rv wa, iv (Nat.toInt32 nw), iv (own_i u), lv (W ((own_i u)).toNatClampNeg), sd] [(.int (own_bc (W ((own_i u)).toNatClampNeg))), (.long (own_sum W u))]))
    refine Go.stp (fun t_ k_ => XS.i2l X4.here hx rfl (hb hby d6_33) rfl k_) ?_
    show Go p.tables e below G (T4.setTop (mkF m 34 #[rv r0, lv (own_sum W u), sd, rv wa, iv (Nat.toInt32 nw), iv (own_i u), lv (W ((own_i u)).toNatClampNeg), sd] [(.long ((own_bc (W ((own_i u)).toNatClampNeg)).toInt64)), (.long (own_sum W u))]))
    refine Go.stp (fun t_ k_ => XS.ladd X4.here hx rfl (hb hby d6_34) rfl k_) ?_
    show Go p.tables e below G (T4.setTop (mkF m 35 #[rv r0, lv (own_sum W u), sd, rv wa, iv (Nat.toInt32 nw), iv (own_i u), lv (W ((own_i u)).toNatClampNeg), sd] [(.long ((own_sum W u) + ((own_bc (W ((own_i u)).toNatClampNeg)).toInt64)))]))
    refine Go.stp (fun t_ k_ => XS.lstoreN X4.here hx rfl (hb hby d6_35) rfl (l' := #[rv r0, lv ((own_sum W u) + ((own_bc (W ((own_i u)).toNatClampNeg)).toInt64)), sd, rv wa, iv (Nat.toInt32 nw), iv (own_i u), lv (W ((own_i u)).toNatClampNeg), sd]) rfl k_) ?_
    show Go p.tables e below G (T4.setTop (mkF m 36 #[rv r0, lv ((own_sum W u) + ((own_bc (W ((own_i u)).toNatClampNeg)).toInt64)), sd, rv wa, iv (Nat.toInt32 nw), iv (own_i u), lv (W ((own_i u)).toNatClampNeg), sd] []))
    refine Go.stp (fun t_ k_ => XS.iinc X4.here hx rfl (hb hby d6_36) rfl (l' := #[rv r0, lv ((own_sum W u) + ((own_bc (W ((own_i u)).toNatClampNeg)).toInt64)), sd, rv wa, iv (Nat.toInt32 nw), iv ((own_i u) + (1 : Int32)), lv (W ((own_i u)).toNatClampNeg), sd]) rfl k_) ?_
    show Go p.tables e below G (T4.setTop (mkF m 39 #[rv r0, lv ((own_sum W u) + ((own_bc (W ((own_i u)).toNatClampNeg)).toInt64)), sd, rv wa, iv (Nat.toInt32 nw), iv ((own_i u) + (1 : Int32)), lv (W ((own_i u)).toNatClampNeg), sd] []))
    refine Go.stp (fun t_ k_ => XS.goto X4.here hx rfl (pc0 := 39) (pc' := 14) rfl (hb hby d6_39) (by decide) (by decide) k_) ?_
    show Go p.tables e below G (T4.setTop (mkF m 14 #[rv r0, lv ((own_sum W u) + ((own_bc (W ((own_i u)).toNatClampNeg)).toInt64)), sd, rv wa, iv (Nat.toInt32 nw), iv ((own_i u) + (1 : Int32)), lv (W ((own_i u)).toNatClampNeg), sd] []))
    exact ih _ _ (u + 1) _ _ X4 N4 e4 (by omega) (Or.inr ⟨_, rfl, rfl⟩)
theorem d8_0 : decode prog_2_method_5_code 0 = .ok (.lload_n 1, 1) := by decide +kernel
theorem d8_1 : decode prog_2_method_5_code 1 = .ok (.aload_n 0, 1) := by decide +kernel
theorem d8_2 : decode prog_2_method_5_code 2 = .ok (.getfield 15, 3) := by decide +kernel
theorem d8_5 : decode prog_2_method_5_code 5 = .ok (.invokestatic 27, 3) := by decide +kernel
theorem d8_8 : decode prog_2_method_5_code 8 = .ok (.pop2, 1) := by decide +kernel
theorem d8_9 : decode prog_2_method_5_code 9 = .ok (.aload_n 0, 1) := by decide +kernel
theorem d8_10 : decode prog_2_method_5_code 10 = .ok (.getfield 23, 3) := by decide +kernel
theorem d8_13 : decode prog_2_method_5_code 13 = .ok (.lload_n 1, 1) := by decide +kernel
theorem d8_14 : decode prog_2_method_5_code 14 = .ok (.bipush 6, 2) := by decide +kernel
theorem d8_16 : decode prog_2_method_5_code 16 = .ok (.lushr, 1) := by decide +kernel
theorem d8_17 : decode prog_2_method_5_code 17 = .ok (.l2i, 1) := by decide +kernel
theorem d8_18 : decode prog_2_method_5_code 18 = .ok (.dup2, 1) := by decide +kernel
theorem d8_19 : decode prog_2_method_5_code 19 = .ok (.laload, 1) := by decide +kernel
theorem d8_20 : decode prog_2_method_5_code 20 = .ok (.lconst 1, 1) := by decide +kernel
theorem d8_21 : decode prog_2_method_5_code 21 = .ok (.lload_n 1, 1) := by decide +kernel
theorem d8_22 : decode prog_2_method_5_code 22 = .ok (.l2i, 1) := by decide +kernel
theorem d8_23 : decode prog_2_method_5_code 23 = .ok (.lshl, 1) := by decide +kernel
theorem d8_24 : decode prog_2_method_5_code 24 = .ok (.lor, 1) := by decide +kernel
theorem d8_25 : decode prog_2_method_5_code 25 = .ok (.lastore, 1) := by decide +kernel
theorem d8_26 : decode prog_2_method_5_code 26 = .ok (.return_, 1) := by decide +kernel
theorem ef_8 (m : MethodId) (r0 : Addr) (q1 : Int64) : entryFrame m #[(.ref r0), (.long q1)] 3 = mkF m 0 #[rv r0, lv q1, sd] [] := by first | (simp [entryFrame, mkF, argsToLocals, Value.category, iv, rv, lv, un, sd]; done) | rfl
def Q8 (Z : State) (r0 : Addr) (q1 : Int64) (sz : Int64) (wa : Addr) (nw : Nat) (W : Nat → Int64) (h0 : Heap) (n0 : Nat) (v : Option Value) (h : Heap) (L : List Loc) : Prop := v = none ∧ Fr n0 L ∧ Keep h0 h [wa] ∧ Ia Z h wa .long nw Value.long (own_set W q1)
set_option maxRecDepth 65536 in
set_option maxHeartbeats 40000000 in
theorem rm8 (l : Launch) (Z : State) (a0 : Array Value) (hw : ∀ d ∈ tables_1, d.before a0 Z = true) (ws : List Jvm.Cond) (r0 : Addr) (q1 : Int64) (sz : Int64) (wa : Addr) (nw : Nat) (W : Nat → Int64) (h0 : Heap) (n0 : Nat) (Z0 : n0 ≤ h0.size) (F_s : Fld Z h0 r0 "com/example/malla/malla/arrays/BitArray" "size" "J" (.long sz)) (F_w : Fld Z h0 r0 "com/example/malla/malla/arrays/BitArray" "words" "[J" (.ref wa)) (I_w : Ia Z h0 wa .long nw Value.long W) (g_wa : n0 ≤ wa) (hxw : r0 ≠ wa) (b0 : ¬ q1 < (0 : Int64)) (b1 : q1 < sz) (hix : 0 ≤ (own_ix q1).toInt ∧ (own_ix q1).toInt < ((nw : Nat) : Int)) :
    MetFree l (⟨"com/example/malla/malla/arrays/BitArray", "set", "(J)V"⟩ : MethodName) (head1 (Jvm.Cond.code (⟨"com/example/malla/malla/arrays/BitArray", "set", "(J)V"⟩ : MethodName) prog_2_method_5_code 3 none :: ws) ({ frames := 2, cells := 0, slots := 0, locals := 31 } : Room)) (fun a U => a = #[(.ref r0), (.long q1)] ∧ Z.Warmed39 U.vm ∧ U.heap = h0) (fun _ _ _ _ _ => True) (fun _ U o U' => ∃ v L, o = .returned v ∧ Q8 Z r0 q1 sz wa nw W h0 n0 v U'.heap L ∧ FrameEnd U o U' L ({ frames := 2, cells := 0, slots := 0, locals := 31 } : Room).cells ({ frames := 2, cells := 0, slots := 0, locals := 31 } : Room).slots) := by
  refine MetFree.of_bodySF (plainFor_of_name pn_4) hisR ?_
  intro p e s m args below meth c s₁ Bd hml0 hP hK
  obtain ⟨rfl, hZ, hh⟩ := hP
  have hx := Bd.exec
  have hby := Bd.bytes
  have hml : c.maxLocals = 3 := hml0
  have hown : s.vm.findClass "com/example/malla/malla/arrays/BitArray" = some m.cls := findClass_of_methodNamed Bd.named
  have hnm := (name_of_methodNamed Bd.named Bd.method).1
  have X0 : Stand p l e ({ frames := 2, cells := 0, slots := 0, locals := 31 } : Room) s m #[(.ref r0), (.long q1)] below meth c s₁ [] 0 0 := Stand.of_body Bd
  have e0 : s₁.heap = h0 := by rw [← hh, Bd.state]; rfl
  have N0 := Fr.nil n0
  suffices HH : ∀ G : Outcome → State → Prop, (∀ v L U', Q8 Z r0 q1 sz wa nw W h0 n0 v U'.heap L → FrameEnd s (.returned v) U' L ({ frames := 2, cells := 0, slots := 0, locals := 31 } : Room).cells ({ frames := 2, cells := 0, slots := 0, locals := 31 } : Room).slots → G (.returned v) U') → Go p.tables e below G (s₁.setTop (mkF m 0 #[rv r0, lv q1, sd] [])) by
    obtain ⟨s2, o, h1, h2, h3, h4⟩ := HH (fun o U' => ∃ v L, o = .returned v ∧ Q8 Z r0 q1 sz wa nw W h0 n0 v U'.heap L ∧ FrameEnd s o U' L ({ frames := 2, cells := 0, slots := 0, locals := 31 } : Room).cells ({ frames := 2, cells := 0, slots := 0, locals := 31 } : Room).slots) (fun v L U' q f => ⟨v, L, rfl, q, f⟩)
    exact ⟨s2, o, castTop (ef_8 m r0 q1) h1, h2, h3, h4⟩
  intro G hG
  have K0 := Keep.refl h0 [wa]
  show Go p.tables e below G (s₁.setTop (mkF m 0 #[rv r0, lv q1, sd] []))
  refine Go.stp (fun t_ k_ => XS.lloadN X0.here hx rfl (hb hby d8_0) rfl k_) ?_
  show Go p.tables e below G (s₁.setTop (mkF m 1 #[rv r0, lv q1, sd] [(.long q1)]))
  refine Go.stp (fun t_ k_ => XS.aloadN X0.here hx rfl (hb hby d8_1) rfl rfl k_) ?_
  show Go p.tables e below G (s₁.setTop (mkF m 2 #[rv r0, lv q1, sd] [(.ref r0), (.long q1)]))
  obtain ⟨T1, X1, e1, st1⟩ := getF X0 hx hZ hown (host := "") (Or.inl (hw _ (List.mem_of_getElem? (i := 20) rfl))) Via.refl e0 F_s (g := (mkF m 2 #[rv r0, lv q1, sd] [(.ref r0), (.long q1)])) rfl rfl (hb hby d8_2)
  refine Go.stp (fun t_ k_ => st1 t_ k_) ?_
  show Go p.tables e below G (T1.setTop (mkF m 5 #[rv r0, lv q1, sd] [(.long sz), (.long q1)]))
  obtain ⟨_, _, ⟨T2, L2, k2, n2⟩, -, X2, ⟨Lc2, hQ2, l2, y2, z2⟩, st2⟩ := Jvm.LawKit.callS X1 hx (y := (⟨"java/util/Objects", "checkIndex", "(JJ)J"⟩ : MethodName)) hown (mvT hZ (hw _ (List.mem_of_getElem? (i := 46) rfl))) (mvT hZ (hw _ (List.mem_of_getElem? (i := 47) rfl))) (mvT hZ (hw _ (List.mem_of_getElem? (i := 48) rfl))) (mvT hZ (hw _ (List.mem_of_getElem? (i := 49) rfl))) (by decide) (backOf (W := 0) (rm9 l Z a0 hw [] q1 sz  h0 n0 Z0 b0 b1) hZ (hw _ (List.mem_of_getElem? (i := 49) rfl)) (hw _ (List.mem_of_getElem? (i := 48) rfl)) (by decide) (by decide)) (g := (mkF m 5 #[rv r0, lv q1, sd] [(.long sz), (.long q1)])) rfl (by rw [hml]; rfl) (argsL := [(.long q1), (.long sz)]) (rest := []) (lenOf pd_3 rfl) rfl (by show 2 * 0 + _ ≤ _; exact Nat.le_of_eq rfl) (hb hby d8_5) (fun _ _ => ⟨rfl, e1, (by decide : 0 + 0 ≤ _), (by decide : 0 + 0 ≤ _)⟩)
  dsimp only [Pt.U, Pt.locs, Pt.cells, Pt.slots] at X2 l2 y2 z2 st2 hQ2
  subst l2 y2 z2
  obtain ⟨rfl, Nq2, e2⟩ := hQ2
  have N2 := Fr.app N0 Nq2
  refine Go.stp (fun t_ k_ => st2 t_ k_) ?_
  show Go p.tables e below G (T2.setTop (mkF m 8 #[rv r0, lv q1, sd] [(.long q1)]))
  refine Go.stp (F' := T2.setTop (mkF m 9 #[rv r0, lv q1, sd] [])) (fun t_ k_ => by jvm_step X2.here [X2.here.top, hx, (hb hby d8_8), Value.category]; exact k_) ?_
  show Go p.tables e below G (T2.setTop (mkF m 9 #[rv r0, lv q1, sd] []))
  refine Go.stp (fun t_ k_ => XS.aloadN X2.here hx rfl (hb hby d8_9) rfl rfl k_) ?_
  show Go p.tables e below G (T2.setTop (mkF m 10 #[rv r0, lv q1, sd] [(.ref r0)]))
  obtain ⟨T3, X3, e3, st3⟩ := getF X2 hx hZ hown (host := "") (Or.inl (hw _ (List.mem_of_getElem? (i := 27) rfl))) Via.refl e2 F_w (g := (mkF m 10 #[rv r0, lv q1, sd] [(.ref r0)])) rfl rfl (hb hby d8_10)
  refine Go.stp (fun t_ k_ => st3 t_ k_) ?_
  show Go p.tables e below G (T3.setTop (mkF m 13 #[rv r0, lv q1, sd] [(.ref wa)]))
  refine Go.stp (fun t_ k_ => XS.lloadN X3.here hx rfl (hb hby d8_13) rfl k_) ?_
  show Go p.tables e below G (T3.setTop (mkF m 14 #[rv r0, lv q1, sd] [(.long q1), (.ref wa)]))
  refine Go.stp (fun t_ k_ => XS.bipush X3.here hx rfl (hb hby d8_14) k_) ?_
  show Go p.tables e below G (T3.setTop (mkF m 16 #[rv r0, lv q1, sd] [(.int (6 : Int32)), (.long q1), (.ref wa)]))
  refine Go.stp (fun t_ k_ => XS.lushr X3.here hx rfl (hb hby d8_16) rfl k_) ?_
  show Go p.tables e below G (T3.setTop (mkF m 17 #[rv r0, lv q1, sd] [(.long ((q1.toUInt64 >>> ((6 : Int32) &&& 0x3f).toInt64.toUInt64).toInt64)), (.ref wa)]))
  refine Go.stp (fun t_ k_ => XS.l2i X3.here hx rfl (hb hby d8_17) rfl k_) ?_
  show Go p.tables e below G (T3.setTop (mkF m 18 #[rv r0, lv q1, sd] [(.int (((q1.toUInt64 >>> ((6 : Int32) &&& 0x3f).toInt64.toUInt64).toInt64).toInt32)), (.ref wa)]))
  refine Go.stp (F' := T3.setTop (mkF m 19 #[rv r0, lv q1, sd] [(.int (((q1.toUInt64 >>> ((6 : Int32) &&& 0x3f).toInt64.toUInt64).toInt64).toInt32)), (.ref wa), (.int (((q1.toUInt64 >>> ((6 : Int32) &&& 0x3f).toInt64.toUInt64).toInt64).toInt32)), (.ref wa)])) (fun t_ k_ => by jvm_step X3.here [X3.here.top, hx, (hb hby d8_18), Value.category]; exact k_) ?_
  show Go p.tables e below G (T3.setTop (mkF m 19 #[rv r0, lv q1, sd] [(.int (((q1.toUInt64 >>> ((6 : Int32) &&& 0x3f).toInt64.toUInt64).toInt64).toInt32)), (.ref wa), (.int (((q1.toUInt64 >>> ((6 : Int32) &&& 0x3f).toInt64.toUInt64).toInt64).toInt32)), (.ref wa)]))
  obtain ⟨cl4, Ar4, Sz4, -, Hs4⟩ := id I_w
  have ib4 : 0 ≤ ((((q1.toUInt64 >>> ((6 : Int32) &&& 0x3f).toInt64.toUInt64).toInt64).toInt32)).toInt ∧ ((((q1.toUInt64 >>> ((6 : Int32) &&& 0x3f).toInt64.toUInt64).toInt64).toInt32)).toInt < ((nw : Nat) : Int) := hix
  refine Go.stp (fun t_ k_ => X3.laload hx (j := (((q1.toUInt64 >>> ((6 : Int32) &&& 0x3f).toInt64.toUInt64).toInt64).toInt32)) (v := (Value.long (W ((((q1.toUInt64 >>> ((6 : Int32) &&& 0x3f).toInt64.toUInt64).toInt64).toInt32)).toNatClampNeg))) (by rw [e3]; exact Ar4.1) (State.isArrayOf_alike hZ.alike Ar4.2.1) Ar4.2.2 (in_of Sz4 ib4) (Hs4 _ (at_of ib4)) (g := (mkF m 19 #[rv r0, lv q1, sd] [(.int (((q1.toUInt64 >>> ((6 : Int32) &&& 0x3f).toInt64.toUInt64).toInt64).toInt32)), (.ref wa), (.int (((q1.toUInt64 >>> ((6 : Int32) &&& 0x3f).toInt64.toUInt64).toInt64).toInt32)), (.ref wa)])) rfl rfl (hb hby d8_19) t_ k_) ?_
  show Go p.tables e below G (T3.setTop (mkF m 20 #[rv r0, lv q1, sd] [(.long (W ((((q1.toUInt64 >>> ((6 : Int32) &&& 0x3f).toInt64.toUInt64).toInt64).toInt32)).toNatClampNeg)), (.int (((q1.toUInt64 >>> ((6 : Int32) &&& 0x3f).toInt64.toUInt64).toInt64).toInt32)), (.ref wa)]))
  refine Go.stp (fun t_ k_ => XS.lconst X3.here hx rfl (hb hby d8_20) k_) ?_
  show Go p.tables e below G (T3.setTop (mkF m 21 #[rv r0, lv q1, sd] [(.long (1 : Int64)), (.long (W ((((q1.toUInt64 >>> ((6 : Int32) &&& 0x3f).toInt64.toUInt64).toInt64).toInt32)).toNatClampNeg)), (.int (((q1.toUInt64 >>> ((6 : Int32) &&& 0x3f).toInt64.toUInt64).toInt64).toInt32)), (.ref wa)]))
  refine Go.stp (fun t_ k_ => XS.lloadN X3.here hx rfl (hb hby d8_21) rfl k_) ?_
  show Go p.tables e below G (T3.setTop (mkF m 22 #[rv r0, lv q1, sd] [(.long q1), (.long (1 : Int64)), (.long (W ((((q1.toUInt64 >>> ((6 : Int32) &&& 0x3f).toInt64.toUInt64).toInt64).toInt32)).toNatClampNeg)), (.int (((q1.toUInt64 >>> ((6 : Int32) &&& 0x3f).toInt64.toUInt64).toInt64).toInt32)), (.ref wa)]))
  refine Go.stp (fun t_ k_ => XS.l2i X3.here hx rfl (hb hby d8_22) rfl k_) ?_
  show Go p.tables e below G (T3.setTop (mkF m 23 #[rv r0, lv q1, sd] [(.int (q1.toInt32)), (.long (1 : Int64)), (.long (W ((((q1.toUInt64 >>> ((6 : Int32) &&& 0x3f).toInt64.toUInt64).toInt64).toInt32)).toNatClampNeg)), (.int (((q1.toUInt64 >>> ((6 : Int32) &&& 0x3f).toInt64.toUInt64).toInt64).toInt32)), (.ref wa)]))
  refine Go.stp (fun t_ k_ => XS.lshl X3.here hx rfl (hb hby d8_23) rfl k_) ?_
  show Go p.tables e below G (T3.setTop (mkF m 24 #[rv r0, lv q1, sd] [(.long ((1 : Int64) <<< ((q1.toInt32) &&& 0x3f).toInt64)), (.long (W ((((q1.toUInt64 >>> ((6 : Int32) &&& 0x3f).toInt64.toUInt64).toInt64).toInt32)).toNatClampNeg)), (.int (((q1.toUInt64 >>> ((6 : Int32) &&& 0x3f).toInt64.toUInt64).toInt64).toInt32)), (.ref wa)]))
  refine Go.stp (fun t_ k_ => XS.lor X3.here hx rfl (hb hby d8_24) rfl k_) ?_
  show Go p.tables e below G (T3.setTop (mkF m 25 #[rv r0, lv q1, sd] [(.long ((W ((((q1.toUInt64 >>> ((6 : Int32) &&& 0x3f).toInt64.toUInt64).toInt64).toInt32)).toNatClampNeg) ||| ((1 : Int64) <<< ((q1.toInt32) &&& 0x3f).toInt64))), (.int (((q1.toUInt64 >>> ((6 : Int32) &&& 0x3f).toInt64.toUInt64).toInt64).toInt32)), (.ref wa)]))
  have ib5 : 0 ≤ ((((q1.toUInt64 >>> ((6 : Int32) &&& 0x3f).toInt64.toUInt64).toInt64).toInt32)).toInt ∧ ((((q1.toUInt64 >>> ((6 : Int32) &&& 0x3f).toInt64.toUInt64).toInt64).toInt32)).toInt < ((nw : Nat) : Int) := hix
  obtain ⟨cl5, Ar5, Sz5, -, -⟩ := id I_w
  obtain ⟨T5, h5, X5, e5, W5, st5⟩ := stJ X3 hx hZ e3 Ar5 (j := (((q1.toUInt64 >>> ((6 : Int32) &&& 0x3f).toInt64.toUInt64).toInt64).toInt32)) (in_of Sz5 ib5) (g := (mkF m 25 #[rv r0, lv q1, sd] [(.long ((W ((((q1.toUInt64 >>> ((6 : Int32) &&& 0x3f).toInt64.toUInt64).toInt64).toInt32)).toNatClampNeg) ||| ((1 : Int64) <<< ((q1.toInt32) &&& 0x3f).toInt64))), (.int (((q1.toUInt64 >>> ((6 : Int32) &&& 0x3f).toInt64.toUInt64).toInt64).toInt32)), (.ref wa)])) rfl rfl (hb hby d8_25)
  have f6 : Ia Z h5 wa .long nw Value.long (upf W ((((q1.toUInt64 >>> ((6 : Int32) &&& 0x3f).toInt64.toUInt64).toInt64).toInt32)).toNatClampNeg ((W ((((q1.toUInt64 >>> ((6 : Int32) &&& 0x3f).toInt64.toUInt64).toInt64).toInt32)).toNatClampNeg) ||| ((1 : Int64) <<< ((q1.toInt32) &&& 0x3f).toInt64))) := I_w.set W5 rfl
  have f7 : Fld Z h5 r0 "com/example/malla/malla/arrays/BitArray" "size" "J" (.long sz) := F_s.other W5 (Or.inl hxw)
  have f8 : Fld Z h5 r0 "com/example/malla/malla/arrays/BitArray" "words" "[J" (.ref wa) := F_w.other W5 (Or.inl hxw)
  have N5 := Fr.snoc X5 N2 g_wa
  have K5 := K0.wr W5 (Or.inl (List.mem_of_getElem? (i := 0) rfl))
  have Z5 : n0 ≤ h5.size := Nat.le_trans Z0 (Keep.of_wr W5).1
  refine Go.stp (fun t_ k_ => st5 t_ k_) ?_
  show Go p.tables e below G (T5.setTop (mkF m 26 #[rv r0, lv q1, sd] []))
  obtain ⟨fs, hr, hrun, hended, hW, hsame⟩ := X5.leave (v := none) (fun _ => rfl)
  refine ⟨_, _, X5.returnOut hx Bd.returns (hb hby d8_26) hr, hrun, hended, hG _ _ _ ?_ ⟨⟨_, rfl⟩, hW, hsame.mono (by decide) (by decide)⟩⟩
  show Q8 Z r0 q1 sz wa nw W h0 n0 _ T5.heap _
  rw [e5]
  exact ⟨rfl, N5, K5, f6⟩
theorem ef_0 (m : MethodId) (q0 : Int64) (q1 : Int64) (q2 : Int64) (q3 : Int64) (q4 : Int64) (p5 : Int32) : entryFrame m #[(.long q0), (.long q1), (.long q2), (.long q3), (.long q4), (.int p5)] maxLocals = mkF m 0 #[lv q0, sd, lv q1, sd, lv q2, sd, lv q3, sd, lv q4, sd, iv p5, un, un, un, un, un, un, un, un, un, un, un, un, un, un, un, un, un, un, un, un, un] [] := by first | (simp [entryFrame, mkF, argsToLocals, Value.category, iv, rv, lv, un, sd, maxLocals]; done) | rfl
def Q0 (Z : State) (q0 : Int64) (q1 : Int64) (q2 : Int64) (q3 : Int64) (q4 : Int64) (p5 : Int32) (h0 : Heap) (n0 : Nat) (v : Option Value) (h : Heap) (L : List Loc) : Prop := v = some (.int (1 : Int32)) ∧ Fr n0 L
set_option maxRecDepth 65536 in
set_option maxHeartbeats 40000000 in
theorem rm0 (l : Launch) (Z : State) (a0 : Array Value) (hw : ∀ d ∈ tables_1, d.before a0 Z = true) (ws : List Jvm.Cond) (q0 : Int64) (q1 : Int64) (q2 : Int64) (q3 : Int64) (q4 : Int64) (p5 : Int32) (h0 : Heap) (n0 : Nat) (Z0 : n0 ≤ h0.size) :
    MetFree l x (head1 (Jvm.Cond.code x code maxLocals ret :: ws) room_1) (fun a U => a = #[(.long q0), (.long q1), (.long q2), (.long q3), (.long q4), (.int p5)] ∧ Z.Warmed39 U.vm ∧ U.heap = h0) (fun _ _ _ _ _ => True) (fun _ U o U' => ∃ v L, o = .returned v ∧ Q0 Z q0 q1 q2 q3 q4 p5 h0 n0 v U'.heap L ∧ FrameEnd U o U' L room_1.cells room_1.slots) := by
  refine MetFree.of_bodySF (plainFor_of_name pn_1) hisR ?_
  intro p e s m args below meth c s₁ Bd hml0 hP hK
  obtain ⟨rfl, hZ, hh⟩ := hP
  have hx := Bd.exec
  have hby := Bd.bytes
  have hml : c.maxLocals = 32 := hml0
  have hown : s.vm.findClass "com/example/malla/malla/arrays/BitArrayBitCountPinLaw" = some m.cls := findClass_of_methodNamed Bd.named
  have hnm := (name_of_methodNamed Bd.named Bd.method).1
  have X0 : Stand p l e room_1 s m #[(.long q0), (.long q1), (.long q2), (.long q3), (.long q4), (.int p5)] below meth c s₁ [] 0 0 := Stand.of_body Bd
  have e0 : s₁.heap = h0 := by rw [← hh, Bd.state]; rfl
  have N0 := Fr.nil n0
  suffices HH : ∀ G : Outcome → State → Prop, (∀ v L U', Q0 Z q0 q1 q2 q3 q4 p5 h0 n0 v U'.heap L → FrameEnd s (.returned v) U' L room_1.cells room_1.slots → G (.returned v) U') → Go p.tables e below G (s₁.setTop (mkF m 0 #[lv q0, sd, lv q1, sd, lv q2, sd, lv q3, sd, lv q4, sd, iv p5, un, un, un, un, un, un, un, un, un, un, un, un, un, un, un, un, un, un, un, un, un] [])) by
    obtain ⟨s2, o, h1, h2, h3, h4⟩ := HH (fun o U' => ∃ v L, o = .returned v ∧ Q0 Z q0 q1 q2 q3 q4 p5 h0 n0 v U'.heap L ∧ FrameEnd s o U' L room_1.cells room_1.slots) (fun v L U' q f => ⟨v, L, rfl, q, f⟩)
    exact ⟨s2, o, castTop (ef_0 m q0 q1 q2 q3 q4 p5) h1, h2, h3, h4⟩
  intro G hG
  show Go p.tables e below G (s₁.setTop (mkF m 0 #[lv q0, sd, lv q1, sd, lv q2, sd, lv q3, sd, lv q4, sd, iv p5, un, un, un, un, un, un, un, un, un, un, un, un, un, un, un, un, un, un, un, un, un] []))
  refine Go.stp (fun t_ k_ => XS.lloadN X0.here hx rfl (hb hby at_0) rfl k_) ?_
  show Go p.tables e below G (s₁.setTop (mkF m 1 #[lv q0, sd, lv q1, sd, lv q2, sd, lv q3, sd, lv q4, sd, iv p5, un, un, un, un, un, un, un, un, un, un, un, un, un, un, un, un, un, un, un, un, un] [(.long q0)]))
  refine Go.stp (fun t_ k_ => X0.ldc2Long hx hown (mvT hZ (hw _ (List.mem_of_getElem? (i := 0) rfl))) (g := (mkF m 1 #[lv q0, sd, lv q1, sd, lv q2, sd, lv q3, sd, lv q4, sd, iv p5, un, un, un, un, un, un, un, un, un, un, un, un, un, un, un, un, un, un, un, un, un] [(.long q0)])) rfl (hb hby at_1) t_ k_) ?_
  show Go p.tables e below G (s₁.setTop (mkF m 4 #[lv q0, sd, lv q1, sd, lv q2, sd, lv q3, sd, lv q4, sd, iv p5, un, un, un, un, un, un, un, un, un, un, un, un, un, un, un, un, un, un, un, un, un] [(.long (2147483647 : Int64)), (.long q0)]))
  refine Go.stp (fun t_ k_ => XS.land X0.here hx rfl (hb hby at_4) rfl k_) ?_
  show Go p.tables e below G (s₁.setTop (mkF m 5 #[lv q0, sd, lv q1, sd, lv q2, sd, lv q3, sd, lv q4, sd, iv p5, un, un, un, un, un, un, un, un, un, un, un, un, un, un, un, un, un, un, un, un, un] [(.long (q0 &&& (2147483647 : Int64)))]))
  refine Go.stp (fun t_ k_ => X0.ldc2Long hx hown (mvT hZ (hw _ (List.mem_of_getElem? (i := 1) rfl))) (g := (mkF m 5 #[lv q0, sd, lv q1, sd, lv q2, sd, lv q3, sd, lv q4, sd, iv p5, un, un, un, un, un, un, un, un, un, un, un, un, un, un, un, un, un, un, un, un, un] [(.long (q0 &&& (2147483647 : Int64)))])) rfl (hb hby at_5) t_ k_) ?_
  show Go p.tables e below G (s₁.setTop (mkF m 8 #[lv q0, sd, lv q1, sd, lv q2, sd, lv q3, sd, lv q4, sd, iv p5, un, un, un, un, un, un, un, un, un, un, un, un, un, un, un, un, un, un, un, un, un] [(.long (300 : Int64)), (.long (q0 &&& (2147483647 : Int64)))]))
  refine Go.stp (fun t_ k_ => XS.lrem X0.here hx rfl (hb hby at_8) rfl (by decide) k_) ?_
  show Go p.tables e below G (s₁.setTop (mkF m 9 #[lv q0, sd, lv q1, sd, lv q2, sd, lv q3, sd, lv q4, sd, iv p5, un, un, un, un, un, un, un, un, un, un, un, un, un, un, un, un, un, un, un, un, un] [(.long ((q0 &&& (2147483647 : Int64)) - ((q0 &&& (2147483647 : Int64)) / (300 : Int64)) * (300 : Int64)))]))
  refine Go.stp (fun t_ k_ => XS.lstore X0.here hx rfl (hb hby at_9) rfl (l' := #[lv q0, sd, lv q1, sd, lv q2, sd, lv q3, sd, lv q4, sd, iv p5, lv ((q0 &&& (2147483647 : Int64)) - ((q0 &&& (2147483647 : Int64)) / (300 : Int64)) * (300 : Int64)), sd, un, un, un, un, un, un, un, un, un, un, un, un, un, un, un, un, un, un, un]) rfl k_) ?_
  show Go p.tables e below G (s₁.setTop (mkF m 11 #[lv q0, sd, lv q1, sd, lv q2, sd, lv q3, sd, lv q4, sd, iv p5, lv ((q0 &&& (2147483647 : Int64)) - ((q0 &&& (2147483647 : Int64)) / (300 : Int64)) * (300 : Int64)), sd, un, un, un, un, un, un, un, un, un, un, un, un, un, un, un, un, un, un, un] []))
  suffices K1 : ∀ size : Int64, size = ((q0 &&& (2147483647 : Int64)) - ((q0 &&& (2147483647 : Int64)) / (300 : Int64)) * (300 : Int64)) → Go p.tables e below G (s₁.setTop (mkF m 11 #[lv q0, sd, lv q1, sd, lv q2, sd, lv q3, sd, lv q4, sd, iv p5, lv size, sd, un, un, un, un, un, un, un, un, un, un, un, un, un, un, un, un, un, un, un] [])) from K1 _ rfl
  intro size hsize
  have hszb := own_szb q0
  rw [← hsize] at hszb
  by_cases hpos : (0 : Int64) < size
  · have hsz : size ≠ (0 : Int64) := own_nz size hpos
    show Go p.tables e below G (s₁.setTop (mkF m 11 #[lv q0, sd, lv q1, sd, lv q2, sd, lv q3, sd, lv q4, sd, iv p5, lv size, sd, un, un, un, un, un, un, un, un, un, un, un, un, un, un, un, un, un, un, un] []))
    refine Go.stp (fun t_ k_ => XS.lload X0.here hx rfl (hb hby at_11) rfl k_) ?_
    show Go p.tables e below G (s₁.setTop (mkF m 13 #[lv q0, sd, lv q1, sd, lv q2, sd, lv q3, sd, lv q4, sd, iv p5, lv size, sd, un, un, un, un, un, un, un, un, un, un, un, un, un, un, un, un, un, un, un] [(.long size)]))
    refine Go.stp (fun t_ k_ => XS.lconst X0.here hx rfl (hb hby at_13) k_) ?_
    show Go p.tables e below G (s₁.setTop (mkF m 14 #[lv q0, sd, lv q1, sd, lv q2, sd, lv q3, sd, lv q4, sd, iv p5, lv size, sd, un, un, un, un, un, un, un, un, un, un, un, un, un, un, un, un, un, un, un] [(.long (0 : Int64)), (.long size)]))
    refine Go.stp (fun t_ k_ => XS.lcmp X0.here hx rfl (hb hby at_14) rfl k_) ?_
    show Go p.tables e below G (s₁.setTop (mkF m 15 #[lv q0, sd, lv q1, sd, lv q2, sd, lv q3, sd, lv q4, sd, iv p5, lv size, sd, un, un, un, un, un, un, un, un, un, un, un, un, un, un, un, un, un, un, un] [(.int (lcmpW size (0 : Int64)))]))
    have hd15 : (0 : Int64) < size := hpos
    refine Go.stp (fun t_ k_ => XS.ifNo X0.here hx rfl (hb hby at_15) rfl ((if0 _ _).trans (tlt ((lw_gt size (0 : Int64)).mpr hd15)).2.2.2) k_) ?_
    show Go p.tables e below G (s₁.setTop (mkF m 18 #[lv q0, sd, lv q1, sd, lv q2, sd, lv q3, sd, lv q4, sd, iv p5, lv size, sd, un, un, un, un, un, un, un, un, un, un, un, un, un, un, un, un, un, un, un] []))
    refine Go.stp (fun t_ k_ => XS.iload X0.here hx rfl (hb hby at_18) rfl k_) ?_
    show Go p.tables e below G (s₁.setTop (mkF m 20 #[lv q0, sd, lv q1, sd, lv q2, sd, lv q3, sd, lv q4, sd, iv p5, lv size, sd, un, un, un, un, un, un, un, un, un, un, un, un, un, un, un, un, un, un, un] [(.int p5)]))
    refine Go.stp (fun t_ k_ => XS.iconst X0.here hx rfl (hb hby at_20) k_) ?_
    show Go p.tables e below G (s₁.setTop (mkF m 21 #[lv q0, sd, lv q1, sd, lv q2, sd, lv q3, sd, lv q4, sd, iv p5, lv size, sd, un, un, un, un, un, un, un, un, un, un, un, un, un, un, un, un, un, un, un] [(.int (1 : Int32)), (.int p5)]))
    refine Go.stp (fun t_ k_ => XS.iand X0.here hx rfl (hb hby at_21) rfl k_) ?_
    show Go p.tables e below G (s₁.setTop (mkF m 22 #[lv q0, sd, lv q1, sd, lv q2, sd, lv q3, sd, lv q4, sd, iv p5, lv size, sd, un, un, un, un, un, un, un, un, un, un, un, un, un, un, un, un, un, un, un] [(.int (p5 &&& (1 : Int32)))]))
    suffices J2 : ∀ (ea : Int32), ((((p5 &&& (1 : Int32)) = (0 : Int32)) ∧ ea = (0 : Int32)) ∨ (¬ ((p5 &&& (1 : Int32)) = (0 : Int32)) ∧ ea = (1 : Int32))) → Go p.tables e below G (s₁.setTop (mkF m 30 #[lv q0, sd, lv q1, sd, lv q2, sd, lv q3, sd, lv q4, sd, iv p5, lv size, sd, un, un, un, un, un, un, un, un, un, un, un, un, un, un, un, un, un, un, un] [(.int ea)])) by
      by_cases hc22 : (p5 &&& (1 : Int32)) = (0 : Int32)
      · refine Go.stp (fun t_ k_ => XS.ifYes X0.here hx rfl (pc0 := 22) (pc' := 29) rfl (hb hby at_22) rfl ((if0 _ _).trans (teq hc22).1) (by decide) (by decide) k_) ?_
        show Go p.tables e below G (s₁.setTop (mkF m 29 #[lv q0, sd, lv q1, sd, lv q2, sd, lv q3, sd, lv q4, sd, iv p5, lv size, sd, un, un, un, un, un, un, un, un, un, un, un, un, un, un, un, un, un, un, un] []))
        refine Go.stp (fun t_ k_ => XS.iconst X0.here hx rfl (hb hby at_29) k_) ?_
        show Go p.tables e below G (s₁.setTop (mkF m 30 #[lv q0, sd, lv q1, sd, lv q2, sd, lv q3, sd, lv q4, sd, iv p5, lv size, sd, un, un, un, un, un, un, un, un, un, un, un, un, un, un, un, un, un, un, un] [(.int (0 : Int32))]))
        exact J2 _ (Or.inl ⟨hc22, rfl⟩)
      · refine Go.stp (fun t_ k_ => XS.ifNo X0.here hx rfl (hb hby at_22) rfl ((if0 _ _).trans (feq hc22).1) k_) ?_
        show Go p.tables e below G (s₁.setTop (mkF m 25 #[lv q0, sd, lv q1, sd, lv q2, sd, lv q3, sd, lv q4, sd, iv p5, lv size, sd, un, un, un, un, un, un, un, un, un, un, un, un, un, un, un, un, un, un, un] []))
        refine Go.stp (fun t_ k_ => XS.iconst X0.here hx rfl (hb hby at_25) k_) ?_
        show Go p.tables e below G (s₁.setTop (mkF m 26 #[lv q0, sd, lv q1, sd, lv q2, sd, lv q3, sd, lv q4, sd, iv p5, lv size, sd, un, un, un, un, un, un, un, un, un, un, un, un, un, un, un, un, un, un, un] [(.int (1 : Int32))]))
        refine Go.stp (fun t_ k_ => XS.goto X0.here hx rfl (pc0 := 26) (pc' := 30) rfl (hb hby at_26) (by decide) (by decide) k_) ?_
        show Go p.tables e below G (s₁.setTop (mkF m 30 #[lv q0, sd, lv q1, sd, lv q2, sd, lv q3, sd, lv q4, sd, iv p5, lv size, sd, un, un, un, un, un, un, un, un, un, un, un, un, un, un, un, un, un, un, un] [(.int (1 : Int32))]))
        exact J2 _ (Or.inr ⟨hc22, rfl⟩)
    intro ea hj30
    refine Go.stp (fun t_ k_ => XS.istore X0.here hx rfl (hb hby at_30) rfl (l' := #[lv q0, sd, lv q1, sd, lv q2, sd, lv q3, sd, lv q4, sd, iv p5, lv size, sd, iv ea, un, un, un, un, un, un, un, un, un, un, un, un, un, un, un, un, un, un]) rfl k_) ?_
    show Go p.tables e below G (s₁.setTop (mkF m 32 #[lv q0, sd, lv q1, sd, lv q2, sd, lv q3, sd, lv q4, sd, iv p5, lv size, sd, iv ea, un, un, un, un, un, un, un, un, un, un, un, un, un, un, un, un, un, un] []))
    refine Go.stp (fun t_ k_ => XS.lload X0.here hx rfl (hb hby at_32) rfl k_) ?_
    show Go p.tables e below G (s₁.setTop (mkF m 34 #[lv q0, sd, lv q1, sd, lv q2, sd, lv q3, sd, lv q4, sd, iv p5, lv size, sd, iv ea, un, un, un, un, un, un, un, un, un, un, un, un, un, un, un, un, un, un] [(.long size)]))
    refine Go.stp (fun t_ k_ => XS.lconst X0.here hx rfl (hb hby at_34) k_) ?_
    show Go p.tables e below G (s₁.setTop (mkF m 35 #[lv q0, sd, lv q1, sd, lv q2, sd, lv q3, sd, lv q4, sd, iv p5, lv size, sd, iv ea, un, un, un, un, un, un, un, un, un, un, un, un, un, un, un, un, un, un] [(.long (0 : Int64)), (.long size)]))
    refine Go.stp (fun t_ k_ => XS.lcmp X0.here hx rfl (hb hby at_35) rfl k_) ?_
    show Go p.tables e below G (s₁.setTop (mkF m 36 #[lv q0, sd, lv q1, sd, lv q2, sd, lv q3, sd, lv q4, sd, iv p5, lv size, sd, iv ea, un, un, un, un, un, un, un, un, un, un, un, un, un, un, un, un, un, un] [(.int (lcmpW size (0 : Int64)))]))
    have hd36 : (0 : Int64) < size := hpos
    refine Go.stp (fun t_ k_ => XS.ifNo X0.here hx rfl (hb hby at_36) rfl ((if0 _ _).trans (tlt ((lw_gt size (0 : Int64)).mpr hd36)).2.2.2) k_) ?_
    show Go p.tables e below G (s₁.setTop (mkF m 39 #[lv q0, sd, lv q1, sd, lv q2, sd, lv q3, sd, lv q4, sd, iv p5, lv size, sd, iv ea, un, un, un, un, un, un, un, un, un, un, un, un, un, un, un, un, un, un] []))
    refine Go.stp (fun t_ k_ => XS.iload X0.here hx rfl (hb hby at_39) rfl k_) ?_
    show Go p.tables e below G (s₁.setTop (mkF m 41 #[lv q0, sd, lv q1, sd, lv q2, sd, lv q3, sd, lv q4, sd, iv p5, lv size, sd, iv ea, un, un, un, un, un, un, un, un, un, un, un, un, un, un, un, un, un, un] [(.int p5)]))
    refine Go.stp (fun t_ k_ => XS.iconst X0.here hx rfl (hb hby at_41) k_) ?_
    show Go p.tables e below G (s₁.setTop (mkF m 42 #[lv q0, sd, lv q1, sd, lv q2, sd, lv q3, sd, lv q4, sd, iv p5, lv size, sd, iv ea, un, un, un, un, un, un, un, un, un, un, un, un, un, un, un, un, un, un] [(.int (2 : Int32)), (.int p5)]))
    refine Go.stp (fun t_ k_ => XS.iand X0.here hx rfl (hb hby at_42) rfl k_) ?_
    show Go p.tables e below G (s₁.setTop (mkF m 43 #[lv q0, sd, lv q1, sd, lv q2, sd, lv q3, sd, lv q4, sd, iv p5, lv size, sd, iv ea, un, un, un, un, un, un, un, un, un, un, un, un, un, un, un, un, un, un] [(.int (p5 &&& (2 : Int32)))]))
    suffices J3 : ∀ (eb : Int32), ((((p5 &&& (2 : Int32)) = (0 : Int32)) ∧ eb = (0 : Int32)) ∨ (¬ ((p5 &&& (2 : Int32)) = (0 : Int32)) ∧ eb = (1 : Int32))) → Go p.tables e below G (s₁.setTop (mkF m 51 #[lv q0, sd, lv q1, sd, lv q2, sd, lv q3, sd, lv q4, sd, iv p5, lv size, sd, iv ea, un, un, un, un, un, un, un, un, un, un, un, un, un, un, un, un, un, un] [(.int eb)])) by
      by_cases hc43 : (p5 &&& (2 : Int32)) = (0 : Int32)
      · refine Go.stp (fun t_ k_ => XS.ifYes X0.here hx rfl (pc0 := 43) (pc' := 50) rfl (hb hby at_43) rfl ((if0 _ _).trans (teq hc43).1) (by decide) (by decide) k_) ?_
        show Go p.tables e below G (s₁.setTop (mkF m 50 #[lv q0, sd, lv q1, sd, lv q2, sd, lv q3, sd, lv q4, sd, iv p5, lv size, sd, iv ea, un, un, un, un, un, un, un, un, un, un, un, un, un, un, un, un, un, un] []))
        refine Go.stp (fun t_ k_ => XS.iconst X0.here hx rfl (hb hby at_50) k_) ?_
        show Go p.tables e below G (s₁.setTop (mkF m 51 #[lv q0, sd, lv q1, sd, lv q2, sd, lv q3, sd, lv q4, sd, iv p5, lv size, sd, iv ea, un, un, un, un, un, un, un, un, un, un, un, un, un, un, un, un, un, un] [(.int (0 : Int32))]))
        exact J3 _ (Or.inl ⟨hc43, rfl⟩)
      · refine Go.stp (fun t_ k_ => XS.ifNo X0.here hx rfl (hb hby at_43) rfl ((if0 _ _).trans (feq hc43).1) k_) ?_
        show Go p.tables e below G (s₁.setTop (mkF m 46 #[lv q0, sd, lv q1, sd, lv q2, sd, lv q3, sd, lv q4, sd, iv p5, lv size, sd, iv ea, un, un, un, un, un, un, un, un, un, un, un, un, un, un, un, un, un, un] []))
        refine Go.stp (fun t_ k_ => XS.iconst X0.here hx rfl (hb hby at_46) k_) ?_
        show Go p.tables e below G (s₁.setTop (mkF m 47 #[lv q0, sd, lv q1, sd, lv q2, sd, lv q3, sd, lv q4, sd, iv p5, lv size, sd, iv ea, un, un, un, un, un, un, un, un, un, un, un, un, un, un, un, un, un, un] [(.int (1 : Int32))]))
        refine Go.stp (fun t_ k_ => XS.goto X0.here hx rfl (pc0 := 47) (pc' := 51) rfl (hb hby at_47) (by decide) (by decide) k_) ?_
        show Go p.tables e below G (s₁.setTop (mkF m 51 #[lv q0, sd, lv q1, sd, lv q2, sd, lv q3, sd, lv q4, sd, iv p5, lv size, sd, iv ea, un, un, un, un, un, un, un, un, un, un, un, un, un, un, un, un, un, un] [(.int (1 : Int32))]))
        exact J3 _ (Or.inr ⟨hc43, rfl⟩)
    intro eb hj51
    refine Go.stp (fun t_ k_ => XS.istore X0.here hx rfl (hb hby at_51) rfl (l' := #[lv q0, sd, lv q1, sd, lv q2, sd, lv q3, sd, lv q4, sd, iv p5, lv size, sd, iv ea, iv eb, un, un, un, un, un, un, un, un, un, un, un, un, un, un, un, un, un]) rfl k_) ?_
    show Go p.tables e below G (s₁.setTop (mkF m 53 #[lv q0, sd, lv q1, sd, lv q2, sd, lv q3, sd, lv q4, sd, iv p5, lv size, sd, iv ea, iv eb, un, un, un, un, un, un, un, un, un, un, un, un, un, un, un, un, un] []))
    refine Go.stp (fun t_ k_ => XS.lload X0.here hx rfl (hb hby at_53) rfl k_) ?_
    show Go p.tables e below G (s₁.setTop (mkF m 55 #[lv q0, sd, lv q1, sd, lv q2, sd, lv q3, sd, lv q4, sd, iv p5, lv size, sd, iv ea, iv eb, un, un, un, un, un, un, un, un, un, un, un, un, un, un, un, un, un] [(.long size)]))
    refine Go.stp (fun t_ k_ => XS.lconst X0.here hx rfl (hb hby at_55) k_) ?_
    show Go p.tables e below G (s₁.setTop (mkF m 56 #[lv q0, sd, lv q1, sd, lv q2, sd, lv q3, sd, lv q4, sd, iv p5, lv size, sd, iv ea, iv eb, un, un, un, un, un, un, un, un, un, un, un, un, un, un, un, un, un] [(.long (0 : Int64)), (.long size)]))
    refine Go.stp (fun t_ k_ => XS.lcmp X0.here hx rfl (hb hby at_56) rfl k_) ?_
    show Go p.tables e below G (s₁.setTop (mkF m 57 #[lv q0, sd, lv q1, sd, lv q2, sd, lv q3, sd, lv q4, sd, iv p5, lv size, sd, iv ea, iv eb, un, un, un, un, un, un, un, un, un, un, un, un, un, un, un, un, un] [(.int (lcmpW size (0 : Int64)))]))
    have hd57 : (0 : Int64) < size := hpos
    refine Go.stp (fun t_ k_ => XS.ifNo X0.here hx rfl (hb hby at_57) rfl ((if0 _ _).trans (tlt ((lw_gt size (0 : Int64)).mpr hd57)).2.2.2) k_) ?_
    show Go p.tables e below G (s₁.setTop (mkF m 60 #[lv q0, sd, lv q1, sd, lv q2, sd, lv q3, sd, lv q4, sd, iv p5, lv size, sd, iv ea, iv eb, un, un, un, un, un, un, un, un, un, un, un, un, un, un, un, un, un] []))
    refine Go.stp (fun t_ k_ => XS.iload X0.here hx rfl (hb hby at_60) rfl k_) ?_
    show Go p.tables e below G (s₁.setTop (mkF m 62 #[lv q0, sd, lv q1, sd, lv q2, sd, lv q3, sd, lv q4, sd, iv p5, lv size, sd, iv ea, iv eb, un, un, un, un, un, un, un, un, un, un, un, un, un, un, un, un, un] [(.int p5)]))
    refine Go.stp (fun t_ k_ => XS.iconst X0.here hx rfl (hb hby at_62) k_) ?_
    show Go p.tables e below G (s₁.setTop (mkF m 63 #[lv q0, sd, lv q1, sd, lv q2, sd, lv q3, sd, lv q4, sd, iv p5, lv size, sd, iv ea, iv eb, un, un, un, un, un, un, un, un, un, un, un, un, un, un, un, un, un] [(.int (4 : Int32)), (.int p5)]))
    refine Go.stp (fun t_ k_ => XS.iand X0.here hx rfl (hb hby at_63) rfl k_) ?_
    show Go p.tables e below G (s₁.setTop (mkF m 64 #[lv q0, sd, lv q1, sd, lv q2, sd, lv q3, sd, lv q4, sd, iv p5, lv size, sd, iv ea, iv eb, un, un, un, un, un, un, un, un, un, un, un, un, un, un, un, un, un] [(.int (p5 &&& (4 : Int32)))]))
    suffices J4 : ∀ (ec : Int32), ((((p5 &&& (4 : Int32)) = (0 : Int32)) ∧ ec = (0 : Int32)) ∨ (¬ ((p5 &&& (4 : Int32)) = (0 : Int32)) ∧ ec = (1 : Int32))) → Go p.tables e below G (s₁.setTop (mkF m 72 #[lv q0, sd, lv q1, sd, lv q2, sd, lv q3, sd, lv q4, sd, iv p5, lv size, sd, iv ea, iv eb, un, un, un, un, un, un, un, un, un, un, un, un, un, un, un, un, un] [(.int ec)])) by
      by_cases hc64 : (p5 &&& (4 : Int32)) = (0 : Int32)
      · refine Go.stp (fun t_ k_ => XS.ifYes X0.here hx rfl (pc0 := 64) (pc' := 71) rfl (hb hby at_64) rfl ((if0 _ _).trans (teq hc64).1) (by decide) (by decide) k_) ?_
        show Go p.tables e below G (s₁.setTop (mkF m 71 #[lv q0, sd, lv q1, sd, lv q2, sd, lv q3, sd, lv q4, sd, iv p5, lv size, sd, iv ea, iv eb, un, un, un, un, un, un, un, un, un, un, un, un, un, un, un, un, un] []))
        refine Go.stp (fun t_ k_ => XS.iconst X0.here hx rfl (hb hby at_71) k_) ?_
        show Go p.tables e below G (s₁.setTop (mkF m 72 #[lv q0, sd, lv q1, sd, lv q2, sd, lv q3, sd, lv q4, sd, iv p5, lv size, sd, iv ea, iv eb, un, un, un, un, un, un, un, un, un, un, un, un, un, un, un, un, un] [(.int (0 : Int32))]))
        exact J4 _ (Or.inl ⟨hc64, rfl⟩)
      · refine Go.stp (fun t_ k_ => XS.ifNo X0.here hx rfl (hb hby at_64) rfl ((if0 _ _).trans (feq hc64).1) k_) ?_
        show Go p.tables e below G (s₁.setTop (mkF m 67 #[lv q0, sd, lv q1, sd, lv q2, sd, lv q3, sd, lv q4, sd, iv p5, lv size, sd, iv ea, iv eb, un, un, un, un, un, un, un, un, un, un, un, un, un, un, un, un, un] []))
        refine Go.stp (fun t_ k_ => XS.iconst X0.here hx rfl (hb hby at_67) k_) ?_
        show Go p.tables e below G (s₁.setTop (mkF m 68 #[lv q0, sd, lv q1, sd, lv q2, sd, lv q3, sd, lv q4, sd, iv p5, lv size, sd, iv ea, iv eb, un, un, un, un, un, un, un, un, un, un, un, un, un, un, un, un, un] [(.int (1 : Int32))]))
        refine Go.stp (fun t_ k_ => XS.goto X0.here hx rfl (pc0 := 68) (pc' := 72) rfl (hb hby at_68) (by decide) (by decide) k_) ?_
        show Go p.tables e below G (s₁.setTop (mkF m 72 #[lv q0, sd, lv q1, sd, lv q2, sd, lv q3, sd, lv q4, sd, iv p5, lv size, sd, iv ea, iv eb, un, un, un, un, un, un, un, un, un, un, un, un, un, un, un, un, un] [(.int (1 : Int32))]))
        exact J4 _ (Or.inr ⟨hc64, rfl⟩)
    intro ec hj72
    refine Go.stp (fun t_ k_ => XS.istore X0.here hx rfl (hb hby at_72) rfl (l' := #[lv q0, sd, lv q1, sd, lv q2, sd, lv q3, sd, lv q4, sd, iv p5, lv size, sd, iv ea, iv eb, iv ec, un, un, un, un, un, un, un, un, un, un, un, un, un, un, un, un]) rfl k_) ?_
    show Go p.tables e below G (s₁.setTop (mkF m 74 #[lv q0, sd, lv q1, sd, lv q2, sd, lv q3, sd, lv q4, sd, iv p5, lv size, sd, iv ea, iv eb, iv ec, un, un, un, un, un, un, un, un, un, un, un, un, un, un, un, un] []))
    refine Go.stp (fun t_ k_ => XS.lload X0.here hx rfl (hb hby at_74) rfl k_) ?_
    show Go p.tables e below G (s₁.setTop (mkF m 76 #[lv q0, sd, lv q1, sd, lv q2, sd, lv q3, sd, lv q4, sd, iv p5, lv size, sd, iv ea, iv eb, iv ec, un, un, un, un, un, un, un, un, un, un, un, un, un, un, un, un] [(.long size)]))
    refine Go.stp (fun t_ k_ => XS.lconst X0.here hx rfl (hb hby at_76) k_) ?_
    show Go p.tables e below G (s₁.setTop (mkF m 77 #[lv q0, sd, lv q1, sd, lv q2, sd, lv q3, sd, lv q4, sd, iv p5, lv size, sd, iv ea, iv eb, iv ec, un, un, un, un, un, un, un, un, un, un, un, un, un, un, un, un] [(.long (0 : Int64)), (.long size)]))
    refine Go.stp (fun t_ k_ => XS.lcmp X0.here hx rfl (hb hby at_77) rfl k_) ?_
    show Go p.tables e below G (s₁.setTop (mkF m 78 #[lv q0, sd, lv q1, sd, lv q2, sd, lv q3, sd, lv q4, sd, iv p5, lv size, sd, iv ea, iv eb, iv ec, un, un, un, un, un, un, un, un, un, un, un, un, un, un, un, un] [(.int (lcmpW size (0 : Int64)))]))
    have hd78 : (0 : Int64) < size := hpos
    refine Go.stp (fun t_ k_ => XS.ifNo X0.here hx rfl (hb hby at_78) rfl ((if0 _ _).trans (tlt ((lw_gt size (0 : Int64)).mpr hd78)).2.2.2) k_) ?_
    show Go p.tables e below G (s₁.setTop (mkF m 81 #[lv q0, sd, lv q1, sd, lv q2, sd, lv q3, sd, lv q4, sd, iv p5, lv size, sd, iv ea, iv eb, iv ec, un, un, un, un, un, un, un, un, un, un, un, un, un, un, un, un] []))
    refine Go.stp (fun t_ k_ => XS.iload X0.here hx rfl (hb hby at_81) rfl k_) ?_
    show Go p.tables e below G (s₁.setTop (mkF m 83 #[lv q0, sd, lv q1, sd, lv q2, sd, lv q3, sd, lv q4, sd, iv p5, lv size, sd, iv ea, iv eb, iv ec, un, un, un, un, un, un, un, un, un, un, un, un, un, un, un, un] [(.int p5)]))
    refine Go.stp (fun t_ k_ => XS.bipush X0.here hx rfl (hb hby at_83) k_) ?_
    show Go p.tables e below G (s₁.setTop (mkF m 85 #[lv q0, sd, lv q1, sd, lv q2, sd, lv q3, sd, lv q4, sd, iv p5, lv size, sd, iv ea, iv eb, iv ec, un, un, un, un, un, un, un, un, un, un, un, un, un, un, un, un] [(.int (8 : Int32)), (.int p5)]))
    refine Go.stp (fun t_ k_ => XS.iand X0.here hx rfl (hb hby at_85) rfl k_) ?_
    show Go p.tables e below G (s₁.setTop (mkF m 86 #[lv q0, sd, lv q1, sd, lv q2, sd, lv q3, sd, lv q4, sd, iv p5, lv size, sd, iv ea, iv eb, iv ec, un, un, un, un, un, un, un, un, un, un, un, un, un, un, un, un] [(.int (p5 &&& (8 : Int32)))]))
    suffices J5 : ∀ (ed : Int32), ((((p5 &&& (8 : Int32)) = (0 : Int32)) ∧ ed = (0 : Int32)) ∨ (¬ ((p5 &&& (8 : Int32)) = (0 : Int32)) ∧ ed = (1 : Int32))) → Go p.tables e below G (s₁.setTop (mkF m 94 #[lv q0, sd, lv q1, sd, lv q2, sd, lv q3, sd, lv q4, sd, iv p5, lv size, sd, iv ea, iv eb, iv ec, un, un, un, un, un, un, un, un, un, un, un, un, un, un, un, un] [(.int ed)])) by
      by_cases hc86 : (p5 &&& (8 : Int32)) = (0 : Int32)
      · refine Go.stp (fun t_ k_ => XS.ifYes X0.here hx rfl (pc0 := 86) (pc' := 93) rfl (hb hby at_86) rfl ((if0 _ _).trans (teq hc86).1) (by decide) (by decide) k_) ?_
        show Go p.tables e below G (s₁.setTop (mkF m 93 #[lv q0, sd, lv q1, sd, lv q2, sd, lv q3, sd, lv q4, sd, iv p5, lv size, sd, iv ea, iv eb, iv ec, un, un, un, un, un, un, un, un, un, un, un, un, un, un, un, un] []))
        refine Go.stp (fun t_ k_ => XS.iconst X0.here hx rfl (hb hby at_93) k_) ?_
        show Go p.tables e below G (s₁.setTop (mkF m 94 #[lv q0, sd, lv q1, sd, lv q2, sd, lv q3, sd, lv q4, sd, iv p5, lv size, sd, iv ea, iv eb, iv ec, un, un, un, un, un, un, un, un, un, un, un, un, un, un, un, un] [(.int (0 : Int32))]))
        exact J5 _ (Or.inl ⟨hc86, rfl⟩)
      · refine Go.stp (fun t_ k_ => XS.ifNo X0.here hx rfl (hb hby at_86) rfl ((if0 _ _).trans (feq hc86).1) k_) ?_
        show Go p.tables e below G (s₁.setTop (mkF m 89 #[lv q0, sd, lv q1, sd, lv q2, sd, lv q3, sd, lv q4, sd, iv p5, lv size, sd, iv ea, iv eb, iv ec, un, un, un, un, un, un, un, un, un, un, un, un, un, un, un, un] []))
        refine Go.stp (fun t_ k_ => XS.iconst X0.here hx rfl (hb hby at_89) k_) ?_
        show Go p.tables e below G (s₁.setTop (mkF m 90 #[lv q0, sd, lv q1, sd, lv q2, sd, lv q3, sd, lv q4, sd, iv p5, lv size, sd, iv ea, iv eb, iv ec, un, un, un, un, un, un, un, un, un, un, un, un, un, un, un, un] [(.int (1 : Int32))]))
        refine Go.stp (fun t_ k_ => XS.goto X0.here hx rfl (pc0 := 90) (pc' := 94) rfl (hb hby at_90) (by decide) (by decide) k_) ?_
        show Go p.tables e below G (s₁.setTop (mkF m 94 #[lv q0, sd, lv q1, sd, lv q2, sd, lv q3, sd, lv q4, sd, iv p5, lv size, sd, iv ea, iv eb, iv ec, un, un, un, un, un, un, un, un, un, un, un, un, un, un, un, un] [(.int (1 : Int32))]))
        exact J5 _ (Or.inr ⟨hc86, rfl⟩)
    intro ed hj94
    refine Go.stp (fun t_ k_ => XS.istore X0.here hx rfl (hb hby at_94) rfl (l' := #[lv q0, sd, lv q1, sd, lv q2, sd, lv q3, sd, lv q4, sd, iv p5, lv size, sd, iv ea, iv eb, iv ec, iv ed, un, un, un, un, un, un, un, un, un, un, un, un, un, un, un]) rfl k_) ?_
    show Go p.tables e below G (s₁.setTop (mkF m 96 #[lv q0, sd, lv q1, sd, lv q2, sd, lv q3, sd, lv q4, sd, iv p5, lv size, sd, iv ea, iv eb, iv ec, iv ed, un, un, un, un, un, un, un, un, un, un, un, un, un, un, un] []))
    refine Go.stp (fun t_ k_ => XS.lload X0.here hx rfl (hb hby at_96) rfl k_) ?_
    show Go p.tables e below G (s₁.setTop (mkF m 98 #[lv q0, sd, lv q1, sd, lv q2, sd, lv q3, sd, lv q4, sd, iv p5, lv size, sd, iv ea, iv eb, iv ec, iv ed, un, un, un, un, un, un, un, un, un, un, un, un, un, un, un] [(.long size)]))
    refine Go.stp (fun t_ k_ => XS.lconst X0.here hx rfl (hb hby at_98) k_) ?_
    show Go p.tables e below G (s₁.setTop (mkF m 99 #[lv q0, sd, lv q1, sd, lv q2, sd, lv q3, sd, lv q4, sd, iv p5, lv size, sd, iv ea, iv eb, iv ec, iv ed, un, un, un, un, un, un, un, un, un, un, un, un, un, un, un] [(.long (0 : Int64)), (.long size)]))
    refine Go.stp (fun t_ k_ => XS.lcmp X0.here hx rfl (hb hby at_99) rfl k_) ?_
    show Go p.tables e below G (s₁.setTop (mkF m 100 #[lv q0, sd, lv q1, sd, lv q2, sd, lv q3, sd, lv q4, sd, iv p5, lv size, sd, iv ea, iv eb, iv ec, iv ed, un, un, un, un, un, un, un, un, un, un, un, un, un, un, un] [(.int (lcmpW size (0 : Int64)))]))
    have hd100 : (0 : Int64) < size := hpos
    refine Go.stp (fun t_ k_ => XS.ifNo X0.here hx rfl (hb hby at_100) rfl ((if0 _ _).trans (tlt ((lw_gt size (0 : Int64)).mpr hd100)).2.2.2) k_) ?_
    show Go p.tables e below G (s₁.setTop (mkF m 103 #[lv q0, sd, lv q1, sd, lv q2, sd, lv q3, sd, lv q4, sd, iv p5, lv size, sd, iv ea, iv eb, iv ec, iv ed, un, un, un, un, un, un, un, un, un, un, un, un, un, un, un] []))
    refine Go.stp (fun t_ k_ => XS.lloadN X0.here hx rfl (hb hby at_103) rfl k_) ?_
    show Go p.tables e below G (s₁.setTop (mkF m 104 #[lv q0, sd, lv q1, sd, lv q2, sd, lv q3, sd, lv q4, sd, iv p5, lv size, sd, iv ea, iv eb, iv ec, iv ed, un, un, un, un, un, un, un, un, un, un, un, un, un, un, un] [(.long q1)]))
    refine Go.stp (fun t_ k_ => XS.lload X0.here hx rfl (hb hby at_104) rfl k_) ?_
    show Go p.tables e below G (s₁.setTop (mkF m 106 #[lv q0, sd, lv q1, sd, lv q2, sd, lv q3, sd, lv q4, sd, iv p5, lv size, sd, iv ea, iv eb, iv ec, iv ed, un, un, un, un, un, un, un, un, un, un, un, un, un, un, un] [(.long size), (.long q1)]))
    obtain ⟨_, _, ⟨T6, L6, k6, n6⟩, -, X6, ⟨Lc6, hQ6, l6, y6, z6⟩, st6⟩ := Jvm.LawKit.callS X0 hx (y := (⟨"com/example/malla/malla/arrays/BitArrayBitCountPinLaw", "idx", "(JJ)J"⟩ : MethodName)) hown (mvT hZ (hw _ (List.mem_of_getElem? (i := 2) rfl))) (mvT hZ (hw _ (List.mem_of_getElem? (i := 3) rfl))) (mvT hZ (hw _ (List.mem_of_getElem? (i := 4) rfl))) (mvT hZ (hw _ (List.mem_of_getElem? (i := 5) rfl))) (by decide) (backOf (W := 0) (rm1 l Z a0 hw [] q1 size  h0 n0 Z0 hsz) hZ (hw _ (List.mem_of_getElem? (i := 5) rfl)) (hw _ (List.mem_of_getElem? (i := 4) rfl)) (by decide) (by decide)) (g := (mkF m 106 #[lv q0, sd, lv q1, sd, lv q2, sd, lv q3, sd, lv q4, sd, iv p5, lv size, sd, iv ea, iv eb, iv ec, iv ed, un, un, un, un, un, un, un, un, un, un, un, un, un, un, un] [(.long size), (.long q1)])) rfl (by rw [hml]; rfl) (argsL := [(.long q1), (.long size)]) (rest := []) (lenOf pd_3 rfl) rfl (by show 2 * 0 + _ ≤ _; exact Nat.le_of_eq rfl) (hb hby at_106) (fun _ _ => ⟨rfl, e0, (by decide : 0 + 0 ≤ _), (by decide : 0 + 0 ≤ _)⟩)
    dsimp only [Pt.U, Pt.locs, Pt.cells, Pt.slots] at X6 l6 y6 z6 st6 hQ6
    subst l6 y6 z6
    obtain ⟨rfl, Nq6, e6⟩ := hQ6
    have N6 := Fr.app N0 Nq6
    refine Go.stp (fun t_ k_ => st6 t_ k_) ?_
    show Go p.tables e below G (T6.setTop (mkF m 109 #[lv q0, sd, lv q1, sd, lv q2, sd, lv q3, sd, lv q4, sd, iv p5, lv size, sd, iv ea, iv eb, iv ec, iv ed, un, un, un, un, un, un, un, un, un, un, un, un, un, un, un] [(.long (own_idx q1 size))]))
    refine Go.stp (fun t_ k_ => XS.goto X6.here hx rfl (pc0 := 109) (pc' := 113) rfl (hb hby at_109) (by decide) (by decide) k_) ?_
    show Go p.tables e below G (T6.setTop (mkF m 113 #[lv q0, sd, lv q1, sd, lv q2, sd, lv q3, sd, lv q4, sd, iv p5, lv size, sd, iv ea, iv eb, iv ec, iv ed, un, un, un, un, un, un, un, un, un, un, un, un, un, un, un] [(.long (own_idx q1 size))]))
    suffices K7 : ∀ ia : Int64, ia = (own_idx q1 size) → Go p.tables e below G (T6.setTop (mkF m 113 #[lv q0, sd, lv q1, sd, lv q2, sd, lv q3, sd, lv q4, sd, iv p5, lv size, sd, iv ea, iv eb, iv ec, iv ed, un, un, un, un, un, un, un, un, un, un, un, un, un, un, un] [(.long ia)])) from K7 _ rfl
    intro ia hia
    refine Go.stp (fun t_ k_ => XS.lstore X6.here hx rfl (hb hby at_113) rfl (l' := #[lv q0, sd, lv q1, sd, lv q2, sd, lv q3, sd, lv q4, sd, iv p5, lv size, sd, iv ea, iv eb, iv ec, iv ed, lv ia, sd, un, un, un, un, un, un, un, un, un, un, un, un, un]) rfl k_) ?_
    show Go p.tables e below G (T6.setTop (mkF m 115 #[lv q0, sd, lv q1, sd, lv q2, sd, lv q3, sd, lv q4, sd, iv p5, lv size, sd, iv ea, iv eb, iv ec, iv ed, lv ia, sd, un, un, un, un, un, un, un, un, un, un, un, un, un] []))
    refine Go.stp (fun t_ k_ => XS.lload X6.here hx rfl (hb hby at_115) rfl k_) ?_
    show Go p.tables e below G (T6.setTop (mkF m 117 #[lv q0, sd, lv q1, sd, lv q2, sd, lv q3, sd, lv q4, sd, iv p5, lv size, sd, iv ea, iv eb, iv ec, iv ed, lv ia, sd, un, un, un, un, un, un, un, un, un, un, un, un, un] [(.long size)]))
    refine Go.stp (fun t_ k_ => XS.lconst X6.here hx rfl (hb hby at_117) k_) ?_
    show Go p.tables e below G (T6.setTop (mkF m 118 #[lv q0, sd, lv q1, sd, lv q2, sd, lv q3, sd, lv q4, sd, iv p5, lv size, sd, iv ea, iv eb, iv ec, iv ed, lv ia, sd, un, un, un, un, un, un, un, un, un, un, un, un, un] [(.long (0 : Int64)), (.long size)]))
    refine Go.stp (fun t_ k_ => XS.lcmp X6.here hx rfl (hb hby at_118) rfl k_) ?_
    show Go p.tables e below G (T6.setTop (mkF m 119 #[lv q0, sd, lv q1, sd, lv q2, sd, lv q3, sd, lv q4, sd, iv p5, lv size, sd, iv ea, iv eb, iv ec, iv ed, lv ia, sd, un, un, un, un, un, un, un, un, un, un, un, un, un] [(.int (lcmpW size (0 : Int64)))]))
    have hd119 : (0 : Int64) < size := hpos
    refine Go.stp (fun t_ k_ => XS.ifNo X6.here hx rfl (hb hby at_119) rfl ((if0 _ _).trans (tlt ((lw_gt size (0 : Int64)).mpr hd119)).2.2.2) k_) ?_
    show Go p.tables e below G (T6.setTop (mkF m 122 #[lv q0, sd, lv q1, sd, lv q2, sd, lv q3, sd, lv q4, sd, iv p5, lv size, sd, iv ea, iv eb, iv ec, iv ed, lv ia, sd, un, un, un, un, un, un, un, un, un, un, un, un, un] []))
    refine Go.stp (fun t_ k_ => XS.lload X6.here hx rfl (hb hby at_122) rfl k_) ?_
    show Go p.tables e below G (T6.setTop (mkF m 124 #[lv q0, sd, lv q1, sd, lv q2, sd, lv q3, sd, lv q4, sd, iv p5, lv size, sd, iv ea, iv eb, iv ec, iv ed, lv ia, sd, un, un, un, un, un, un, un, un, un, un, un, un, un] [(.long q2)]))
    refine Go.stp (fun t_ k_ => XS.lload X6.here hx rfl (hb hby at_124) rfl k_) ?_
    show Go p.tables e below G (T6.setTop (mkF m 126 #[lv q0, sd, lv q1, sd, lv q2, sd, lv q3, sd, lv q4, sd, iv p5, lv size, sd, iv ea, iv eb, iv ec, iv ed, lv ia, sd, un, un, un, un, un, un, un, un, un, un, un, un, un] [(.long size), (.long q2)]))
    obtain ⟨_, _, ⟨T8, L8, k8, n8⟩, -, X8, ⟨Lc8, hQ8, l8, y8, z8⟩, st8⟩ := Jvm.LawKit.callS X6 hx (y := (⟨"com/example/malla/malla/arrays/BitArrayBitCountPinLaw", "idx", "(JJ)J"⟩ : MethodName)) hown (mvT hZ (hw _ (List.mem_of_getElem? (i := 2) rfl))) (mvT hZ (hw _ (List.mem_of_getElem? (i := 3) rfl))) (mvT hZ (hw _ (List.mem_of_getElem? (i := 4) rfl))) (mvT hZ (hw _ (List.mem_of_getElem? (i := 5) rfl))) (by decide) (backOf (W := 0) (rm1 l Z a0 hw [] q2 size  h0 n0 Z0 hsz) hZ (hw _ (List.mem_of_getElem? (i := 5) rfl)) (hw _ (List.mem_of_getElem? (i := 4) rfl)) (by decide) (by decide)) (g := (mkF m 126 #[lv q0, sd, lv q1, sd, lv q2, sd, lv q3, sd, lv q4, sd, iv p5, lv size, sd, iv ea, iv eb, iv ec, iv ed, lv ia, sd, un, un, un, un, un, un, un, un, un, un, un, un, un] [(.long size), (.long q2)])) rfl (by rw [hml]; rfl) (argsL := [(.long q2), (.long size)]) (rest := []) (lenOf pd_3 rfl) rfl (by show 2 * 0 + _ ≤ _; exact Nat.le_of_eq rfl) (hb hby at_126) (fun _ _ => ⟨rfl, e6, (by decide : 0 + 0 ≤ _), (by decide : 0 + 0 ≤ _)⟩)
    dsimp only [Pt.U, Pt.locs, Pt.cells, Pt.slots] at X8 l8 y8 z8 st8 hQ8
    subst l8 y8 z8
    obtain ⟨rfl, Nq8, e8⟩ := hQ8
    have N8 := Fr.app N6 Nq8
    refine Go.stp (fun t_ k_ => st8 t_ k_) ?_
    show Go p.tables e below G (T8.setTop (mkF m 129 #[lv q0, sd, lv q1, sd, lv q2, sd, lv q3, sd, lv q4, sd, iv p5, lv size, sd, iv ea, iv eb, iv ec, iv ed, lv ia, sd, un, un, un, un, un, un, un, un, un, un, un, un, un] [(.long (own_idx q2 size))]))
    refine Go.stp (fun t_ k_ => XS.goto X8.here hx rfl (pc0 := 129) (pc' := 133) rfl (hb hby at_129) (by decide) (by decide) k_) ?_
    show Go p.tables e below G (T8.setTop (mkF m 133 #[lv q0, sd, lv q1, sd, lv q2, sd, lv q3, sd, lv q4, sd, iv p5, lv size, sd, iv ea, iv eb, iv ec, iv ed, lv ia, sd, un, un, un, un, un, un, un, un, un, un, un, un, un] [(.long (own_idx q2 size))]))
    suffices K9 : ∀ ib : Int64, ib = (own_idx q2 size) → Go p.tables e below G (T8.setTop (mkF m 133 #[lv q0, sd, lv q1, sd, lv q2, sd, lv q3, sd, lv q4, sd, iv p5, lv size, sd, iv ea, iv eb, iv ec, iv ed, lv ia, sd, un, un, un, un, un, un, un, un, un, un, un, un, un] [(.long ib)])) from K9 _ rfl
    intro ib hib
    refine Go.stp (fun t_ k_ => XS.lstore X8.here hx rfl (hb hby at_133) rfl (l' := #[lv q0, sd, lv q1, sd, lv q2, sd, lv q3, sd, lv q4, sd, iv p5, lv size, sd, iv ea, iv eb, iv ec, iv ed, lv ia, sd, lv ib, sd, un, un, un, un, un, un, un, un, un, un, un]) rfl k_) ?_
    show Go p.tables e below G (T8.setTop (mkF m 135 #[lv q0, sd, lv q1, sd, lv q2, sd, lv q3, sd, lv q4, sd, iv p5, lv size, sd, iv ea, iv eb, iv ec, iv ed, lv ia, sd, lv ib, sd, un, un, un, un, un, un, un, un, un, un, un] []))
    refine Go.stp (fun t_ k_ => XS.lload X8.here hx rfl (hb hby at_135) rfl k_) ?_
    show Go p.tables e below G (T8.setTop (mkF m 137 #[lv q0, sd, lv q1, sd, lv q2, sd, lv q3, sd, lv q4, sd, iv p5, lv size, sd, iv ea, iv eb, iv ec, iv ed, lv ia, sd, lv ib, sd, un, un, un, un, un, un, un, un, un, un, un] [(.long size)]))
    refine Go.stp (fun t_ k_ => XS.lconst X8.here hx rfl (hb hby at_137) k_) ?_
    show Go p.tables e below G (T8.setTop (mkF m 138 #[lv q0, sd, lv q1, sd, lv q2, sd, lv q3, sd, lv q4, sd, iv p5, lv size, sd, iv ea, iv eb, iv ec, iv ed, lv ia, sd, lv ib, sd, un, un, un, un, un, un, un, un, un, un, un] [(.long (0 : Int64)), (.long size)]))
    refine Go.stp (fun t_ k_ => XS.lcmp X8.here hx rfl (hb hby at_138) rfl k_) ?_
    show Go p.tables e below G (T8.setTop (mkF m 139 #[lv q0, sd, lv q1, sd, lv q2, sd, lv q3, sd, lv q4, sd, iv p5, lv size, sd, iv ea, iv eb, iv ec, iv ed, lv ia, sd, lv ib, sd, un, un, un, un, un, un, un, un, un, un, un] [(.int (lcmpW size (0 : Int64)))]))
    have hd139 : (0 : Int64) < size := hpos
    refine Go.stp (fun t_ k_ => XS.ifNo X8.here hx rfl (hb hby at_139) rfl ((if0 _ _).trans (tlt ((lw_gt size (0 : Int64)).mpr hd139)).2.2.2) k_) ?_
    show Go p.tables e below G (T8.setTop (mkF m 142 #[lv q0, sd, lv q1, sd, lv q2, sd, lv q3, sd, lv q4, sd, iv p5, lv size, sd, iv ea, iv eb, iv ec, iv ed, lv ia, sd, lv ib, sd, un, un, un, un, un, un, un, un, un, un, un] []))
    refine Go.stp (fun t_ k_ => XS.lload X8.here hx rfl (hb hby at_142) rfl k_) ?_
    show Go p.tables e below G (T8.setTop (mkF m 144 #[lv q0, sd, lv q1, sd, lv q2, sd, lv q3, sd, lv q4, sd, iv p5, lv size, sd, iv ea, iv eb, iv ec, iv ed, lv ia, sd, lv ib, sd, un, un, un, un, un, un, un, un, un, un, un] [(.long q3)]))
    refine Go.stp (fun t_ k_ => XS.lload X8.here hx rfl (hb hby at_144) rfl k_) ?_
    show Go p.tables e below G (T8.setTop (mkF m 146 #[lv q0, sd, lv q1, sd, lv q2, sd, lv q3, sd, lv q4, sd, iv p5, lv size, sd, iv ea, iv eb, iv ec, iv ed, lv ia, sd, lv ib, sd, un, un, un, un, un, un, un, un, un, un, un] [(.long size), (.long q3)]))
    obtain ⟨_, _, ⟨T10, L10, k10, n10⟩, -, X10, ⟨Lc10, hQ10, l10, y10, z10⟩, st10⟩ := Jvm.LawKit.callS X8 hx (y := (⟨"com/example/malla/malla/arrays/BitArrayBitCountPinLaw", "idx", "(JJ)J"⟩ : MethodName)) hown (mvT hZ (hw _ (List.mem_of_getElem? (i := 2) rfl))) (mvT hZ (hw _ (List.mem_of_getElem? (i := 3) rfl))) (mvT hZ (hw _ (List.mem_of_getElem? (i := 4) rfl))) (mvT hZ (hw _ (List.mem_of_getElem? (i := 5) rfl))) (by decide) (backOf (W := 0) (rm1 l Z a0 hw [] q3 size  h0 n0 Z0 hsz) hZ (hw _ (List.mem_of_getElem? (i := 5) rfl)) (hw _ (List.mem_of_getElem? (i := 4) rfl)) (by decide) (by decide)) (g := (mkF m 146 #[lv q0, sd, lv q1, sd, lv q2, sd, lv q3, sd, lv q4, sd, iv p5, lv size, sd, iv ea, iv eb, iv ec, iv ed, lv ia, sd, lv ib, sd, un, un, un, un, un, un, un, un, un, un, un] [(.long size), (.long q3)])) rfl (by rw [hml]; rfl) (argsL := [(.long q3), (.long size)]) (rest := []) (lenOf pd_3 rfl) rfl (by show 2 * 0 + _ ≤ _; exact Nat.le_of_eq rfl) (hb hby at_146) (fun _ _ => ⟨rfl, e8, (by decide : 0 + 0 ≤ _), (by decide : 0 + 0 ≤ _)⟩)
    dsimp only [Pt.U, Pt.locs, Pt.cells, Pt.slots] at X10 l10 y10 z10 st10 hQ10
    subst l10 y10 z10
    obtain ⟨rfl, Nq10, e10⟩ := hQ10
    have N10 := Fr.app N8 Nq10
    refine Go.stp (fun t_ k_ => st10 t_ k_) ?_
    show Go p.tables e below G (T10.setTop (mkF m 149 #[lv q0, sd, lv q1, sd, lv q2, sd, lv q3, sd, lv q4, sd, iv p5, lv size, sd, iv ea, iv eb, iv ec, iv ed, lv ia, sd, lv ib, sd, un, un, un, un, un, un, un, un, un, un, un] [(.long (own_idx q3 size))]))
    refine Go.stp (fun t_ k_ => XS.goto X10.here hx rfl (pc0 := 149) (pc' := 153) rfl (hb hby at_149) (by decide) (by decide) k_) ?_
    show Go p.tables e below G (T10.setTop (mkF m 153 #[lv q0, sd, lv q1, sd, lv q2, sd, lv q3, sd, lv q4, sd, iv p5, lv size, sd, iv ea, iv eb, iv ec, iv ed, lv ia, sd, lv ib, sd, un, un, un, un, un, un, un, un, un, un, un] [(.long (own_idx q3 size))]))
    suffices K11 : ∀ ic : Int64, ic = (own_idx q3 size) → Go p.tables e below G (T10.setTop (mkF m 153 #[lv q0, sd, lv q1, sd, lv q2, sd, lv q3, sd, lv q4, sd, iv p5, lv size, sd, iv ea, iv eb, iv ec, iv ed, lv ia, sd, lv ib, sd, un, un, un, un, un, un, un, un, un, un, un] [(.long ic)])) from K11 _ rfl
    intro ic hic
    refine Go.stp (fun t_ k_ => XS.lstore X10.here hx rfl (hb hby at_153) rfl (l' := #[lv q0, sd, lv q1, sd, lv q2, sd, lv q3, sd, lv q4, sd, iv p5, lv size, sd, iv ea, iv eb, iv ec, iv ed, lv ia, sd, lv ib, sd, lv ic, sd, un, un, un, un, un, un, un, un, un]) rfl k_) ?_
    show Go p.tables e below G (T10.setTop (mkF m 155 #[lv q0, sd, lv q1, sd, lv q2, sd, lv q3, sd, lv q4, sd, iv p5, lv size, sd, iv ea, iv eb, iv ec, iv ed, lv ia, sd, lv ib, sd, lv ic, sd, un, un, un, un, un, un, un, un, un] []))
    refine Go.stp (fun t_ k_ => XS.lload X10.here hx rfl (hb hby at_155) rfl k_) ?_
    show Go p.tables e below G (T10.setTop (mkF m 157 #[lv q0, sd, lv q1, sd, lv q2, sd, lv q3, sd, lv q4, sd, iv p5, lv size, sd, iv ea, iv eb, iv ec, iv ed, lv ia, sd, lv ib, sd, lv ic, sd, un, un, un, un, un, un, un, un, un] [(.long size)]))
    refine Go.stp (fun t_ k_ => XS.lconst X10.here hx rfl (hb hby at_157) k_) ?_
    show Go p.tables e below G (T10.setTop (mkF m 158 #[lv q0, sd, lv q1, sd, lv q2, sd, lv q3, sd, lv q4, sd, iv p5, lv size, sd, iv ea, iv eb, iv ec, iv ed, lv ia, sd, lv ib, sd, lv ic, sd, un, un, un, un, un, un, un, un, un] [(.long (0 : Int64)), (.long size)]))
    refine Go.stp (fun t_ k_ => XS.lcmp X10.here hx rfl (hb hby at_158) rfl k_) ?_
    show Go p.tables e below G (T10.setTop (mkF m 159 #[lv q0, sd, lv q1, sd, lv q2, sd, lv q3, sd, lv q4, sd, iv p5, lv size, sd, iv ea, iv eb, iv ec, iv ed, lv ia, sd, lv ib, sd, lv ic, sd, un, un, un, un, un, un, un, un, un] [(.int (lcmpW size (0 : Int64)))]))
    have hd159 : (0 : Int64) < size := hpos
    refine Go.stp (fun t_ k_ => XS.ifNo X10.here hx rfl (hb hby at_159) rfl ((if0 _ _).trans (tlt ((lw_gt size (0 : Int64)).mpr hd159)).2.2.2) k_) ?_
    show Go p.tables e below G (T10.setTop (mkF m 162 #[lv q0, sd, lv q1, sd, lv q2, sd, lv q3, sd, lv q4, sd, iv p5, lv size, sd, iv ea, iv eb, iv ec, iv ed, lv ia, sd, lv ib, sd, lv ic, sd, un, un, un, un, un, un, un, un, un] []))
    refine Go.stp (fun t_ k_ => XS.lload X10.here hx rfl (hb hby at_162) rfl k_) ?_
    show Go p.tables e below G (T10.setTop (mkF m 164 #[lv q0, sd, lv q1, sd, lv q2, sd, lv q3, sd, lv q4, sd, iv p5, lv size, sd, iv ea, iv eb, iv ec, iv ed, lv ia, sd, lv ib, sd, lv ic, sd, un, un, un, un, un, un, un, un, un] [(.long q4)]))
    refine Go.stp (fun t_ k_ => XS.lload X10.here hx rfl (hb hby at_164) rfl k_) ?_
    show Go p.tables e below G (T10.setTop (mkF m 166 #[lv q0, sd, lv q1, sd, lv q2, sd, lv q3, sd, lv q4, sd, iv p5, lv size, sd, iv ea, iv eb, iv ec, iv ed, lv ia, sd, lv ib, sd, lv ic, sd, un, un, un, un, un, un, un, un, un] [(.long size), (.long q4)]))
    obtain ⟨_, _, ⟨T12, L12, k12, n12⟩, -, X12, ⟨Lc12, hQ12, l12, y12, z12⟩, st12⟩ := Jvm.LawKit.callS X10 hx (y := (⟨"com/example/malla/malla/arrays/BitArrayBitCountPinLaw", "idx", "(JJ)J"⟩ : MethodName)) hown (mvT hZ (hw _ (List.mem_of_getElem? (i := 2) rfl))) (mvT hZ (hw _ (List.mem_of_getElem? (i := 3) rfl))) (mvT hZ (hw _ (List.mem_of_getElem? (i := 4) rfl))) (mvT hZ (hw _ (List.mem_of_getElem? (i := 5) rfl))) (by decide) (backOf (W := 0) (rm1 l Z a0 hw [] q4 size  h0 n0 Z0 hsz) hZ (hw _ (List.mem_of_getElem? (i := 5) rfl)) (hw _ (List.mem_of_getElem? (i := 4) rfl)) (by decide) (by decide)) (g := (mkF m 166 #[lv q0, sd, lv q1, sd, lv q2, sd, lv q3, sd, lv q4, sd, iv p5, lv size, sd, iv ea, iv eb, iv ec, iv ed, lv ia, sd, lv ib, sd, lv ic, sd, un, un, un, un, un, un, un, un, un] [(.long size), (.long q4)])) rfl (by rw [hml]; rfl) (argsL := [(.long q4), (.long size)]) (rest := []) (lenOf pd_3 rfl) rfl (by show 2 * 0 + _ ≤ _; exact Nat.le_of_eq rfl) (hb hby at_166) (fun _ _ => ⟨rfl, e10, (by decide : 0 + 0 ≤ _), (by decide : 0 + 0 ≤ _)⟩)
    dsimp only [Pt.U, Pt.locs, Pt.cells, Pt.slots] at X12 l12 y12 z12 st12 hQ12
    subst l12 y12 z12
    obtain ⟨rfl, Nq12, e12⟩ := hQ12
    have N12 := Fr.app N10 Nq12
    refine Go.stp (fun t_ k_ => st12 t_ k_) ?_
    show Go p.tables e below G (T12.setTop (mkF m 169 #[lv q0, sd, lv q1, sd, lv q2, sd, lv q3, sd, lv q4, sd, iv p5, lv size, sd, iv ea, iv eb, iv ec, iv ed, lv ia, sd, lv ib, sd, lv ic, sd, un, un, un, un, un, un, un, un, un] [(.long (own_idx q4 size))]))
    refine Go.stp (fun t_ k_ => XS.goto X12.here hx rfl (pc0 := 169) (pc' := 173) rfl (hb hby at_169) (by decide) (by decide) k_) ?_
    show Go p.tables e below G (T12.setTop (mkF m 173 #[lv q0, sd, lv q1, sd, lv q2, sd, lv q3, sd, lv q4, sd, iv p5, lv size, sd, iv ea, iv eb, iv ec, iv ed, lv ia, sd, lv ib, sd, lv ic, sd, un, un, un, un, un, un, un, un, un] [(.long (own_idx q4 size))]))
    suffices K13 : ∀ id' : Int64, id' = (own_idx q4 size) → Go p.tables e below G (T12.setTop (mkF m 173 #[lv q0, sd, lv q1, sd, lv q2, sd, lv q3, sd, lv q4, sd, iv p5, lv size, sd, iv ea, iv eb, iv ec, iv ed, lv ia, sd, lv ib, sd, lv ic, sd, un, un, un, un, un, un, un, un, un] [(.long id')])) from K13 _ rfl
    intro id' hid'
    refine Go.stp (fun t_ k_ => XS.lstore X12.here hx rfl (hb hby at_173) rfl (l' := #[lv q0, sd, lv q1, sd, lv q2, sd, lv q3, sd, lv q4, sd, iv p5, lv size, sd, iv ea, iv eb, iv ec, iv ed, lv ia, sd, lv ib, sd, lv ic, sd, lv id', sd, un, un, un, un, un, un, un]) rfl k_) ?_
    show Go p.tables e below G (T12.setTop (mkF m 175 #[lv q0, sd, lv q1, sd, lv q2, sd, lv q3, sd, lv q4, sd, iv p5, lv size, sd, iv ea, iv eb, iv ec, iv ed, lv ia, sd, lv ib, sd, lv ic, sd, lv id', sd, un, un, un, un, un, un, un] []))
    have b0 : ¬ size < (0 : Int64) := hszb.1
    have b1 : ¬ (137438952896 : Int64) < size := hszb.2.1
    have w0 : ¬ own_wc size < 0 := hszb.2.2.1
    have w5 : (own_wc size).toNatClampNeg ≤ 5 := hszb.2.2.2
    obtain ⟨nw, hnw⟩ : ∃ z, z = (own_wc size).toNatClampNeg := ⟨_, rfl⟩
    have hn5 : nw ≤ 5 := hnw ▸ w5
    have hxia := own_ixb q1 size hszb hpos
    rw [← hia, ← hnw] at hxia
    obtain ⟨h0ia, h1ia, h2ia, h3ia⟩ := hxia
    have hxib := own_ixb q2 size hszb hpos
    rw [← hib, ← hnw] at hxib
    obtain ⟨h0ib, h1ib, h2ib, h3ib⟩ := hxib
    have hxic := own_ixb q3 size hszb hpos
    rw [← hic, ← hnw] at hxic
    obtain ⟨h0ic, h1ic, h2ic, h3ic⟩ := hxic
    have hxid' := own_ixb q4 size hszb hpos
    rw [← hid', ← hnw] at hxid'
    obtain ⟨h0id', h1id', h2id', h3id'⟩ := hxid'
    obtain ⟨T14, h14, X14, e14, E14, A14, D14, -, st14⟩ := newO X12 hx hZ hown (hw _ (List.mem_of_getElem? (i := 7) rfl)) (hw _ (List.mem_of_getElem? (i := 8) rfl)) (hw _ (List.mem_of_getElem? (i := 9) rfl)) e12 (g := (mkF m 175 #[lv q0, sd, lv q1, sd, lv q2, sd, lv q3, sd, lv q4, sd, iv p5, lv size, sd, iv ea, iv eb, iv ec, iv ed, lv ia, sd, lv ib, sd, lv ic, sd, lv id', sd, un, un, un, un, un, un, un] [])) rfl (hb hby at_175) (by decide) (by decide)
    obtain ⟨b14, g14⟩ : ∃ z, z = h0.size := ⟨_, rfl⟩
    rw [← g14] at A14 D14 st14
    have g_b14 : n0 ≤ b14 := Nat.le_trans Z0 (Nat.le_of_eq g14.symm)
    have Z14 : n0 ≤ h14.size := Nat.le_trans Z0 E14.1
    have f15 : Fld Z h14 b14 "com/example/malla/malla/arrays/BitArray" "size" "J" (.long (0 : Int64)) := D14 (Or.inr (hw _ (List.mem_of_getElem? (i := 21) rfl))) (ty := .long) (by decide)
    have f16 : Fld Z h14 b14 "com/example/malla/malla/arrays/BitArray" "words" "[J" .null := D14 (Or.inr (hw _ (List.mem_of_getElem? (i := 28) rfl))) (ty := (.array .long)) (by decide)
    refine Go.stp (fun t_ k_ => st14 t_ k_) ?_
    show Go p.tables e below G (T14.setTop (mkF m 178 #[lv q0, sd, lv q1, sd, lv q2, sd, lv q3, sd, lv q4, sd, iv p5, lv size, sd, iv ea, iv eb, iv ec, iv ed, lv ia, sd, lv ib, sd, lv ic, sd, lv id', sd, un, un, un, un, un, un, un] [(.ref b14)]))
    refine Go.stp (fun t_ k_ => XS.dup X14.here hx rfl (hb hby at_178) rfl rfl k_) ?_
    show Go p.tables e below G (T14.setTop (mkF m 179 #[lv q0, sd, lv q1, sd, lv q2, sd, lv q3, sd, lv q4, sd, iv p5, lv size, sd, iv ea, iv eb, iv ec, iv ed, lv ia, sd, lv ib, sd, lv ic, sd, lv id', sd, un, un, un, un, un, un, un] [(.ref b14), (.ref b14)]))
    refine Go.stp (fun t_ k_ => XS.lload X14.here hx rfl (hb hby at_179) rfl k_) ?_
    show Go p.tables e below G (T14.setTop (mkF m 181 #[lv q0, sd, lv q1, sd, lv q2, sd, lv q3, sd, lv q4, sd, iv p5, lv size, sd, iv ea, iv eb, iv ec, iv ed, lv ia, sd, lv ib, sd, lv ic, sd, lv id', sd, un, un, un, un, un, un, un] [(.long size), (.ref b14), (.ref b14)]))
    obtain ⟨_, _, ⟨T17, L17, k17, n17⟩, -, X17, ⟨Lc17, hQ17, l17, y17, z17⟩, st17⟩ := X14.specialBack hx (y := (⟨"com/example/malla/malla/arrays/BitArray", "<init>", "(J)V"⟩ : MethodName)) rfl hown (mvT hZ (hw _ (List.mem_of_getElem? (i := 10) rfl))) (mvT hZ (hw _ (List.mem_of_getElem? (i := 11) rfl))) (mvT hZ (hw _ (List.mem_of_getElem? (i := 12) rfl))) (by decide) (backOf (W := 1) (rm2 l Z a0 hw [] b14 size h14 n0 Z14 A14 f15 f16 g_b14 b0 b1 w0 w5) hZ (hw _ (List.mem_of_getElem? (i := 12) rfl)) (hw _ (List.mem_of_getElem? (i := 9) rfl)) (by decide) (by decide)) (g := (mkF m 181 #[lv q0, sd, lv q1, sd, lv q2, sd, lv q3, sd, lv q4, sd, iv p5, lv size, sd, iv ea, iv eb, iv ec, iv ed, lv ia, sd, lv ib, sd, lv ic, sd, lv id', sd, un, un, un, un, un, un, un] [(.long size), (.ref b14), (.ref b14)])) rfl (by rw [hml]; rfl) (Steps.refl _) (a := b14) (argsL := [(.long size)]) (rest := [(.ref b14)]) (lenOf pd_1 rfl) rfl (by show 2 * 0 + _ ≤ _; exact Nat.le_of_eq rfl) (hb hby at_181) (fun _ _ => ⟨rfl, e14, (by decide : 1 + 1 ≤ _), (by decide : 2 + 5 ≤ _)⟩)
    dsimp only [Pt.U, Pt.locs, Pt.cells, Pt.slots] at X17 l17 y17 z17 st17 hQ17
    subst l17 y17 z17
    obtain ⟨rfl, Nq17, Kc17, wa, g_wa, hxw, Ex, Fs, Fw, Iw⟩ := hQ17
    have N17 := Fr.app N12 Nq17
    have f18 : Exa Z T17.heap b14 "com/example/malla/malla/arrays/BitArray" := A14.keep Kc17
    have Z17 : n0 ≤ T17.heap.size := Nat.le_trans Z14 Kc17.1
    obtain ⟨W0, hW0⟩ : ∃ z : Nat → Int64, z = (fun _ => (0 : Int64)) := ⟨_, rfl⟩
    rw [← hW0, ← hnw] at Iw
    refine Go.stp (fun t_ k_ => st17.trans k_) ?_
    show Go p.tables e below G (T17.setTop (mkF m 184 #[lv q0, sd, lv q1, sd, lv q2, sd, lv q3, sd, lv q4, sd, iv p5, lv size, sd, iv ea, iv eb, iv ec, iv ed, lv ia, sd, lv ib, sd, lv ic, sd, lv id', sd, un, un, un, un, un, un, un] [(.ref b14)]))
    refine Go.stp (fun t_ k_ => XS.astore X17.here hx rfl (hb hby at_184) rfl rfl (l' := #[lv q0, sd, lv q1, sd, lv q2, sd, lv q3, sd, lv q4, sd, iv p5, lv size, sd, iv ea, iv eb, iv ec, iv ed, lv ia, sd, lv ib, sd, lv ic, sd, lv id', sd, rv b14, un, un, un, un, un, un]) rfl k_) ?_
    show Go p.tables e below G (T17.setTop (mkF m 186 #[lv q0, sd, lv q1, sd, lv q2, sd, lv q3, sd, lv q4, sd, iv p5, lv size, sd, iv ea, iv eb, iv ec, iv ed, lv ia, sd, lv ib, sd, lv ic, sd, lv id', sd, rv b14, un, un, un, un, un, un] []))
    refine Go.stp (fun t_ k_ => XS.aload X17.here hx rfl (hb hby at_186) rfl rfl k_) ?_
    show Go p.tables e below G (T17.setTop (mkF m 188 #[lv q0, sd, lv q1, sd, lv q2, sd, lv q3, sd, lv q4, sd, iv p5, lv size, sd, iv ea, iv eb, iv ec, iv ed, lv ia, sd, lv ib, sd, lv ic, sd, lv id', sd, rv b14, un, un, un, un, un, un] [(.ref b14)]))
    obtain ⟨cq19, kq19, q19a, q19b, q19c⟩ := isOf hZ rfl Ex
    obtain ⟨_, _, ⟨T19, L19, k19, n19⟩, -, X19, ⟨Lc19, hQ19, l19, y19, z19⟩, st19⟩ := X17.virtualBack hx (y := (⟨"com/example/malla/malla/arrays/BitArray", "bitCount", "()J"⟩ : MethodName)) (z := (⟨"com/example/malla/malla/arrays/BitArray", "bitCount", "()J"⟩ : MethodName)) hown (mvT hZ (hw _ (List.mem_of_getElem? (i := 29) rfl))) (mvT hZ (hw _ (List.mem_of_getElem? (i := 30) rfl))) (notFace_of_selects (args := #[]) (mvT hZ (hw _ (List.mem_of_getElem? (i := 32) rfl)))) (mvT hZ (hw _ (List.mem_of_getElem? (i := 32) rfl))) (mvT hZ (hw _ (List.mem_of_getElem? (i := 31) rfl))) (by decide) (backOf (W := 0) (rm6 l Z a0 hw [] b14 wa nw W0 T17.heap n0 Z17 Fw Iw hn5) hZ (hw _ (List.mem_of_getElem? (i := 33) rfl)) (hw _ (List.mem_of_getElem? (i := 9) rfl)) (by decide) (by decide)) q19a q19c (g := (mkF m 188 #[lv q0, sd, lv q1, sd, lv q2, sd, lv q3, sd, lv q4, sd, iv p5, lv size, sd, iv ea, iv eb, iv ec, iv ed, lv ia, sd, lv ib, sd, lv ic, sd, lv id', sd, rv b14, un, un, un, un, un, un] [(.ref b14)])) rfl (by rw [hml]; rfl) (Steps.refl _) (argsL := []) (rest := []) (lenOf pd_4 rfl) rfl (by show 2 * 0 + _ ≤ _; exact Nat.le_of_eq rfl) (hb hby at_188) (fun _ _ => ⟨rfl, rfl, (by decide : 2 + 0 ≤ _), (by decide : 7 + 0 ≤ _)⟩)
    dsimp only [Pt.U, Pt.locs, Pt.cells, Pt.slots] at X19 l19 y19 z19 st19 hQ19
    subst l19 y19 z19
    obtain ⟨rfl, Nq19, e19⟩ := hQ19
    have N19 := Fr.app N17 Nq19
    refine Go.stp (fun t_ k_ => st19.trans k_) ?_
    show Go p.tables e below G (T19.setTop (mkF m 191 #[lv q0, sd, lv q1, sd, lv q2, sd, lv q3, sd, lv q4, sd, iv p5, lv size, sd, iv ea, iv eb, iv ec, iv ed, lv ia, sd, lv ib, sd, lv ic, sd, lv id', sd, rv b14, un, un, un, un, un, un] [(.long (own_sum W0 nw))]))
    refine Go.stp (fun t_ k_ => XS.lstore X19.here hx rfl (hb hby at_191) rfl (l' := #[lv q0, sd, lv q1, sd, lv q2, sd, lv q3, sd, lv q4, sd, iv p5, lv size, sd, iv ea, iv eb, iv ec, iv ed, lv ia, sd, lv ib, sd, lv ic, sd, lv id', sd, rv b14, lv (own_sum W0 nw), sd, un, un, un, un]) rfl k_) ?_
    show Go p.tables e below G (T19.setTop (mkF m 193 #[lv q0, sd, lv q1, sd, lv q2, sd, lv q3, sd, lv q4, sd, iv p5, lv size, sd, iv ea, iv eb, iv ec, iv ed, lv ia, sd, lv ib, sd, lv ic, sd, lv id', sd, rv b14, lv (own_sum W0 nw), sd, un, un, un, un] []))
    suffices JP20 : ∀ (T : State) (locs : List Loc) (h : Heap) (W1 : Nat → Int64), Stand p l e room_1 s m #[(.long q0), (.long q1), (.long q2), (.long q3), (.long q4), (.int p5)] below meth c T locs 2 7 → Fr n0 locs → T.heap = h → n0 ≤ h.size → Ia Z h wa .long nw Value.long W1 → Fld Z h b14 "com/example/malla/malla/arrays/BitArray" "size" "J" (.long size) → Fld Z h b14 "com/example/malla/malla/arrays/BitArray" "words" "[J" (.ref wa) → Exa Z h b14 "com/example/malla/malla/arrays/BitArray" → (W1 = (if ea = (0 : Int32) then W0 else own_set W0 ia)) → Go p.tables e below G (T.setTop (mkF m 205 #[lv q0, sd, lv q1, sd, lv q2, sd, lv q3, sd, lv q4, sd, iv p5, lv size, sd, iv ea, iv eb, iv ec, iv ed, lv ia, sd, lv ib, sd, lv ic, sd, lv id', sd, rv b14, lv (own_sum W0 nw), sd, un, un, un, un] [])) by
      refine Go.stp (fun t_ k_ => XS.iload X19.here hx rfl (hb hby at_193) rfl k_) ?_
      show Go p.tables e below G (T19.setTop (mkF m 195 #[lv q0, sd, lv q1, sd, lv q2, sd, lv q3, sd, lv q4, sd, iv p5, lv size, sd, iv ea, iv eb, iv ec, iv ed, lv ia, sd, lv ib, sd, lv ic, sd, lv id', sd, rv b14, lv (own_sum W0 nw), sd, un, un, un, un] [(.int ea)]))
      by_cases hc195 : ea = (0 : Int32)
      · refine Go.stp (fun t_ k_ => XS.ifYes X19.here hx rfl (pc0 := 195) (pc' := 205) rfl (hb hby at_195) rfl ((if0 _ _).trans (teq hc195).1) (by decide) (by decide) k_) ?_
        show Go p.tables e below G (T19.setTop (mkF m 205 #[lv q0, sd, lv q1, sd, lv q2, sd, lv q3, sd, lv q4, sd, iv p5, lv size, sd, iv ea, iv eb, iv ec, iv ed, lv ia, sd, lv ib, sd, lv ic, sd, lv id', sd, rv b14, lv (own_sum W0 nw), sd, un, un, un, un] []))
        exact JP20 _ _ _ _ X19 N19 e19 Z17 Iw Fs Fw Ex (if_pos hc195).symm
      · refine Go.stp (fun t_ k_ => XS.ifNo X19.here hx rfl (hb hby at_195) rfl ((if0 _ _).trans (feq hc195).1) k_) ?_
        show Go p.tables e below G (T19.setTop (mkF m 198 #[lv q0, sd, lv q1, sd, lv q2, sd, lv q3, sd, lv q4, sd, iv p5, lv size, sd, iv ea, iv eb, iv ec, iv ed, lv ia, sd, lv ib, sd, lv ic, sd, lv id', sd, rv b14, lv (own_sum W0 nw), sd, un, un, un, un] []))
        refine Go.stp (fun t_ k_ => XS.aload X19.here hx rfl (hb hby at_198) rfl rfl k_) ?_
        show Go p.tables e below G (T19.setTop (mkF m 200 #[lv q0, sd, lv q1, sd, lv q2, sd, lv q3, sd, lv q4, sd, iv p5, lv size, sd, iv ea, iv eb, iv ec, iv ed, lv ia, sd, lv ib, sd, lv ic, sd, lv id', sd, rv b14, lv (own_sum W0 nw), sd, un, un, un, un] [(.ref b14)]))
        refine Go.stp (fun t_ k_ => XS.lload X19.here hx rfl (hb hby at_200) rfl k_) ?_
        show Go p.tables e below G (T19.setTop (mkF m 202 #[lv q0, sd, lv q1, sd, lv q2, sd, lv q3, sd, lv q4, sd, iv p5, lv size, sd, iv ea, iv eb, iv ec, iv ed, lv ia, sd, lv ib, sd, lv ic, sd, lv id', sd, rv b14, lv (own_sum W0 nw), sd, un, un, un, un] [(.long ia), (.ref b14)]))
        obtain ⟨cq22, kq22, q22a, q22b, q22c⟩ := isOf hZ e19 Ex
        obtain ⟨_, _, ⟨T22, L22, k22, n22⟩, -, X22, ⟨Lc22, hQ22, l22, y22, z22⟩, st22⟩ := X19.virtualBack hx (y := (⟨"com/example/malla/malla/arrays/BitArray", "set", "(J)V"⟩ : MethodName)) (z := (⟨"com/example/malla/malla/arrays/BitArray", "set", "(J)V"⟩ : MethodName)) hown (mvT hZ (hw _ (List.mem_of_getElem? (i := 41) rfl))) (mvT hZ (hw _ (List.mem_of_getElem? (i := 42) rfl))) (notFace_of_selects (args := #[]) (mvT hZ (hw _ (List.mem_of_getElem? (i := 44) rfl)))) (mvT hZ (hw _ (List.mem_of_getElem? (i := 44) rfl))) (mvT hZ (hw _ (List.mem_of_getElem? (i := 43) rfl))) (by decide) (backOf (W := 0) (rm8 l Z a0 hw [] b14 ia size wa nw W0 T17.heap n0 Z17 Fs Fw Iw g_wa hxw h0ia h1ia h2ia) hZ (hw _ (List.mem_of_getElem? (i := 45) rfl)) (hw _ (List.mem_of_getElem? (i := 9) rfl)) (by decide) (by decide)) q22a q22c (g := (mkF m 202 #[lv q0, sd, lv q1, sd, lv q2, sd, lv q3, sd, lv q4, sd, iv p5, lv size, sd, iv ea, iv eb, iv ec, iv ed, lv ia, sd, lv ib, sd, lv ic, sd, lv id', sd, rv b14, lv (own_sum W0 nw), sd, un, un, un, un] [(.long ia), (.ref b14)])) rfl (by rw [hml]; rfl) (Steps.refl _) (argsL := [(.long ia)]) (rest := []) (lenOf pd_1 rfl) rfl (by show 2 * 0 + _ ≤ _; exact Nat.le_of_eq rfl) (hb hby at_202) (fun _ _ => ⟨rfl, e19, (by decide : 2 + 0 ≤ _), (by decide : 7 + 0 ≤ _)⟩)
        dsimp only [Pt.U, Pt.locs, Pt.cells, Pt.slots] at X22 l22 y22 z22 st22 hQ22
        subst l22 y22 z22
        obtain ⟨rfl, Nq22, Kc22, Iq22⟩ := hQ22
        have N22 := Fr.app N19 Nq22
        have f23 : Exa Z T22.heap b14 "com/example/malla/malla/arrays/BitArray" := Ex.keep Kc22
        have f24 : Fld Z T22.heap b14 "com/example/malla/malla/arrays/BitArray" "size" "J" (.long size) := Fs.keep Kc22 (fun q => by simp only [List.mem_cons, List.not_mem_nil, or_false] at q; exact hxw q)
        have f25 : Fld Z T22.heap b14 "com/example/malla/malla/arrays/BitArray" "words" "[J" (.ref wa) := Fw.keep Kc22 (fun q => by simp only [List.mem_cons, List.not_mem_nil, or_false] at q; exact hxw q)
        have Z22 : n0 ≤ T22.heap.size := Nat.le_trans Z17 Kc22.1
        refine Go.stp (fun t_ k_ => st22.trans k_) ?_
        show Go p.tables e below G (T22.setTop (mkF m 205 #[lv q0, sd, lv q1, sd, lv q2, sd, lv q3, sd, lv q4, sd, iv p5, lv size, sd, iv ea, iv eb, iv ec, iv ed, lv ia, sd, lv ib, sd, lv ic, sd, lv id', sd, rv b14, lv (own_sum W0 nw), sd, un, un, un, un] []))
        exact JP20 _ _ _ _ X22 N22 rfl Z22 Iq22 f24 f25 f23 (if_neg hc195).symm
    intro T21 locs21 h21 W1 X21 N21 E21 Z21 fx21_0 fx21_1 fx21_2 fx21_3 hW1
    show Go p.tables e below G (T21.setTop (mkF m 205 #[lv q0, sd, lv q1, sd, lv q2, sd, lv q3, sd, lv q4, sd, iv p5, lv size, sd, iv ea, iv eb, iv ec, iv ed, lv ia, sd, lv ib, sd, lv ic, sd, lv id', sd, rv b14, lv (own_sum W0 nw), sd, un, un, un, un] []))
    suffices JP26 : ∀ (T : State) (locs : List Loc) (h : Heap) (W2 : Nat → Int64), Stand p l e room_1 s m #[(.long q0), (.long q1), (.long q2), (.long q3), (.long q4), (.int p5)] below meth c T locs 2 7 → Fr n0 locs → T.heap = h → n0 ≤ h.size → Ia Z h wa .long nw Value.long W2 → Fld Z h b14 "com/example/malla/malla/arrays/BitArray" "size" "J" (.long size) → Fld Z h b14 "com/example/malla/malla/arrays/BitArray" "words" "[J" (.ref wa) → Exa Z h b14 "com/example/malla/malla/arrays/BitArray" → (W2 = (if eb = (0 : Int32) then W1 else own_set W1 ib)) → Go p.tables e below G (T.setTop (mkF m 217 #[lv q0, sd, lv q1, sd, lv q2, sd, lv q3, sd, lv q4, sd, iv p5, lv size, sd, iv ea, iv eb, iv ec, iv ed, lv ia, sd, lv ib, sd, lv ic, sd, lv id', sd, rv b14, lv (own_sum W0 nw), sd, un, un, un, un] [])) by
      refine Go.stp (fun t_ k_ => XS.iload X21.here hx rfl (hb hby at_205) rfl k_) ?_
      show Go p.tables e below G (T21.setTop (mkF m 207 #[lv q0, sd, lv q1, sd, lv q2, sd, lv q3, sd, lv q4, sd, iv p5, lv size, sd, iv ea, iv eb, iv ec, iv ed, lv ia, sd, lv ib, sd, lv ic, sd, lv id', sd, rv b14, lv (own_sum W0 nw), sd, un, un, un, un] [(.int eb)]))
      by_cases hc207 : eb = (0 : Int32)
      · refine Go.stp (fun t_ k_ => XS.ifYes X21.here hx rfl (pc0 := 207) (pc' := 217) rfl (hb hby at_207) rfl ((if0 _ _).trans (teq hc207).1) (by decide) (by decide) k_) ?_
        show Go p.tables e below G (T21.setTop (mkF m 217 #[lv q0, sd, lv q1, sd, lv q2, sd, lv q3, sd, lv q4, sd, iv p5, lv size, sd, iv ea, iv eb, iv ec, iv ed, lv ia, sd, lv ib, sd, lv ic, sd, lv id', sd, rv b14, lv (own_sum W0 nw), sd, un, un, un, un] []))
        exact JP26 _ _ _ _ X21 N21 E21 Z21 fx21_0 fx21_1 fx21_2 fx21_3 (if_pos hc207).symm
      · refine Go.stp (fun t_ k_ => XS.ifNo X21.here hx rfl (hb hby at_207) rfl ((if0 _ _).trans (feq hc207).1) k_) ?_
        show Go p.tables e below G (T21.setTop (mkF m 210 #[lv q0, sd, lv q1, sd, lv q2, sd, lv q3, sd, lv q4, sd, iv p5, lv size, sd, iv ea, iv eb, iv ec, iv ed, lv ia, sd, lv ib, sd, lv ic, sd, lv id', sd, rv b14, lv (own_sum W0 nw), sd, un, un, un, un] []))
        refine Go.stp (fun t_ k_ => XS.aload X21.here hx rfl (hb hby at_210) rfl rfl k_) ?_
        show Go p.tables e below G (T21.setTop (mkF m 212 #[lv q0, sd, lv q1, sd, lv q2, sd, lv q3, sd, lv q4, sd, iv p5, lv size, sd, iv ea, iv eb, iv ec, iv ed, lv ia, sd, lv ib, sd, lv ic, sd, lv id', sd, rv b14, lv (own_sum W0 nw), sd, un, un, un, un] [(.ref b14)]))
        refine Go.stp (fun t_ k_ => XS.lload X21.here hx rfl (hb hby at_212) rfl k_) ?_
        show Go p.tables e below G (T21.setTop (mkF m 214 #[lv q0, sd, lv q1, sd, lv q2, sd, lv q3, sd, lv q4, sd, iv p5, lv size, sd, iv ea, iv eb, iv ec, iv ed, lv ia, sd, lv ib, sd, lv ic, sd, lv id', sd, rv b14, lv (own_sum W0 nw), sd, un, un, un, un] [(.long ib), (.ref b14)]))
        obtain ⟨cq28, kq28, q28a, q28b, q28c⟩ := isOf hZ E21 fx21_3
        obtain ⟨_, _, ⟨T28, L28, k28, n28⟩, -, X28, ⟨Lc28, hQ28, l28, y28, z28⟩, st28⟩ := X21.virtualBack hx (y := (⟨"com/example/malla/malla/arrays/BitArray", "set", "(J)V"⟩ : MethodName)) (z := (⟨"com/example/malla/malla/arrays/BitArray", "set", "(J)V"⟩ : MethodName)) hown (mvT hZ (hw _ (List.mem_of_getElem? (i := 41) rfl))) (mvT hZ (hw _ (List.mem_of_getElem? (i := 42) rfl))) (notFace_of_selects (args := #[]) (mvT hZ (hw _ (List.mem_of_getElem? (i := 44) rfl)))) (mvT hZ (hw _ (List.mem_of_getElem? (i := 44) rfl))) (mvT hZ (hw _ (List.mem_of_getElem? (i := 43) rfl))) (by decide) (backOf (W := 0) (rm8 l Z a0 hw [] b14 ib size wa nw W1 h21 n0 Z21 fx21_1 fx21_2 fx21_0 g_wa hxw h0ib h1ib h2ib) hZ (hw _ (List.mem_of_getElem? (i := 45) rfl)) (hw _ (List.mem_of_getElem? (i := 9) rfl)) (by decide) (by decide)) q28a q28c (g := (mkF m 214 #[lv q0, sd, lv q1, sd, lv q2, sd, lv q3, sd, lv q4, sd, iv p5, lv size, sd, iv ea, iv eb, iv ec, iv ed, lv ia, sd, lv ib, sd, lv ic, sd, lv id', sd, rv b14, lv (own_sum W0 nw), sd, un, un, un, un] [(.long ib), (.ref b14)])) rfl (by rw [hml]; rfl) (Steps.refl _) (argsL := [(.long ib)]) (rest := []) (lenOf pd_1 rfl) rfl (by show 2 * 0 + _ ≤ _; exact Nat.le_of_eq rfl) (hb hby at_214) (fun _ _ => ⟨rfl, E21, (by decide : 2 + 0 ≤ _), (by decide : 7 + 0 ≤ _)⟩)
        dsimp only [Pt.U, Pt.locs, Pt.cells, Pt.slots] at X28 l28 y28 z28 st28 hQ28
        subst l28 y28 z28
        obtain ⟨rfl, Nq28, Kc28, Iq28⟩ := hQ28
        have N28 := Fr.app N21 Nq28
        have f29 : Exa Z T28.heap b14 "com/example/malla/malla/arrays/BitArray" := fx21_3.keep Kc28
        have f30 : Fld Z T28.heap b14 "com/example/malla/malla/arrays/BitArray" "size" "J" (.long size) := fx21_1.keep Kc28 (fun q => by simp only [List.mem_cons, List.not_mem_nil, or_false] at q; exact hxw q)
        have f31 : Fld Z T28.heap b14 "com/example/malla/malla/arrays/BitArray" "words" "[J" (.ref wa) := fx21_2.keep Kc28 (fun q => by simp only [List.mem_cons, List.not_mem_nil, or_false] at q; exact hxw q)
        have Z28 : n0 ≤ T28.heap.size := Nat.le_trans Z21 Kc28.1
        refine Go.stp (fun t_ k_ => st28.trans k_) ?_
        show Go p.tables e below G (T28.setTop (mkF m 217 #[lv q0, sd, lv q1, sd, lv q2, sd, lv q3, sd, lv q4, sd, iv p5, lv size, sd, iv ea, iv eb, iv ec, iv ed, lv ia, sd, lv ib, sd, lv ic, sd, lv id', sd, rv b14, lv (own_sum W0 nw), sd, un, un, un, un] []))
        exact JP26 _ _ _ _ X28 N28 rfl Z28 Iq28 f30 f31 f29 (if_neg hc207).symm
    intro T27 locs27 h27 W2 X27 N27 E27 Z27 fx27_0 fx27_1 fx27_2 fx27_3 hW2
    show Go p.tables e below G (T27.setTop (mkF m 217 #[lv q0, sd, lv q1, sd, lv q2, sd, lv q3, sd, lv q4, sd, iv p5, lv size, sd, iv ea, iv eb, iv ec, iv ed, lv ia, sd, lv ib, sd, lv ic, sd, lv id', sd, rv b14, lv (own_sum W0 nw), sd, un, un, un, un] []))
    suffices JP32 : ∀ (T : State) (locs : List Loc) (h : Heap) (W3 : Nat → Int64), Stand p l e room_1 s m #[(.long q0), (.long q1), (.long q2), (.long q3), (.long q4), (.int p5)] below meth c T locs 2 7 → Fr n0 locs → T.heap = h → n0 ≤ h.size → Ia Z h wa .long nw Value.long W3 → Fld Z h b14 "com/example/malla/malla/arrays/BitArray" "size" "J" (.long size) → Fld Z h b14 "com/example/malla/malla/arrays/BitArray" "words" "[J" (.ref wa) → Exa Z h b14 "com/example/malla/malla/arrays/BitArray" → (W3 = (if ec = (0 : Int32) then W2 else own_set W2 ic)) → Go p.tables e below G (T.setTop (mkF m 229 #[lv q0, sd, lv q1, sd, lv q2, sd, lv q3, sd, lv q4, sd, iv p5, lv size, sd, iv ea, iv eb, iv ec, iv ed, lv ia, sd, lv ib, sd, lv ic, sd, lv id', sd, rv b14, lv (own_sum W0 nw), sd, un, un, un, un] [])) by
      refine Go.stp (fun t_ k_ => XS.iload X27.here hx rfl (hb hby at_217) rfl k_) ?_
      show Go p.tables e below G (T27.setTop (mkF m 219 #[lv q0, sd, lv q1, sd, lv q2, sd, lv q3, sd, lv q4, sd, iv p5, lv size, sd, iv ea, iv eb, iv ec, iv ed, lv ia, sd, lv ib, sd, lv ic, sd, lv id', sd, rv b14, lv (own_sum W0 nw), sd, un, un, un, un] [(.int ec)]))
      by_cases hc219 : ec = (0 : Int32)
      · refine Go.stp (fun t_ k_ => XS.ifYes X27.here hx rfl (pc0 := 219) (pc' := 229) rfl (hb hby at_219) rfl ((if0 _ _).trans (teq hc219).1) (by decide) (by decide) k_) ?_
        show Go p.tables e below G (T27.setTop (mkF m 229 #[lv q0, sd, lv q1, sd, lv q2, sd, lv q3, sd, lv q4, sd, iv p5, lv size, sd, iv ea, iv eb, iv ec, iv ed, lv ia, sd, lv ib, sd, lv ic, sd, lv id', sd, rv b14, lv (own_sum W0 nw), sd, un, un, un, un] []))
        exact JP32 _ _ _ _ X27 N27 E27 Z27 fx27_0 fx27_1 fx27_2 fx27_3 (if_pos hc219).symm
      · refine Go.stp (fun t_ k_ => XS.ifNo X27.here hx rfl (hb hby at_219) rfl ((if0 _ _).trans (feq hc219).1) k_) ?_
        show Go p.tables e below G (T27.setTop (mkF m 222 #[lv q0, sd, lv q1, sd, lv q2, sd, lv q3, sd, lv q4, sd, iv p5, lv size, sd, iv ea, iv eb, iv ec, iv ed, lv ia, sd, lv ib, sd, lv ic, sd, lv id', sd, rv b14, lv (own_sum W0 nw), sd, un, un, un, un] []))
        refine Go.stp (fun t_ k_ => XS.aload X27.here hx rfl (hb hby at_222) rfl rfl k_) ?_
        show Go p.tables e below G (T27.setTop (mkF m 224 #[lv q0, sd, lv q1, sd, lv q2, sd, lv q3, sd, lv q4, sd, iv p5, lv size, sd, iv ea, iv eb, iv ec, iv ed, lv ia, sd, lv ib, sd, lv ic, sd, lv id', sd, rv b14, lv (own_sum W0 nw), sd, un, un, un, un] [(.ref b14)]))
        refine Go.stp (fun t_ k_ => XS.lload X27.here hx rfl (hb hby at_224) rfl k_) ?_
        show Go p.tables e below G (T27.setTop (mkF m 226 #[lv q0, sd, lv q1, sd, lv q2, sd, lv q3, sd, lv q4, sd, iv p5, lv size, sd, iv ea, iv eb, iv ec, iv ed, lv ia, sd, lv ib, sd, lv ic, sd, lv id', sd, rv b14, lv (own_sum W0 nw), sd, un, un, un, un] [(.long ic), (.ref b14)]))
        obtain ⟨cq34, kq34, q34a, q34b, q34c⟩ := isOf hZ E27 fx27_3
        obtain ⟨_, _, ⟨T34, L34, k34, n34⟩, -, X34, ⟨Lc34, hQ34, l34, y34, z34⟩, st34⟩ := X27.virtualBack hx (y := (⟨"com/example/malla/malla/arrays/BitArray", "set", "(J)V"⟩ : MethodName)) (z := (⟨"com/example/malla/malla/arrays/BitArray", "set", "(J)V"⟩ : MethodName)) hown (mvT hZ (hw _ (List.mem_of_getElem? (i := 41) rfl))) (mvT hZ (hw _ (List.mem_of_getElem? (i := 42) rfl))) (notFace_of_selects (args := #[]) (mvT hZ (hw _ (List.mem_of_getElem? (i := 44) rfl)))) (mvT hZ (hw _ (List.mem_of_getElem? (i := 44) rfl))) (mvT hZ (hw _ (List.mem_of_getElem? (i := 43) rfl))) (by decide) (backOf (W := 0) (rm8 l Z a0 hw [] b14 ic size wa nw W2 h27 n0 Z27 fx27_1 fx27_2 fx27_0 g_wa hxw h0ic h1ic h2ic) hZ (hw _ (List.mem_of_getElem? (i := 45) rfl)) (hw _ (List.mem_of_getElem? (i := 9) rfl)) (by decide) (by decide)) q34a q34c (g := (mkF m 226 #[lv q0, sd, lv q1, sd, lv q2, sd, lv q3, sd, lv q4, sd, iv p5, lv size, sd, iv ea, iv eb, iv ec, iv ed, lv ia, sd, lv ib, sd, lv ic, sd, lv id', sd, rv b14, lv (own_sum W0 nw), sd, un, un, un, un] [(.long ic), (.ref b14)])) rfl (by rw [hml]; rfl) (Steps.refl _) (argsL := [(.long ic)]) (rest := []) (lenOf pd_1 rfl) rfl (by show 2 * 0 + _ ≤ _; exact Nat.le_of_eq rfl) (hb hby at_226) (fun _ _ => ⟨rfl, E27, (by decide : 2 + 0 ≤ _), (by decide : 7 + 0 ≤ _)⟩)
        dsimp only [Pt.U, Pt.locs, Pt.cells, Pt.slots] at X34 l34 y34 z34 st34 hQ34
        subst l34 y34 z34
        obtain ⟨rfl, Nq34, Kc34, Iq34⟩ := hQ34
        have N34 := Fr.app N27 Nq34
        have f35 : Exa Z T34.heap b14 "com/example/malla/malla/arrays/BitArray" := fx27_3.keep Kc34
        have f36 : Fld Z T34.heap b14 "com/example/malla/malla/arrays/BitArray" "size" "J" (.long size) := fx27_1.keep Kc34 (fun q => by simp only [List.mem_cons, List.not_mem_nil, or_false] at q; exact hxw q)
        have f37 : Fld Z T34.heap b14 "com/example/malla/malla/arrays/BitArray" "words" "[J" (.ref wa) := fx27_2.keep Kc34 (fun q => by simp only [List.mem_cons, List.not_mem_nil, or_false] at q; exact hxw q)
        have Z34 : n0 ≤ T34.heap.size := Nat.le_trans Z27 Kc34.1
        refine Go.stp (fun t_ k_ => st34.trans k_) ?_
        show Go p.tables e below G (T34.setTop (mkF m 229 #[lv q0, sd, lv q1, sd, lv q2, sd, lv q3, sd, lv q4, sd, iv p5, lv size, sd, iv ea, iv eb, iv ec, iv ed, lv ia, sd, lv ib, sd, lv ic, sd, lv id', sd, rv b14, lv (own_sum W0 nw), sd, un, un, un, un] []))
        exact JP32 _ _ _ _ X34 N34 rfl Z34 Iq34 f36 f37 f35 (if_neg hc219).symm
    intro T33 locs33 h33 W3 X33 N33 E33 Z33 fx33_0 fx33_1 fx33_2 fx33_3 hW3
    show Go p.tables e below G (T33.setTop (mkF m 229 #[lv q0, sd, lv q1, sd, lv q2, sd, lv q3, sd, lv q4, sd, iv p5, lv size, sd, iv ea, iv eb, iv ec, iv ed, lv ia, sd, lv ib, sd, lv ic, sd, lv id', sd, rv b14, lv (own_sum W0 nw), sd, un, un, un, un] []))
    suffices JP38 : ∀ (T : State) (locs : List Loc) (h : Heap) (W4 : Nat → Int64), Stand p l e room_1 s m #[(.long q0), (.long q1), (.long q2), (.long q3), (.long q4), (.int p5)] below meth c T locs 2 7 → Fr n0 locs → T.heap = h → n0 ≤ h.size → Ia Z h wa .long nw Value.long W4 → Fld Z h b14 "com/example/malla/malla/arrays/BitArray" "size" "J" (.long size) → Fld Z h b14 "com/example/malla/malla/arrays/BitArray" "words" "[J" (.ref wa) → Exa Z h b14 "com/example/malla/malla/arrays/BitArray" → (W4 = (if ed = (0 : Int32) then W3 else own_set W3 id')) → Go p.tables e below G (T.setTop (mkF m 241 #[lv q0, sd, lv q1, sd, lv q2, sd, lv q3, sd, lv q4, sd, iv p5, lv size, sd, iv ea, iv eb, iv ec, iv ed, lv ia, sd, lv ib, sd, lv ic, sd, lv id', sd, rv b14, lv (own_sum W0 nw), sd, un, un, un, un] [])) by
      refine Go.stp (fun t_ k_ => XS.iload X33.here hx rfl (hb hby at_229) rfl k_) ?_
      show Go p.tables e below G (T33.setTop (mkF m 231 #[lv q0, sd, lv q1, sd, lv q2, sd, lv q3, sd, lv q4, sd, iv p5, lv size, sd, iv ea, iv eb, iv ec, iv ed, lv ia, sd, lv ib, sd, lv ic, sd, lv id', sd, rv b14, lv (own_sum W0 nw), sd, un, un, un, un] [(.int ed)]))
      by_cases hc231 : ed = (0 : Int32)
      · refine Go.stp (fun t_ k_ => XS.ifYes X33.here hx rfl (pc0 := 231) (pc' := 241) rfl (hb hby at_231) rfl ((if0 _ _).trans (teq hc231).1) (by decide) (by decide) k_) ?_
        show Go p.tables e below G (T33.setTop (mkF m 241 #[lv q0, sd, lv q1, sd, lv q2, sd, lv q3, sd, lv q4, sd, iv p5, lv size, sd, iv ea, iv eb, iv ec, iv ed, lv ia, sd, lv ib, sd, lv ic, sd, lv id', sd, rv b14, lv (own_sum W0 nw), sd, un, un, un, un] []))
        exact JP38 _ _ _ _ X33 N33 E33 Z33 fx33_0 fx33_1 fx33_2 fx33_3 (if_pos hc231).symm
      · refine Go.stp (fun t_ k_ => XS.ifNo X33.here hx rfl (hb hby at_231) rfl ((if0 _ _).trans (feq hc231).1) k_) ?_
        show Go p.tables e below G (T33.setTop (mkF m 234 #[lv q0, sd, lv q1, sd, lv q2, sd, lv q3, sd, lv q4, sd, iv p5, lv size, sd, iv ea, iv eb, iv ec, iv ed, lv ia, sd, lv ib, sd, lv ic, sd, lv id', sd, rv b14, lv (own_sum W0 nw), sd, un, un, un, un] []))
        refine Go.stp (fun t_ k_ => XS.aload X33.here hx rfl (hb hby at_234) rfl rfl k_) ?_
        show Go p.tables e below G (T33.setTop (mkF m 236 #[lv q0, sd, lv q1, sd, lv q2, sd, lv q3, sd, lv q4, sd, iv p5, lv size, sd, iv ea, iv eb, iv ec, iv ed, lv ia, sd, lv ib, sd, lv ic, sd, lv id', sd, rv b14, lv (own_sum W0 nw), sd, un, un, un, un] [(.ref b14)]))
        refine Go.stp (fun t_ k_ => XS.lload X33.here hx rfl (hb hby at_236) rfl k_) ?_
        show Go p.tables e below G (T33.setTop (mkF m 238 #[lv q0, sd, lv q1, sd, lv q2, sd, lv q3, sd, lv q4, sd, iv p5, lv size, sd, iv ea, iv eb, iv ec, iv ed, lv ia, sd, lv ib, sd, lv ic, sd, lv id', sd, rv b14, lv (own_sum W0 nw), sd, un, un, un, un] [(.long id'), (.ref b14)]))
        obtain ⟨cq40, kq40, q40a, q40b, q40c⟩ := isOf hZ E33 fx33_3
        obtain ⟨_, _, ⟨T40, L40, k40, n40⟩, -, X40, ⟨Lc40, hQ40, l40, y40, z40⟩, st40⟩ := X33.virtualBack hx (y := (⟨"com/example/malla/malla/arrays/BitArray", "set", "(J)V"⟩ : MethodName)) (z := (⟨"com/example/malla/malla/arrays/BitArray", "set", "(J)V"⟩ : MethodName)) hown (mvT hZ (hw _ (List.mem_of_getElem? (i := 41) rfl))) (mvT hZ (hw _ (List.mem_of_getElem? (i := 42) rfl))) (notFace_of_selects (args := #[]) (mvT hZ (hw _ (List.mem_of_getElem? (i := 44) rfl)))) (mvT hZ (hw _ (List.mem_of_getElem? (i := 44) rfl))) (mvT hZ (hw _ (List.mem_of_getElem? (i := 43) rfl))) (by decide) (backOf (W := 0) (rm8 l Z a0 hw [] b14 id' size wa nw W3 h33 n0 Z33 fx33_1 fx33_2 fx33_0 g_wa hxw h0id' h1id' h2id') hZ (hw _ (List.mem_of_getElem? (i := 45) rfl)) (hw _ (List.mem_of_getElem? (i := 9) rfl)) (by decide) (by decide)) q40a q40c (g := (mkF m 238 #[lv q0, sd, lv q1, sd, lv q2, sd, lv q3, sd, lv q4, sd, iv p5, lv size, sd, iv ea, iv eb, iv ec, iv ed, lv ia, sd, lv ib, sd, lv ic, sd, lv id', sd, rv b14, lv (own_sum W0 nw), sd, un, un, un, un] [(.long id'), (.ref b14)])) rfl (by rw [hml]; rfl) (Steps.refl _) (argsL := [(.long id')]) (rest := []) (lenOf pd_1 rfl) rfl (by show 2 * 0 + _ ≤ _; exact Nat.le_of_eq rfl) (hb hby at_238) (fun _ _ => ⟨rfl, E33, (by decide : 2 + 0 ≤ _), (by decide : 7 + 0 ≤ _)⟩)
        dsimp only [Pt.U, Pt.locs, Pt.cells, Pt.slots] at X40 l40 y40 z40 st40 hQ40
        subst l40 y40 z40
        obtain ⟨rfl, Nq40, Kc40, Iq40⟩ := hQ40
        have N40 := Fr.app N33 Nq40
        have f41 : Exa Z T40.heap b14 "com/example/malla/malla/arrays/BitArray" := fx33_3.keep Kc40
        have f42 : Fld Z T40.heap b14 "com/example/malla/malla/arrays/BitArray" "size" "J" (.long size) := fx33_1.keep Kc40 (fun q => by simp only [List.mem_cons, List.not_mem_nil, or_false] at q; exact hxw q)
        have f43 : Fld Z T40.heap b14 "com/example/malla/malla/arrays/BitArray" "words" "[J" (.ref wa) := fx33_2.keep Kc40 (fun q => by simp only [List.mem_cons, List.not_mem_nil, or_false] at q; exact hxw q)
        have Z40 : n0 ≤ T40.heap.size := Nat.le_trans Z33 Kc40.1
        refine Go.stp (fun t_ k_ => st40.trans k_) ?_
        show Go p.tables e below G (T40.setTop (mkF m 241 #[lv q0, sd, lv q1, sd, lv q2, sd, lv q3, sd, lv q4, sd, iv p5, lv size, sd, iv ea, iv eb, iv ec, iv ed, lv ia, sd, lv ib, sd, lv ic, sd, lv id', sd, rv b14, lv (own_sum W0 nw), sd, un, un, un, un] []))
        exact JP38 _ _ _ _ X40 N40 rfl Z40 Iq40 f42 f43 f41 (if_neg hc231).symm
    intro T39 locs39 h39 W4 X39 N39 E39 Z39 fx39_0 fx39_1 fx39_2 fx39_3 hW4
    show Go p.tables e below G (T39.setTop (mkF m 241 #[lv q0, sd, lv q1, sd, lv q2, sd, lv q3, sd, lv q4, sd, iv p5, lv size, sd, iv ea, iv eb, iv ec, iv ed, lv ia, sd, lv ib, sd, lv ic, sd, lv id', sd, rv b14, lv (own_sum W0 nw), sd, un, un, un, un] []))
    refine Go.stp (fun t_ k_ => XS.aload X39.here hx rfl (hb hby at_241) rfl rfl k_) ?_
    show Go p.tables e below G (T39.setTop (mkF m 243 #[lv q0, sd, lv q1, sd, lv q2, sd, lv q3, sd, lv q4, sd, iv p5, lv size, sd, iv ea, iv eb, iv ec, iv ed, lv ia, sd, lv ib, sd, lv ic, sd, lv id', sd, rv b14, lv (own_sum W0 nw), sd, un, un, un, un] [(.ref b14)]))
    obtain ⟨cq44, kq44, q44a, q44b, q44c⟩ := isOf hZ E39 fx39_3
    obtain ⟨_, _, ⟨T44, L44, k44, n44⟩, -, X44, ⟨Lc44, hQ44, l44, y44, z44⟩, st44⟩ := X39.virtualBack hx (y := (⟨"com/example/malla/malla/arrays/BitArray", "bitCount", "()J"⟩ : MethodName)) (z := (⟨"com/example/malla/malla/arrays/BitArray", "bitCount", "()J"⟩ : MethodName)) hown (mvT hZ (hw _ (List.mem_of_getElem? (i := 29) rfl))) (mvT hZ (hw _ (List.mem_of_getElem? (i := 30) rfl))) (notFace_of_selects (args := #[]) (mvT hZ (hw _ (List.mem_of_getElem? (i := 32) rfl)))) (mvT hZ (hw _ (List.mem_of_getElem? (i := 32) rfl))) (mvT hZ (hw _ (List.mem_of_getElem? (i := 31) rfl))) (by decide) (backOf (W := 0) (rm6 l Z a0 hw [] b14 wa nw W4 h39 n0 Z39 fx39_2 fx39_0 hn5) hZ (hw _ (List.mem_of_getElem? (i := 33) rfl)) (hw _ (List.mem_of_getElem? (i := 9) rfl)) (by decide) (by decide)) q44a q44c (g := (mkF m 243 #[lv q0, sd, lv q1, sd, lv q2, sd, lv q3, sd, lv q4, sd, iv p5, lv size, sd, iv ea, iv eb, iv ec, iv ed, lv ia, sd, lv ib, sd, lv ic, sd, lv id', sd, rv b14, lv (own_sum W0 nw), sd, un, un, un, un] [(.ref b14)])) rfl (by rw [hml]; rfl) (Steps.refl _) (argsL := []) (rest := []) (lenOf pd_4 rfl) rfl (by show 2 * 0 + _ ≤ _; exact Nat.le_of_eq rfl) (hb hby at_243) (fun _ _ => ⟨rfl, E39, (by decide : 2 + 0 ≤ _), (by decide : 7 + 0 ≤ _)⟩)
    dsimp only [Pt.U, Pt.locs, Pt.cells, Pt.slots] at X44 l44 y44 z44 st44 hQ44
    subst l44 y44 z44
    obtain ⟨rfl, Nq44, e44⟩ := hQ44
    have N44 := Fr.app N39 Nq44
    refine Go.stp (fun t_ k_ => st44.trans k_) ?_
    show Go p.tables e below G (T44.setTop (mkF m 246 #[lv q0, sd, lv q1, sd, lv q2, sd, lv q3, sd, lv q4, sd, iv p5, lv size, sd, iv ea, iv eb, iv ec, iv ed, lv ia, sd, lv ib, sd, lv ic, sd, lv id', sd, rv b14, lv (own_sum W0 nw), sd, un, un, un, un] [(.long (own_sum W4 nw))]))
    refine Go.stp (fun t_ k_ => XS.lstore X44.here hx rfl (hb hby at_246) rfl (l' := #[lv q0, sd, lv q1, sd, lv q2, sd, lv q3, sd, lv q4, sd, iv p5, lv size, sd, iv ea, iv eb, iv ec, iv ed, lv ia, sd, lv ib, sd, lv ic, sd, lv id', sd, rv b14, lv (own_sum W0 nw), sd, lv (own_sum W4 nw), sd, un, un]) rfl k_) ?_
    show Go p.tables e below G (T44.setTop (mkF m 248 #[lv q0, sd, lv q1, sd, lv q2, sd, lv q3, sd, lv q4, sd, iv p5, lv size, sd, iv ea, iv eb, iv ec, iv ed, lv ia, sd, lv ib, sd, lv ic, sd, lv id', sd, rv b14, lv (own_sum W0 nw), sd, lv (own_sum W4 nw), sd, un, un] []))
    refine Go.stp (fun t_ k_ => XS.lconst X44.here hx rfl (hb hby at_248) k_) ?_
    show Go p.tables e below G (T44.setTop (mkF m 249 #[lv q0, sd, lv q1, sd, lv q2, sd, lv q3, sd, lv q4, sd, iv p5, lv size, sd, iv ea, iv eb, iv ec, iv ed, lv ia, sd, lv ib, sd, lv ic, sd, lv id', sd, rv b14, lv (own_sum W0 nw), sd, lv (own_sum W4 nw), sd, un, un] [(.long (0 : Int64))]))
    refine Go.stp (fun t_ k_ => XS.lstore X44.here hx rfl (hb hby at_249) rfl (l' := #[lv q0, sd, lv q1, sd, lv q2, sd, lv q3, sd, lv q4, sd, iv p5, lv size, sd, iv ea, iv eb, iv ec, iv ed, lv ia, sd, lv ib, sd, lv ic, sd, lv id', sd, rv b14, lv (own_sum W0 nw), sd, lv (own_sum W4 nw), sd, lv (0 : Int64), sd]) rfl k_) ?_
    show Go p.tables e below G (T44.setTop (mkF m 251 #[lv q0, sd, lv q1, sd, lv q2, sd, lv q3, sd, lv q4, sd, iv p5, lv size, sd, iv ea, iv eb, iv ec, iv ed, lv ia, sd, lv ib, sd, lv ic, sd, lv id', sd, rv b14, lv (own_sum W0 nw), sd, lv (own_sum W4 nw), sd, lv (0 : Int64), sd] []))
    refine Go.stp (fun t_ k_ => XS.iload X44.here hx rfl (hb hby at_251) rfl k_) ?_
    show Go p.tables e below G (T44.setTop (mkF m 253 #[lv q0, sd, lv q1, sd, lv q2, sd, lv q3, sd, lv q4, sd, iv p5, lv size, sd, iv ea, iv eb, iv ec, iv ed, lv ia, sd, lv ib, sd, lv ic, sd, lv id', sd, rv b14, lv (own_sum W0 nw), sd, lv (own_sum W4 nw), sd, lv (0 : Int64), sd] [(.int ea)]))
    suffices J45 : ∀ (x1 : Int64), (((ea = (0 : Int32)) ∧ x1 = (0 : Int64)) ∨ (¬ (ea = (0 : Int32)) ∧ x1 = ((0 : Int64) + (1 : Int64)))) → Go p.tables e below G (T44.setTop (mkF m 262 #[lv q0, sd, lv q1, sd, lv q2, sd, lv q3, sd, lv q4, sd, iv p5, lv size, sd, iv ea, iv eb, iv ec, iv ed, lv ia, sd, lv ib, sd, lv ic, sd, lv id', sd, rv b14, lv (own_sum W0 nw), sd, lv (own_sum W4 nw), sd, lv x1, sd] [])) by
      by_cases hc253 : ea = (0 : Int32)
      · refine Go.stp (fun t_ k_ => XS.ifYes X44.here hx rfl (pc0 := 253) (pc' := 262) rfl (hb hby at_253) rfl ((if0 _ _).trans (teq hc253).1) (by decide) (by decide) k_) ?_
        show Go p.tables e below G (T44.setTop (mkF m 262 #[lv q0, sd, lv q1, sd, lv q2, sd, lv q3, sd, lv q4, sd, iv p5, lv size, sd, iv ea, iv eb, iv ec, iv ed, lv ia, sd, lv ib, sd, lv ic, sd, lv id', sd, rv b14, lv (own_sum W0 nw), sd, lv (own_sum W4 nw), sd, lv (0 : Int64), sd] []))
        exact J45 _ (Or.inl ⟨hc253, rfl⟩)
      · refine Go.stp (fun t_ k_ => XS.ifNo X44.here hx rfl (hb hby at_253) rfl ((if0 _ _).trans (feq hc253).1) k_) ?_
        show Go p.tables e below G (T44.setTop (mkF m 256 #[lv q0, sd, lv q1, sd, lv q2, sd, lv q3, sd, lv q4, sd, iv p5, lv size, sd, iv ea, iv eb, iv ec, iv ed, lv ia, sd, lv ib, sd, lv ic, sd, lv id', sd, rv b14, lv (own_sum W0 nw), sd, lv (own_sum W4 nw), sd, lv (0 : Int64), sd] []))
        refine Go.stp (fun t_ k_ => XS.lload X44.here hx rfl (hb hby at_256) rfl k_) ?_
        show Go p.tables e below G (T44.setTop (mkF m 258 #[lv q0, sd, lv q1, sd, lv q2, sd, lv q3, sd, lv q4, sd, iv p5, lv size, sd, iv ea, iv eb, iv ec, iv ed, lv ia, sd, lv ib, sd, lv ic, sd, lv id', sd, rv b14, lv (own_sum W0 nw), sd, lv (own_sum W4 nw), sd, lv (0 : Int64), sd] [(.long (0 : Int64))]))
        refine Go.stp (fun t_ k_ => XS.lconst X44.here hx rfl (hb hby at_258) k_) ?_
        show Go p.tables e below G (T44.setTop (mkF m 259 #[lv q0, sd, lv q1, sd, lv q2, sd, lv q3, sd, lv q4, sd, iv p5, lv size, sd, iv ea, iv eb, iv ec, iv ed, lv ia, sd, lv ib, sd, lv ic, sd, lv id', sd, rv b14, lv (own_sum W0 nw), sd, lv (own_sum W4 nw), sd, lv (0 : Int64), sd] [(.long (1 : Int64)), (.long (0 : Int64))]))
        refine Go.stp (fun t_ k_ => XS.ladd X44.here hx rfl (hb hby at_259) rfl k_) ?_
        show Go p.tables e below G (T44.setTop (mkF m 260 #[lv q0, sd, lv q1, sd, lv q2, sd, lv q3, sd, lv q4, sd, iv p5, lv size, sd, iv ea, iv eb, iv ec, iv ed, lv ia, sd, lv ib, sd, lv ic, sd, lv id', sd, rv b14, lv (own_sum W0 nw), sd, lv (own_sum W4 nw), sd, lv (0 : Int64), sd] [(.long ((0 : Int64) + (1 : Int64)))]))
        refine Go.stp (fun t_ k_ => XS.lstore X44.here hx rfl (hb hby at_260) rfl (l' := #[lv q0, sd, lv q1, sd, lv q2, sd, lv q3, sd, lv q4, sd, iv p5, lv size, sd, iv ea, iv eb, iv ec, iv ed, lv ia, sd, lv ib, sd, lv ic, sd, lv id', sd, rv b14, lv (own_sum W0 nw), sd, lv (own_sum W4 nw), sd, lv ((0 : Int64) + (1 : Int64)), sd]) rfl k_) ?_
        show Go p.tables e below G (T44.setTop (mkF m 262 #[lv q0, sd, lv q1, sd, lv q2, sd, lv q3, sd, lv q4, sd, iv p5, lv size, sd, iv ea, iv eb, iv ec, iv ed, lv ia, sd, lv ib, sd, lv ic, sd, lv id', sd, rv b14, lv (own_sum W0 nw), sd, lv (own_sum W4 nw), sd, lv ((0 : Int64) + (1 : Int64)), sd] []))
        exact J45 _ (Or.inr ⟨hc253, rfl⟩)
    intro x1 hj262
    refine Go.stp (fun t_ k_ => XS.iload X44.here hx rfl (hb hby at_262) rfl k_) ?_
    show Go p.tables e below G (T44.setTop (mkF m 264 #[lv q0, sd, lv q1, sd, lv q2, sd, lv q3, sd, lv q4, sd, iv p5, lv size, sd, iv ea, iv eb, iv ec, iv ed, lv ia, sd, lv ib, sd, lv ic, sd, lv id', sd, rv b14, lv (own_sum W0 nw), sd, lv (own_sum W4 nw), sd, lv x1, sd] [(.int eb)]))
    suffices J46 : ∀ (x2 : Int64), (((eb = (0 : Int32)) ∧ x2 = x1) ∨ (¬ (eb = (0 : Int32)) ∧ (ea = (0 : Int32)) ∧ x2 = (x1 + (1 : Int64))) ∨ (¬ (eb = (0 : Int32)) ∧ ¬ (ea = (0 : Int32)) ∧ (ib = ia) ∧ x2 = x1) ∨ (¬ (eb = (0 : Int32)) ∧ ¬ (ea = (0 : Int32)) ∧ ¬ (ib = ia) ∧ x2 = (x1 + (1 : Int64)))) → Go p.tables e below G (T44.setTop (mkF m 286 #[lv q0, sd, lv q1, sd, lv q2, sd, lv q3, sd, lv q4, sd, iv p5, lv size, sd, iv ea, iv eb, iv ec, iv ed, lv ia, sd, lv ib, sd, lv ic, sd, lv id', sd, rv b14, lv (own_sum W0 nw), sd, lv (own_sum W4 nw), sd, lv x2, sd] [])) by
      by_cases hc264 : eb = (0 : Int32)
      · refine Go.stp (fun t_ k_ => XS.ifYes X44.here hx rfl (pc0 := 264) (pc' := 286) rfl (hb hby at_264) rfl ((if0 _ _).trans (teq hc264).1) (by decide) (by decide) k_) ?_
        show Go p.tables e below G (T44.setTop (mkF m 286 #[lv q0, sd, lv q1, sd, lv q2, sd, lv q3, sd, lv q4, sd, iv p5, lv size, sd, iv ea, iv eb, iv ec, iv ed, lv ia, sd, lv ib, sd, lv ic, sd, lv id', sd, rv b14, lv (own_sum W0 nw), sd, lv (own_sum W4 nw), sd, lv x1, sd] []))
        exact J46 _ (Or.inl ⟨hc264, rfl⟩)
      · refine Go.stp (fun t_ k_ => XS.ifNo X44.here hx rfl (hb hby at_264) rfl ((if0 _ _).trans (feq hc264).1) k_) ?_
        show Go p.tables e below G (T44.setTop (mkF m 267 #[lv q0, sd, lv q1, sd, lv q2, sd, lv q3, sd, lv q4, sd, iv p5, lv size, sd, iv ea, iv eb, iv ec, iv ed, lv ia, sd, lv ib, sd, lv ic, sd, lv id', sd, rv b14, lv (own_sum W0 nw), sd, lv (own_sum W4 nw), sd, lv x1, sd] []))
        refine Go.stp (fun t_ k_ => XS.iload X44.here hx rfl (hb hby at_267) rfl k_) ?_
        show Go p.tables e below G (T44.setTop (mkF m 269 #[lv q0, sd, lv q1, sd, lv q2, sd, lv q3, sd, lv q4, sd, iv p5, lv size, sd, iv ea, iv eb, iv ec, iv ed, lv ia, sd, lv ib, sd, lv ic, sd, lv id', sd, rv b14, lv (own_sum W0 nw), sd, lv (own_sum W4 nw), sd, lv x1, sd] [(.int ea)]))
        by_cases hc269 : ea = (0 : Int32)
        · refine Go.stp (fun t_ k_ => XS.ifYes X44.here hx rfl (pc0 := 269) (pc' := 280) rfl (hb hby at_269) rfl ((if0 _ _).trans (teq hc269).1) (by decide) (by decide) k_) ?_
          show Go p.tables e below G (T44.setTop (mkF m 280 #[lv q0, sd, lv q1, sd, lv q2, sd, lv q3, sd, lv q4, sd, iv p5, lv size, sd, iv ea, iv eb, iv ec, iv ed, lv ia, sd, lv ib, sd, lv ic, sd, lv id', sd, rv b14, lv (own_sum W0 nw), sd, lv (own_sum W4 nw), sd, lv x1, sd] []))
          refine Go.stp (fun t_ k_ => XS.lload X44.here hx rfl (hb hby at_280) rfl k_) ?_
          show Go p.tables e below G (T44.setTop (mkF m 282 #[lv q0, sd, lv q1, sd, lv q2, sd, lv q3, sd, lv q4, sd, iv p5, lv size, sd, iv ea, iv eb, iv ec, iv ed, lv ia, sd, lv ib, sd, lv ic, sd, lv id', sd, rv b14, lv (own_sum W0 nw), sd, lv (own_sum W4 nw), sd, lv x1, sd] [(.long x1)]))
          refine Go.stp (fun t_ k_ => XS.lconst X44.here hx rfl (hb hby at_282) k_) ?_
          show Go p.tables e below G (T44.setTop (mkF m 283 #[lv q0, sd, lv q1, sd, lv q2, sd, lv q3, sd, lv q4, sd, iv p5, lv size, sd, iv ea, iv eb, iv ec, iv ed, lv ia, sd, lv ib, sd, lv ic, sd, lv id', sd, rv b14, lv (own_sum W0 nw), sd, lv (own_sum W4 nw), sd, lv x1, sd] [(.long (1 : Int64)), (.long x1)]))
          refine Go.stp (fun t_ k_ => XS.ladd X44.here hx rfl (hb hby at_283) rfl k_) ?_
          show Go p.tables e below G (T44.setTop (mkF m 284 #[lv q0, sd, lv q1, sd, lv q2, sd, lv q3, sd, lv q4, sd, iv p5, lv size, sd, iv ea, iv eb, iv ec, iv ed, lv ia, sd, lv ib, sd, lv ic, sd, lv id', sd, rv b14, lv (own_sum W0 nw), sd, lv (own_sum W4 nw), sd, lv x1, sd] [(.long (x1 + (1 : Int64)))]))
          refine Go.stp (fun t_ k_ => XS.lstore X44.here hx rfl (hb hby at_284) rfl (l' := #[lv q0, sd, lv q1, sd, lv q2, sd, lv q3, sd, lv q4, sd, iv p5, lv size, sd, iv ea, iv eb, iv ec, iv ed, lv ia, sd, lv ib, sd, lv ic, sd, lv id', sd, rv b14, lv (own_sum W0 nw), sd, lv (own_sum W4 nw), sd, lv (x1 + (1 : Int64)), sd]) rfl k_) ?_
          show Go p.tables e below G (T44.setTop (mkF m 286 #[lv q0, sd, lv q1, sd, lv q2, sd, lv q3, sd, lv q4, sd, iv p5, lv size, sd, iv ea, iv eb, iv ec, iv ed, lv ia, sd, lv ib, sd, lv ic, sd, lv id', sd, rv b14, lv (own_sum W0 nw), sd, lv (own_sum W4 nw), sd, lv (x1 + (1 : Int64)), sd] []))
          exact J46 _ (Or.inr (Or.inl ⟨hc264, hc269, rfl⟩))
        · refine Go.stp (fun t_ k_ => XS.ifNo X44.here hx rfl (hb hby at_269) rfl ((if0 _ _).trans (feq hc269).1) k_) ?_
          show Go p.tables e below G (T44.setTop (mkF m 272 #[lv q0, sd, lv q1, sd, lv q2, sd, lv q3, sd, lv q4, sd, iv p5, lv size, sd, iv ea, iv eb, iv ec, iv ed, lv ia, sd, lv ib, sd, lv ic, sd, lv id', sd, rv b14, lv (own_sum W0 nw), sd, lv (own_sum W4 nw), sd, lv x1, sd] []))
          refine Go.stp (fun t_ k_ => XS.lload X44.here hx rfl (hb hby at_272) rfl k_) ?_
          show Go p.tables e below G (T44.setTop (mkF m 274 #[lv q0, sd, lv q1, sd, lv q2, sd, lv q3, sd, lv q4, sd, iv p5, lv size, sd, iv ea, iv eb, iv ec, iv ed, lv ia, sd, lv ib, sd, lv ic, sd, lv id', sd, rv b14, lv (own_sum W0 nw), sd, lv (own_sum W4 nw), sd, lv x1, sd] [(.long ib)]))
          refine Go.stp (fun t_ k_ => XS.lload X44.here hx rfl (hb hby at_274) rfl k_) ?_
          show Go p.tables e below G (T44.setTop (mkF m 276 #[lv q0, sd, lv q1, sd, lv q2, sd, lv q3, sd, lv q4, sd, iv p5, lv size, sd, iv ea, iv eb, iv ec, iv ed, lv ia, sd, lv ib, sd, lv ic, sd, lv id', sd, rv b14, lv (own_sum W0 nw), sd, lv (own_sum W4 nw), sd, lv x1, sd] [(.long ia), (.long ib)]))
          refine Go.stp (fun t_ k_ => XS.lcmp X44.here hx rfl (hb hby at_276) rfl k_) ?_
          show Go p.tables e below G (T44.setTop (mkF m 277 #[lv q0, sd, lv q1, sd, lv q2, sd, lv q3, sd, lv q4, sd, iv p5, lv size, sd, iv ea, iv eb, iv ec, iv ed, lv ia, sd, lv ib, sd, lv ic, sd, lv id', sd, rv b14, lv (own_sum W0 nw), sd, lv (own_sum W4 nw), sd, lv x1, sd] [(.int (lcmpW ib ia))]))
          by_cases hc277 : ib = ia
          · refine Go.stp (fun t_ k_ => XS.ifYes X44.here hx rfl (pc0 := 277) (pc' := 286) rfl (hb hby at_277) rfl ((if0 _ _).trans (teq ((lw_eq ib ia).mpr hc277)).1) (by decide) (by decide) k_) ?_
            show Go p.tables e below G (T44.setTop (mkF m 286 #[lv q0, sd, lv q1, sd, lv q2, sd, lv q3, sd, lv q4, sd, iv p5, lv size, sd, iv ea, iv eb, iv ec, iv ed, lv ia, sd, lv ib, sd, lv ic, sd, lv id', sd, rv b14, lv (own_sum W0 nw), sd, lv (own_sum W4 nw), sd, lv x1, sd] []))
            exact J46 _ (Or.inr (Or.inr (Or.inl ⟨hc264, hc269, hc277, rfl⟩)))
          · refine Go.stp (fun t_ k_ => XS.ifNo X44.here hx rfl (hb hby at_277) rfl ((if0 _ _).trans (feq (fun q => hc277 ((lw_eq ib ia).mp q))).1) k_) ?_
            show Go p.tables e below G (T44.setTop (mkF m 280 #[lv q0, sd, lv q1, sd, lv q2, sd, lv q3, sd, lv q4, sd, iv p5, lv size, sd, iv ea, iv eb, iv ec, iv ed, lv ia, sd, lv ib, sd, lv ic, sd, lv id', sd, rv b14, lv (own_sum W0 nw), sd, lv (own_sum W4 nw), sd, lv x1, sd] []))
            refine Go.stp (fun t_ k_ => XS.lload X44.here hx rfl (hb hby at_280) rfl k_) ?_
            show Go p.tables e below G (T44.setTop (mkF m 282 #[lv q0, sd, lv q1, sd, lv q2, sd, lv q3, sd, lv q4, sd, iv p5, lv size, sd, iv ea, iv eb, iv ec, iv ed, lv ia, sd, lv ib, sd, lv ic, sd, lv id', sd, rv b14, lv (own_sum W0 nw), sd, lv (own_sum W4 nw), sd, lv x1, sd] [(.long x1)]))
            refine Go.stp (fun t_ k_ => XS.lconst X44.here hx rfl (hb hby at_282) k_) ?_
            show Go p.tables e below G (T44.setTop (mkF m 283 #[lv q0, sd, lv q1, sd, lv q2, sd, lv q3, sd, lv q4, sd, iv p5, lv size, sd, iv ea, iv eb, iv ec, iv ed, lv ia, sd, lv ib, sd, lv ic, sd, lv id', sd, rv b14, lv (own_sum W0 nw), sd, lv (own_sum W4 nw), sd, lv x1, sd] [(.long (1 : Int64)), (.long x1)]))
            refine Go.stp (fun t_ k_ => XS.ladd X44.here hx rfl (hb hby at_283) rfl k_) ?_
            show Go p.tables e below G (T44.setTop (mkF m 284 #[lv q0, sd, lv q1, sd, lv q2, sd, lv q3, sd, lv q4, sd, iv p5, lv size, sd, iv ea, iv eb, iv ec, iv ed, lv ia, sd, lv ib, sd, lv ic, sd, lv id', sd, rv b14, lv (own_sum W0 nw), sd, lv (own_sum W4 nw), sd, lv x1, sd] [(.long (x1 + (1 : Int64)))]))
            refine Go.stp (fun t_ k_ => XS.lstore X44.here hx rfl (hb hby at_284) rfl (l' := #[lv q0, sd, lv q1, sd, lv q2, sd, lv q3, sd, lv q4, sd, iv p5, lv size, sd, iv ea, iv eb, iv ec, iv ed, lv ia, sd, lv ib, sd, lv ic, sd, lv id', sd, rv b14, lv (own_sum W0 nw), sd, lv (own_sum W4 nw), sd, lv (x1 + (1 : Int64)), sd]) rfl k_) ?_
            show Go p.tables e below G (T44.setTop (mkF m 286 #[lv q0, sd, lv q1, sd, lv q2, sd, lv q3, sd, lv q4, sd, iv p5, lv size, sd, iv ea, iv eb, iv ec, iv ed, lv ia, sd, lv ib, sd, lv ic, sd, lv id', sd, rv b14, lv (own_sum W0 nw), sd, lv (own_sum W4 nw), sd, lv (x1 + (1 : Int64)), sd] []))
            exact J46 _ (Or.inr (Or.inr (Or.inr ⟨hc264, hc269, hc277, rfl⟩)))
    intro x2 hj286
    refine Go.stp (fun t_ k_ => XS.iload X44.here hx rfl (hb hby at_286) rfl k_) ?_
    show Go p.tables e below G (T44.setTop (mkF m 288 #[lv q0, sd, lv q1, sd, lv q2, sd, lv q3, sd, lv q4, sd, iv p5, lv size, sd, iv ea, iv eb, iv ec, iv ed, lv ia, sd, lv ib, sd, lv ic, sd, lv id', sd, rv b14, lv (own_sum W0 nw), sd, lv (own_sum W4 nw), sd, lv x2, sd] [(.int ec)]))
    suffices J47 : ∀ (x3 : Int64), (((ec = (0 : Int32)) ∧ x3 = x2) ∨ (¬ (ec = (0 : Int32)) ∧ (ea = (0 : Int32)) ∧ (eb = (0 : Int32)) ∧ x3 = (x2 + (1 : Int64))) ∨ (¬ (ec = (0 : Int32)) ∧ (ea = (0 : Int32)) ∧ ¬ (eb = (0 : Int32)) ∧ (ic = ib) ∧ x3 = x2) ∨ (¬ (ec = (0 : Int32)) ∧ (ea = (0 : Int32)) ∧ ¬ (eb = (0 : Int32)) ∧ ¬ (ic = ib) ∧ x3 = (x2 + (1 : Int64))) ∨ (¬ (ec = (0 : Int32)) ∧ ¬ (ea = (0 : Int32)) ∧ (ic = ia) ∧ x3 = x2) ∨ (¬ (ec = (0 : Int32)) ∧ ¬ (ea = (0 : Int32)) ∧ ¬ (ic = ia) ∧ (eb = (0 : Int32)) ∧ x3 = (x2 + (1 : Int64))) ∨ (¬ (ec = (0 : Int32)) ∧ ¬ (ea = (0 : Int32)) ∧ ¬ (ic = ia) ∧ ¬ (eb = (0 : Int32)) ∧ (ic = ib) ∧ x3 = x2) ∨ (¬ (ec = (0 : Int32)) ∧ ¬ (ea = (0 : Int32)) ∧ ¬ (ic = ia) ∧ ¬ (eb = (0 : Int32)) ∧ ¬ (ic = ib) ∧ x3 = (x2 + (1 : Int64)))) → Go p.tables e below G (T44.setTop (mkF m 323 #[lv q0, sd, lv q1, sd, lv q2, sd, lv q3, sd, lv q4, sd, iv p5, lv size, sd, iv ea, iv eb, iv ec, iv ed, lv ia, sd, lv ib, sd, lv ic, sd, lv id', sd, rv b14, lv (own_sum W0 nw), sd, lv (own_sum W4 nw), sd, lv x3, sd] [])) by
      by_cases hc288 : ec = (0 : Int32)
      · refine Go.stp (fun t_ k_ => XS.ifYes X44.here hx rfl (pc0 := 288) (pc' := 323) rfl (hb hby at_288) rfl ((if0 _ _).trans (teq hc288).1) (by decide) (by decide) k_) ?_
        show Go p.tables e below G (T44.setTop (mkF m 323 #[lv q0, sd, lv q1, sd, lv q2, sd, lv q3, sd, lv q4, sd, iv p5, lv size, sd, iv ea, iv eb, iv ec, iv ed, lv ia, sd, lv ib, sd, lv ic, sd, lv id', sd, rv b14, lv (own_sum W0 nw), sd, lv (own_sum W4 nw), sd, lv x2, sd] []))
        exact J47 _ (Or.inl ⟨hc288, rfl⟩)
      · refine Go.stp (fun t_ k_ => XS.ifNo X44.here hx rfl (hb hby at_288) rfl ((if0 _ _).trans (feq hc288).1) k_) ?_
        show Go p.tables e below G (T44.setTop (mkF m 291 #[lv q0, sd, lv q1, sd, lv q2, sd, lv q3, sd, lv q4, sd, iv p5, lv size, sd, iv ea, iv eb, iv ec, iv ed, lv ia, sd, lv ib, sd, lv ic, sd, lv id', sd, rv b14, lv (own_sum W0 nw), sd, lv (own_sum W4 nw), sd, lv x2, sd] []))
        refine Go.stp (fun t_ k_ => XS.iload X44.here hx rfl (hb hby at_291) rfl k_) ?_
        show Go p.tables e below G (T44.setTop (mkF m 293 #[lv q0, sd, lv q1, sd, lv q2, sd, lv q3, sd, lv q4, sd, iv p5, lv size, sd, iv ea, iv eb, iv ec, iv ed, lv ia, sd, lv ib, sd, lv ic, sd, lv id', sd, rv b14, lv (own_sum W0 nw), sd, lv (own_sum W4 nw), sd, lv x2, sd] [(.int ea)]))
        by_cases hc293 : ea = (0 : Int32)
        · refine Go.stp (fun t_ k_ => XS.ifYes X44.here hx rfl (pc0 := 293) (pc' := 304) rfl (hb hby at_293) rfl ((if0 _ _).trans (teq hc293).1) (by decide) (by decide) k_) ?_
          show Go p.tables e below G (T44.setTop (mkF m 304 #[lv q0, sd, lv q1, sd, lv q2, sd, lv q3, sd, lv q4, sd, iv p5, lv size, sd, iv ea, iv eb, iv ec, iv ed, lv ia, sd, lv ib, sd, lv ic, sd, lv id', sd, rv b14, lv (own_sum W0 nw), sd, lv (own_sum W4 nw), sd, lv x2, sd] []))
          refine Go.stp (fun t_ k_ => XS.iload X44.here hx rfl (hb hby at_304) rfl k_) ?_
          show Go p.tables e below G (T44.setTop (mkF m 306 #[lv q0, sd, lv q1, sd, lv q2, sd, lv q3, sd, lv q4, sd, iv p5, lv size, sd, iv ea, iv eb, iv ec, iv ed, lv ia, sd, lv ib, sd, lv ic, sd, lv id', sd, rv b14, lv (own_sum W0 nw), sd, lv (own_sum W4 nw), sd, lv x2, sd] [(.int eb)]))
          by_cases hc306 : eb = (0 : Int32)
          · refine Go.stp (fun t_ k_ => XS.ifYes X44.here hx rfl (pc0 := 306) (pc' := 317) rfl (hb hby at_306) rfl ((if0 _ _).trans (teq hc306).1) (by decide) (by decide) k_) ?_
            show Go p.tables e below G (T44.setTop (mkF m 317 #[lv q0, sd, lv q1, sd, lv q2, sd, lv q3, sd, lv q4, sd, iv p5, lv size, sd, iv ea, iv eb, iv ec, iv ed, lv ia, sd, lv ib, sd, lv ic, sd, lv id', sd, rv b14, lv (own_sum W0 nw), sd, lv (own_sum W4 nw), sd, lv x2, sd] []))
            refine Go.stp (fun t_ k_ => XS.lload X44.here hx rfl (hb hby at_317) rfl k_) ?_
            show Go p.tables e below G (T44.setTop (mkF m 319 #[lv q0, sd, lv q1, sd, lv q2, sd, lv q3, sd, lv q4, sd, iv p5, lv size, sd, iv ea, iv eb, iv ec, iv ed, lv ia, sd, lv ib, sd, lv ic, sd, lv id', sd, rv b14, lv (own_sum W0 nw), sd, lv (own_sum W4 nw), sd, lv x2, sd] [(.long x2)]))
            refine Go.stp (fun t_ k_ => XS.lconst X44.here hx rfl (hb hby at_319) k_) ?_
            show Go p.tables e below G (T44.setTop (mkF m 320 #[lv q0, sd, lv q1, sd, lv q2, sd, lv q3, sd, lv q4, sd, iv p5, lv size, sd, iv ea, iv eb, iv ec, iv ed, lv ia, sd, lv ib, sd, lv ic, sd, lv id', sd, rv b14, lv (own_sum W0 nw), sd, lv (own_sum W4 nw), sd, lv x2, sd] [(.long (1 : Int64)), (.long x2)]))
            refine Go.stp (fun t_ k_ => XS.ladd X44.here hx rfl (hb hby at_320) rfl k_) ?_
            show Go p.tables e below G (T44.setTop (mkF m 321 #[lv q0, sd, lv q1, sd, lv q2, sd, lv q3, sd, lv q4, sd, iv p5, lv size, sd, iv ea, iv eb, iv ec, iv ed, lv ia, sd, lv ib, sd, lv ic, sd, lv id', sd, rv b14, lv (own_sum W0 nw), sd, lv (own_sum W4 nw), sd, lv x2, sd] [(.long (x2 + (1 : Int64)))]))
            refine Go.stp (fun t_ k_ => XS.lstore X44.here hx rfl (hb hby at_321) rfl (l' := #[lv q0, sd, lv q1, sd, lv q2, sd, lv q3, sd, lv q4, sd, iv p5, lv size, sd, iv ea, iv eb, iv ec, iv ed, lv ia, sd, lv ib, sd, lv ic, sd, lv id', sd, rv b14, lv (own_sum W0 nw), sd, lv (own_sum W4 nw), sd, lv (x2 + (1 : Int64)), sd]) rfl k_) ?_
            show Go p.tables e below G (T44.setTop (mkF m 323 #[lv q0, sd, lv q1, sd, lv q2, sd, lv q3, sd, lv q4, sd, iv p5, lv size, sd, iv ea, iv eb, iv ec, iv ed, lv ia, sd, lv ib, sd, lv ic, sd, lv id', sd, rv b14, lv (own_sum W0 nw), sd, lv (own_sum W4 nw), sd, lv (x2 + (1 : Int64)), sd] []))
            exact J47 _ (Or.inr (Or.inl ⟨hc288, hc293, hc306, rfl⟩))
          · refine Go.stp (fun t_ k_ => XS.ifNo X44.here hx rfl (hb hby at_306) rfl ((if0 _ _).trans (feq hc306).1) k_) ?_
            show Go p.tables e below G (T44.setTop (mkF m 309 #[lv q0, sd, lv q1, sd, lv q2, sd, lv q3, sd, lv q4, sd, iv p5, lv size, sd, iv ea, iv eb, iv ec, iv ed, lv ia, sd, lv ib, sd, lv ic, sd, lv id', sd, rv b14, lv (own_sum W0 nw), sd, lv (own_sum W4 nw), sd, lv x2, sd] []))
            refine Go.stp (fun t_ k_ => XS.lload X44.here hx rfl (hb hby at_309) rfl k_) ?_
            show Go p.tables e below G (T44.setTop (mkF m 311 #[lv q0, sd, lv q1, sd, lv q2, sd, lv q3, sd, lv q4, sd, iv p5, lv size, sd, iv ea, iv eb, iv ec, iv ed, lv ia, sd, lv ib, sd, lv ic, sd, lv id', sd, rv b14, lv (own_sum W0 nw), sd, lv (own_sum W4 nw), sd, lv x2, sd] [(.long ic)]))
            refine Go.stp (fun t_ k_ => XS.lload X44.here hx rfl (hb hby at_311) rfl k_) ?_
            show Go p.tables e below G (T44.setTop (mkF m 313 #[lv q0, sd, lv q1, sd, lv q2, sd, lv q3, sd, lv q4, sd, iv p5, lv size, sd, iv ea, iv eb, iv ec, iv ed, lv ia, sd, lv ib, sd, lv ic, sd, lv id', sd, rv b14, lv (own_sum W0 nw), sd, lv (own_sum W4 nw), sd, lv x2, sd] [(.long ib), (.long ic)]))
            refine Go.stp (fun t_ k_ => XS.lcmp X44.here hx rfl (hb hby at_313) rfl k_) ?_
            show Go p.tables e below G (T44.setTop (mkF m 314 #[lv q0, sd, lv q1, sd, lv q2, sd, lv q3, sd, lv q4, sd, iv p5, lv size, sd, iv ea, iv eb, iv ec, iv ed, lv ia, sd, lv ib, sd, lv ic, sd, lv id', sd, rv b14, lv (own_sum W0 nw), sd, lv (own_sum W4 nw), sd, lv x2, sd] [(.int (lcmpW ic ib))]))
            by_cases hc314 : ic = ib
            · refine Go.stp (fun t_ k_ => XS.ifYes X44.here hx rfl (pc0 := 314) (pc' := 323) rfl (hb hby at_314) rfl ((if0 _ _).trans (teq ((lw_eq ic ib).mpr hc314)).1) (by decide) (by decide) k_) ?_
              show Go p.tables e below G (T44.setTop (mkF m 323 #[lv q0, sd, lv q1, sd, lv q2, sd, lv q3, sd, lv q4, sd, iv p5, lv size, sd, iv ea, iv eb, iv ec, iv ed, lv ia, sd, lv ib, sd, lv ic, sd, lv id', sd, rv b14, lv (own_sum W0 nw), sd, lv (own_sum W4 nw), sd, lv x2, sd] []))
              exact J47 _ (Or.inr (Or.inr (Or.inl ⟨hc288, hc293, hc306, hc314, rfl⟩)))
            · refine Go.stp (fun t_ k_ => XS.ifNo X44.here hx rfl (hb hby at_314) rfl ((if0 _ _).trans (feq (fun q => hc314 ((lw_eq ic ib).mp q))).1) k_) ?_
              show Go p.tables e below G (T44.setTop (mkF m 317 #[lv q0, sd, lv q1, sd, lv q2, sd, lv q3, sd, lv q4, sd, iv p5, lv size, sd, iv ea, iv eb, iv ec, iv ed, lv ia, sd, lv ib, sd, lv ic, sd, lv id', sd, rv b14, lv (own_sum W0 nw), sd, lv (own_sum W4 nw), sd, lv x2, sd] []))
              refine Go.stp (fun t_ k_ => XS.lload X44.here hx rfl (hb hby at_317) rfl k_) ?_
              show Go p.tables e below G (T44.setTop (mkF m 319 #[lv q0, sd, lv q1, sd, lv q2, sd, lv q3, sd, lv q4, sd, iv p5, lv size, sd, iv ea, iv eb, iv ec, iv ed, lv ia, sd, lv ib, sd, lv ic, sd, lv id', sd, rv b14, lv (own_sum W0 nw), sd, lv (own_sum W4 nw), sd, lv x2, sd] [(.long x2)]))
              refine Go.stp (fun t_ k_ => XS.lconst X44.here hx rfl (hb hby at_319) k_) ?_
              show Go p.tables e below G (T44.setTop (mkF m 320 #[lv q0, sd, lv q1, sd, lv q2, sd, lv q3, sd, lv q4, sd, iv p5, lv size, sd, iv ea, iv eb, iv ec, iv ed, lv ia, sd, lv ib, sd, lv ic, sd, lv id', sd, rv b14, lv (own_sum W0 nw), sd, lv (own_sum W4 nw), sd, lv x2, sd] [(.long (1 : Int64)), (.long x2)]))
              refine Go.stp (fun t_ k_ => XS.ladd X44.here hx rfl (hb hby at_320) rfl k_) ?_
              show Go p.tables e below G (T44.setTop (mkF m 321 #[lv q0, sd, lv q1, sd, lv q2, sd, lv q3, sd, lv q4, sd, iv p5, lv size, sd, iv ea, iv eb, iv ec, iv ed, lv ia, sd, lv ib, sd, lv ic, sd, lv id', sd, rv b14, lv (own_sum W0 nw), sd, lv (own_sum W4 nw), sd, lv x2, sd] [(.long (x2 + (1 : Int64)))]))
              refine Go.stp (fun t_ k_ => XS.lstore X44.here hx rfl (hb hby at_321) rfl (l' := #[lv q0, sd, lv q1, sd, lv q2, sd, lv q3, sd, lv q4, sd, iv p5, lv size, sd, iv ea, iv eb, iv ec, iv ed, lv ia, sd, lv ib, sd, lv ic, sd, lv id', sd, rv b14, lv (own_sum W0 nw), sd, lv (own_sum W4 nw), sd, lv (x2 + (1 : Int64)), sd]) rfl k_) ?_
              show Go p.tables e below G (T44.setTop (mkF m 323 #[lv q0, sd, lv q1, sd, lv q2, sd, lv q3, sd, lv q4, sd, iv p5, lv size, sd, iv ea, iv eb, iv ec, iv ed, lv ia, sd, lv ib, sd, lv ic, sd, lv id', sd, rv b14, lv (own_sum W0 nw), sd, lv (own_sum W4 nw), sd, lv (x2 + (1 : Int64)), sd] []))
              exact J47 _ (Or.inr (Or.inr (Or.inr (Or.inl ⟨hc288, hc293, hc306, hc314, rfl⟩))))
        · refine Go.stp (fun t_ k_ => XS.ifNo X44.here hx rfl (hb hby at_293) rfl ((if0 _ _).trans (feq hc293).1) k_) ?_
          show Go p.tables e below G (T44.setTop (mkF m 296 #[lv q0, sd, lv q1, sd, lv q2, sd, lv q3, sd, lv q4, sd, iv p5, lv size, sd, iv ea, iv eb, iv ec, iv ed, lv ia, sd, lv ib, sd, lv ic, sd, lv id', sd, rv b14, lv (own_sum W0 nw), sd, lv (own_sum W4 nw), sd, lv x2, sd] []))
          refine Go.stp (fun t_ k_ => XS.lload X44.here hx rfl (hb hby at_296) rfl k_) ?_
          show Go p.tables e below G (T44.setTop (mkF m 298 #[lv q0, sd, lv q1, sd, lv q2, sd, lv q3, sd, lv q4, sd, iv p5, lv size, sd, iv ea, iv eb, iv ec, iv ed, lv ia, sd, lv ib, sd, lv ic, sd, lv id', sd, rv b14, lv (own_sum W0 nw), sd, lv (own_sum W4 nw), sd, lv x2, sd] [(.long ic)]))
          refine Go.stp (fun t_ k_ => XS.lload X44.here hx rfl (hb hby at_298) rfl k_) ?_
          show Go p.tables e below G (T44.setTop (mkF m 300 #[lv q0, sd, lv q1, sd, lv q2, sd, lv q3, sd, lv q4, sd, iv p5, lv size, sd, iv ea, iv eb, iv ec, iv ed, lv ia, sd, lv ib, sd, lv ic, sd, lv id', sd, rv b14, lv (own_sum W0 nw), sd, lv (own_sum W4 nw), sd, lv x2, sd] [(.long ia), (.long ic)]))
          refine Go.stp (fun t_ k_ => XS.lcmp X44.here hx rfl (hb hby at_300) rfl k_) ?_
          show Go p.tables e below G (T44.setTop (mkF m 301 #[lv q0, sd, lv q1, sd, lv q2, sd, lv q3, sd, lv q4, sd, iv p5, lv size, sd, iv ea, iv eb, iv ec, iv ed, lv ia, sd, lv ib, sd, lv ic, sd, lv id', sd, rv b14, lv (own_sum W0 nw), sd, lv (own_sum W4 nw), sd, lv x2, sd] [(.int (lcmpW ic ia))]))
          by_cases hc301 : ic = ia
          · refine Go.stp (fun t_ k_ => XS.ifYes X44.here hx rfl (pc0 := 301) (pc' := 323) rfl (hb hby at_301) rfl ((if0 _ _).trans (teq ((lw_eq ic ia).mpr hc301)).1) (by decide) (by decide) k_) ?_
            show Go p.tables e below G (T44.setTop (mkF m 323 #[lv q0, sd, lv q1, sd, lv q2, sd, lv q3, sd, lv q4, sd, iv p5, lv size, sd, iv ea, iv eb, iv ec, iv ed, lv ia, sd, lv ib, sd, lv ic, sd, lv id', sd, rv b14, lv (own_sum W0 nw), sd, lv (own_sum W4 nw), sd, lv x2, sd] []))
            exact J47 _ (Or.inr (Or.inr (Or.inr (Or.inr (Or.inl ⟨hc288, hc293, hc301, rfl⟩)))))
          · refine Go.stp (fun t_ k_ => XS.ifNo X44.here hx rfl (hb hby at_301) rfl ((if0 _ _).trans (feq (fun q => hc301 ((lw_eq ic ia).mp q))).1) k_) ?_
            show Go p.tables e below G (T44.setTop (mkF m 304 #[lv q0, sd, lv q1, sd, lv q2, sd, lv q3, sd, lv q4, sd, iv p5, lv size, sd, iv ea, iv eb, iv ec, iv ed, lv ia, sd, lv ib, sd, lv ic, sd, lv id', sd, rv b14, lv (own_sum W0 nw), sd, lv (own_sum W4 nw), sd, lv x2, sd] []))
            refine Go.stp (fun t_ k_ => XS.iload X44.here hx rfl (hb hby at_304) rfl k_) ?_
            show Go p.tables e below G (T44.setTop (mkF m 306 #[lv q0, sd, lv q1, sd, lv q2, sd, lv q3, sd, lv q4, sd, iv p5, lv size, sd, iv ea, iv eb, iv ec, iv ed, lv ia, sd, lv ib, sd, lv ic, sd, lv id', sd, rv b14, lv (own_sum W0 nw), sd, lv (own_sum W4 nw), sd, lv x2, sd] [(.int eb)]))
            by_cases hc306 : eb = (0 : Int32)
            · refine Go.stp (fun t_ k_ => XS.ifYes X44.here hx rfl (pc0 := 306) (pc' := 317) rfl (hb hby at_306) rfl ((if0 _ _).trans (teq hc306).1) (by decide) (by decide) k_) ?_
              show Go p.tables e below G (T44.setTop (mkF m 317 #[lv q0, sd, lv q1, sd, lv q2, sd, lv q3, sd, lv q4, sd, iv p5, lv size, sd, iv ea, iv eb, iv ec, iv ed, lv ia, sd, lv ib, sd, lv ic, sd, lv id', sd, rv b14, lv (own_sum W0 nw), sd, lv (own_sum W4 nw), sd, lv x2, sd] []))
              refine Go.stp (fun t_ k_ => XS.lload X44.here hx rfl (hb hby at_317) rfl k_) ?_
              show Go p.tables e below G (T44.setTop (mkF m 319 #[lv q0, sd, lv q1, sd, lv q2, sd, lv q3, sd, lv q4, sd, iv p5, lv size, sd, iv ea, iv eb, iv ec, iv ed, lv ia, sd, lv ib, sd, lv ic, sd, lv id', sd, rv b14, lv (own_sum W0 nw), sd, lv (own_sum W4 nw), sd, lv x2, sd] [(.long x2)]))
              refine Go.stp (fun t_ k_ => XS.lconst X44.here hx rfl (hb hby at_319) k_) ?_
              show Go p.tables e below G (T44.setTop (mkF m 320 #[lv q0, sd, lv q1, sd, lv q2, sd, lv q3, sd, lv q4, sd, iv p5, lv size, sd, iv ea, iv eb, iv ec, iv ed, lv ia, sd, lv ib, sd, lv ic, sd, lv id', sd, rv b14, lv (own_sum W0 nw), sd, lv (own_sum W4 nw), sd, lv x2, sd] [(.long (1 : Int64)), (.long x2)]))
              refine Go.stp (fun t_ k_ => XS.ladd X44.here hx rfl (hb hby at_320) rfl k_) ?_
              show Go p.tables e below G (T44.setTop (mkF m 321 #[lv q0, sd, lv q1, sd, lv q2, sd, lv q3, sd, lv q4, sd, iv p5, lv size, sd, iv ea, iv eb, iv ec, iv ed, lv ia, sd, lv ib, sd, lv ic, sd, lv id', sd, rv b14, lv (own_sum W0 nw), sd, lv (own_sum W4 nw), sd, lv x2, sd] [(.long (x2 + (1 : Int64)))]))
              refine Go.stp (fun t_ k_ => XS.lstore X44.here hx rfl (hb hby at_321) rfl (l' := #[lv q0, sd, lv q1, sd, lv q2, sd, lv q3, sd, lv q4, sd, iv p5, lv size, sd, iv ea, iv eb, iv ec, iv ed, lv ia, sd, lv ib, sd, lv ic, sd, lv id', sd, rv b14, lv (own_sum W0 nw), sd, lv (own_sum W4 nw), sd, lv (x2 + (1 : Int64)), sd]) rfl k_) ?_
              show Go p.tables e below G (T44.setTop (mkF m 323 #[lv q0, sd, lv q1, sd, lv q2, sd, lv q3, sd, lv q4, sd, iv p5, lv size, sd, iv ea, iv eb, iv ec, iv ed, lv ia, sd, lv ib, sd, lv ic, sd, lv id', sd, rv b14, lv (own_sum W0 nw), sd, lv (own_sum W4 nw), sd, lv (x2 + (1 : Int64)), sd] []))
              exact J47 _ (Or.inr (Or.inr (Or.inr (Or.inr (Or.inr (Or.inl ⟨hc288, hc293, hc301, hc306, rfl⟩))))))
            · refine Go.stp (fun t_ k_ => XS.ifNo X44.here hx rfl (hb hby at_306) rfl ((if0 _ _).trans (feq hc306).1) k_) ?_
              show Go p.tables e below G (T44.setTop (mkF m 309 #[lv q0, sd, lv q1, sd, lv q2, sd, lv q3, sd, lv q4, sd, iv p5, lv size, sd, iv ea, iv eb, iv ec, iv ed, lv ia, sd, lv ib, sd, lv ic, sd, lv id', sd, rv b14, lv (own_sum W0 nw), sd, lv (own_sum W4 nw), sd, lv x2, sd] []))
              refine Go.stp (fun t_ k_ => XS.lload X44.here hx rfl (hb hby at_309) rfl k_) ?_
              show Go p.tables e below G (T44.setTop (mkF m 311 #[lv q0, sd, lv q1, sd, lv q2, sd, lv q3, sd, lv q4, sd, iv p5, lv size, sd, iv ea, iv eb, iv ec, iv ed, lv ia, sd, lv ib, sd, lv ic, sd, lv id', sd, rv b14, lv (own_sum W0 nw), sd, lv (own_sum W4 nw), sd, lv x2, sd] [(.long ic)]))
              refine Go.stp (fun t_ k_ => XS.lload X44.here hx rfl (hb hby at_311) rfl k_) ?_
              show Go p.tables e below G (T44.setTop (mkF m 313 #[lv q0, sd, lv q1, sd, lv q2, sd, lv q3, sd, lv q4, sd, iv p5, lv size, sd, iv ea, iv eb, iv ec, iv ed, lv ia, sd, lv ib, sd, lv ic, sd, lv id', sd, rv b14, lv (own_sum W0 nw), sd, lv (own_sum W4 nw), sd, lv x2, sd] [(.long ib), (.long ic)]))
              refine Go.stp (fun t_ k_ => XS.lcmp X44.here hx rfl (hb hby at_313) rfl k_) ?_
              show Go p.tables e below G (T44.setTop (mkF m 314 #[lv q0, sd, lv q1, sd, lv q2, sd, lv q3, sd, lv q4, sd, iv p5, lv size, sd, iv ea, iv eb, iv ec, iv ed, lv ia, sd, lv ib, sd, lv ic, sd, lv id', sd, rv b14, lv (own_sum W0 nw), sd, lv (own_sum W4 nw), sd, lv x2, sd] [(.int (lcmpW ic ib))]))
              by_cases hc314 : ic = ib
              · refine Go.stp (fun t_ k_ => XS.ifYes X44.here hx rfl (pc0 := 314) (pc' := 323) rfl (hb hby at_314) rfl ((if0 _ _).trans (teq ((lw_eq ic ib).mpr hc314)).1) (by decide) (by decide) k_) ?_
                show Go p.tables e below G (T44.setTop (mkF m 323 #[lv q0, sd, lv q1, sd, lv q2, sd, lv q3, sd, lv q4, sd, iv p5, lv size, sd, iv ea, iv eb, iv ec, iv ed, lv ia, sd, lv ib, sd, lv ic, sd, lv id', sd, rv b14, lv (own_sum W0 nw), sd, lv (own_sum W4 nw), sd, lv x2, sd] []))
                exact J47 _ (Or.inr (Or.inr (Or.inr (Or.inr (Or.inr (Or.inr (Or.inl ⟨hc288, hc293, hc301, hc306, hc314, rfl⟩)))))))
              · refine Go.stp (fun t_ k_ => XS.ifNo X44.here hx rfl (hb hby at_314) rfl ((if0 _ _).trans (feq (fun q => hc314 ((lw_eq ic ib).mp q))).1) k_) ?_
                show Go p.tables e below G (T44.setTop (mkF m 317 #[lv q0, sd, lv q1, sd, lv q2, sd, lv q3, sd, lv q4, sd, iv p5, lv size, sd, iv ea, iv eb, iv ec, iv ed, lv ia, sd, lv ib, sd, lv ic, sd, lv id', sd, rv b14, lv (own_sum W0 nw), sd, lv (own_sum W4 nw), sd, lv x2, sd] []))
                refine Go.stp (fun t_ k_ => XS.lload X44.here hx rfl (hb hby at_317) rfl k_) ?_
                show Go p.tables e below G (T44.setTop (mkF m 319 #[lv q0, sd, lv q1, sd, lv q2, sd, lv q3, sd, lv q4, sd, iv p5, lv size, sd, iv ea, iv eb, iv ec, iv ed, lv ia, sd, lv ib, sd, lv ic, sd, lv id', sd, rv b14, lv (own_sum W0 nw), sd, lv (own_sum W4 nw), sd, lv x2, sd] [(.long x2)]))
                refine Go.stp (fun t_ k_ => XS.lconst X44.here hx rfl (hb hby at_319) k_) ?_
                show Go p.tables e below G (T44.setTop (mkF m 320 #[lv q0, sd, lv q1, sd, lv q2, sd, lv q3, sd, lv q4, sd, iv p5, lv size, sd, iv ea, iv eb, iv ec, iv ed, lv ia, sd, lv ib, sd, lv ic, sd, lv id', sd, rv b14, lv (own_sum W0 nw), sd, lv (own_sum W4 nw), sd, lv x2, sd] [(.long (1 : Int64)), (.long x2)]))
                refine Go.stp (fun t_ k_ => XS.ladd X44.here hx rfl (hb hby at_320) rfl k_) ?_
                show Go p.tables e below G (T44.setTop (mkF m 321 #[lv q0, sd, lv q1, sd, lv q2, sd, lv q3, sd, lv q4, sd, iv p5, lv size, sd, iv ea, iv eb, iv ec, iv ed, lv ia, sd, lv ib, sd, lv ic, sd, lv id', sd, rv b14, lv (own_sum W0 nw), sd, lv (own_sum W4 nw), sd, lv x2, sd] [(.long (x2 + (1 : Int64)))]))
                refine Go.stp (fun t_ k_ => XS.lstore X44.here hx rfl (hb hby at_321) rfl (l' := #[lv q0, sd, lv q1, sd, lv q2, sd, lv q3, sd, lv q4, sd, iv p5, lv size, sd, iv ea, iv eb, iv ec, iv ed, lv ia, sd, lv ib, sd, lv ic, sd, lv id', sd, rv b14, lv (own_sum W0 nw), sd, lv (own_sum W4 nw), sd, lv (x2 + (1 : Int64)), sd]) rfl k_) ?_
                show Go p.tables e below G (T44.setTop (mkF m 323 #[lv q0, sd, lv q1, sd, lv q2, sd, lv q3, sd, lv q4, sd, iv p5, lv size, sd, iv ea, iv eb, iv ec, iv ed, lv ia, sd, lv ib, sd, lv ic, sd, lv id', sd, rv b14, lv (own_sum W0 nw), sd, lv (own_sum W4 nw), sd, lv (x2 + (1 : Int64)), sd] []))
                exact J47 _ (Or.inr (Or.inr (Or.inr (Or.inr (Or.inr (Or.inr (Or.inr ⟨hc288, hc293, hc301, hc306, hc314, rfl⟩)))))))
    intro x3 hj323
    refine Go.stp (fun t_ k_ => XS.iload X44.here hx rfl (hb hby at_323) rfl k_) ?_
    show Go p.tables e below G (T44.setTop (mkF m 325 #[lv q0, sd, lv q1, sd, lv q2, sd, lv q3, sd, lv q4, sd, iv p5, lv size, sd, iv ea, iv eb, iv ec, iv ed, lv ia, sd, lv ib, sd, lv ic, sd, lv id', sd, rv b14, lv (own_sum W0 nw), sd, lv (own_sum W4 nw), sd, lv x3, sd] [(.int ed)]))
    suffices J48 : ∀ (x4 : Int64), (((ed = (0 : Int32)) ∧ x4 = x3) ∨ (¬ (ed = (0 : Int32)) ∧ (ea = (0 : Int32)) ∧ (eb = (0 : Int32)) ∧ (ec = (0 : Int32)) ∧ x4 = (x3 + (1 : Int64))) ∨ (¬ (ed = (0 : Int32)) ∧ (ea = (0 : Int32)) ∧ (eb = (0 : Int32)) ∧ ¬ (ec = (0 : Int32)) ∧ (id' = ic) ∧ x4 = x3) ∨ (¬ (ed = (0 : Int32)) ∧ (ea = (0 : Int32)) ∧ (eb = (0 : Int32)) ∧ ¬ (ec = (0 : Int32)) ∧ ¬ (id' = ic) ∧ x4 = (x3 + (1 : Int64))) ∨ (¬ (ed = (0 : Int32)) ∧ (ea = (0 : Int32)) ∧ ¬ (eb = (0 : Int32)) ∧ (id' = ib) ∧ x4 = x3) ∨ (¬ (ed = (0 : Int32)) ∧ (ea = (0 : Int32)) ∧ ¬ (eb = (0 : Int32)) ∧ ¬ (id' = ib) ∧ (ec = (0 : Int32)) ∧ x4 = (x3 + (1 : Int64))) ∨ (¬ (ed = (0 : Int32)) ∧ (ea = (0 : Int32)) ∧ ¬ (eb = (0 : Int32)) ∧ ¬ (id' = ib) ∧ ¬ (ec = (0 : Int32)) ∧ (id' = ic) ∧ x4 = x3) ∨ (¬ (ed = (0 : Int32)) ∧ (ea = (0 : Int32)) ∧ ¬ (eb = (0 : Int32)) ∧ ¬ (id' = ib) ∧ ¬ (ec = (0 : Int32)) ∧ ¬ (id' = ic) ∧ x4 = (x3 + (1 : Int64))) ∨ (¬ (ed = (0 : Int32)) ∧ ¬ (ea = (0 : Int32)) ∧ (id' = ia) ∧ x4 = x3) ∨ (¬ (ed = (0 : Int32)) ∧ ¬ (ea = (0 : Int32)) ∧ ¬ (id' = ia) ∧ (eb = (0 : Int32)) ∧ (ec = (0 : Int32)) ∧ x4 = (x3 + (1 : Int64))) ∨ (¬ (ed = (0 : Int32)) ∧ ¬ (ea = (0 : Int32)) ∧ ¬ (id' = ia) ∧ (eb = (0 : Int32)) ∧ ¬ (ec = (0 : Int32)) ∧ (id' = ic) ∧ x4 = x3) ∨ (¬ (ed = (0 : Int32)) ∧ ¬ (ea = (0 : Int32)) ∧ ¬ (id' = ia) ∧ (eb = (0 : Int32)) ∧ ¬ (ec = (0 : Int32)) ∧ ¬ (id' = ic) ∧ x4 = (x3 + (1 : Int64))) ∨ (¬ (ed = (0 : Int32)) ∧ ¬ (ea = (0 : Int32)) ∧ ¬ (id' = ia) ∧ ¬ (eb = (0 : Int32)) ∧ (id' = ib) ∧ x4 = x3) ∨ (¬ (ed = (0 : Int32)) ∧ ¬ (ea = (0 : Int32)) ∧ ¬ (id' = ia) ∧ ¬ (eb = (0 : Int32)) ∧ ¬ (id' = ib) ∧ (ec = (0 : Int32)) ∧ x4 = (x3 + (1 : Int64))) ∨ (¬ (ed = (0 : Int32)) ∧ ¬ (ea = (0 : Int32)) ∧ ¬ (id' = ia) ∧ ¬ (eb = (0 : Int32)) ∧ ¬ (id' = ib) ∧ ¬ (ec = (0 : Int32)) ∧ (id' = ic) ∧ x4 = x3) ∨ (¬ (ed = (0 : Int32)) ∧ ¬ (ea = (0 : Int32)) ∧ ¬ (id' = ia) ∧ ¬ (eb = (0 : Int32)) ∧ ¬ (id' = ib) ∧ ¬ (ec = (0 : Int32)) ∧ ¬ (id' = ic) ∧ x4 = (x3 + (1 : Int64)))) → Go p.tables e below G (T44.setTop (mkF m 373 #[lv q0, sd, lv q1, sd, lv q2, sd, lv q3, sd, lv q4, sd, iv p5, lv size, sd, iv ea, iv eb, iv ec, iv ed, lv ia, sd, lv ib, sd, lv ic, sd, lv id', sd, rv b14, lv (own_sum W0 nw), sd, lv (own_sum W4 nw), sd, lv x4, sd] [])) by
      by_cases hc325 : ed = (0 : Int32)
      · refine Go.stp (fun t_ k_ => XS.ifYes X44.here hx rfl (pc0 := 325) (pc' := 373) rfl (hb hby at_325) rfl ((if0 _ _).trans (teq hc325).1) (by decide) (by decide) k_) ?_
        show Go p.tables e below G (T44.setTop (mkF m 373 #[lv q0, sd, lv q1, sd, lv q2, sd, lv q3, sd, lv q4, sd, iv p5, lv size, sd, iv ea, iv eb, iv ec, iv ed, lv ia, sd, lv ib, sd, lv ic, sd, lv id', sd, rv b14, lv (own_sum W0 nw), sd, lv (own_sum W4 nw), sd, lv x3, sd] []))
        exact J48 _ (Or.inl ⟨hc325, rfl⟩)
      · refine Go.stp (fun t_ k_ => XS.ifNo X44.here hx rfl (hb hby at_325) rfl ((if0 _ _).trans (feq hc325).1) k_) ?_
        show Go p.tables e below G (T44.setTop (mkF m 328 #[lv q0, sd, lv q1, sd, lv q2, sd, lv q3, sd, lv q4, sd, iv p5, lv size, sd, iv ea, iv eb, iv ec, iv ed, lv ia, sd, lv ib, sd, lv ic, sd, lv id', sd, rv b14, lv (own_sum W0 nw), sd, lv (own_sum W4 nw), sd, lv x3, sd] []))
        refine Go.stp (fun t_ k_ => XS.iload X44.here hx rfl (hb hby at_328) rfl k_) ?_
        show Go p.tables e below G (T44.setTop (mkF m 330 #[lv q0, sd, lv q1, sd, lv q2, sd, lv q3, sd, lv q4, sd, iv p5, lv size, sd, iv ea, iv eb, iv ec, iv ed, lv ia, sd, lv ib, sd, lv ic, sd, lv id', sd, rv b14, lv (own_sum W0 nw), sd, lv (own_sum W4 nw), sd, lv x3, sd] [(.int ea)]))
        by_cases hc330 : ea = (0 : Int32)
        · refine Go.stp (fun t_ k_ => XS.ifYes X44.here hx rfl (pc0 := 330) (pc' := 341) rfl (hb hby at_330) rfl ((if0 _ _).trans (teq hc330).1) (by decide) (by decide) k_) ?_
          show Go p.tables e below G (T44.setTop (mkF m 341 #[lv q0, sd, lv q1, sd, lv q2, sd, lv q3, sd, lv q4, sd, iv p5, lv size, sd, iv ea, iv eb, iv ec, iv ed, lv ia, sd, lv ib, sd, lv ic, sd, lv id', sd, rv b14, lv (own_sum W0 nw), sd, lv (own_sum W4 nw), sd, lv x3, sd] []))
          refine Go.stp (fun t_ k_ => XS.iload X44.here hx rfl (hb hby at_341) rfl k_) ?_
          show Go p.tables e below G (T44.setTop (mkF m 343 #[lv q0, sd, lv q1, sd, lv q2, sd, lv q3, sd, lv q4, sd, iv p5, lv size, sd, iv ea, iv eb, iv ec, iv ed, lv ia, sd, lv ib, sd, lv ic, sd, lv id', sd, rv b14, lv (own_sum W0 nw), sd, lv (own_sum W4 nw), sd, lv x3, sd] [(.int eb)]))
          by_cases hc343 : eb = (0 : Int32)
          · refine Go.stp (fun t_ k_ => XS.ifYes X44.here hx rfl (pc0 := 343) (pc' := 354) rfl (hb hby at_343) rfl ((if0 _ _).trans (teq hc343).1) (by decide) (by decide) k_) ?_
            show Go p.tables e below G (T44.setTop (mkF m 354 #[lv q0, sd, lv q1, sd, lv q2, sd, lv q3, sd, lv q4, sd, iv p5, lv size, sd, iv ea, iv eb, iv ec, iv ed, lv ia, sd, lv ib, sd, lv ic, sd, lv id', sd, rv b14, lv (own_sum W0 nw), sd, lv (own_sum W4 nw), sd, lv x3, sd] []))
            refine Go.stp (fun t_ k_ => XS.iload X44.here hx rfl (hb hby at_354) rfl k_) ?_
            show Go p.tables e below G (T44.setTop (mkF m 356 #[lv q0, sd, lv q1, sd, lv q2, sd, lv q3, sd, lv q4, sd, iv p5, lv size, sd, iv ea, iv eb, iv ec, iv ed, lv ia, sd, lv ib, sd, lv ic, sd, lv id', sd, rv b14, lv (own_sum W0 nw), sd, lv (own_sum W4 nw), sd, lv x3, sd] [(.int ec)]))
            by_cases hc356 : ec = (0 : Int32)
            · refine Go.stp (fun t_ k_ => XS.ifYes X44.here hx rfl (pc0 := 356) (pc' := 367) rfl (hb hby at_356) rfl ((if0 _ _).trans (teq hc356).1) (by decide) (by decide) k_) ?_
              show Go p.tables e below G (T44.setTop (mkF m 367 #[lv q0, sd, lv q1, sd, lv q2, sd, lv q3, sd, lv q4, sd, iv p5, lv size, sd, iv ea, iv eb, iv ec, iv ed, lv ia, sd, lv ib, sd, lv ic, sd, lv id', sd, rv b14, lv (own_sum W0 nw), sd, lv (own_sum W4 nw), sd, lv x3, sd] []))
              refine Go.stp (fun t_ k_ => XS.lload X44.here hx rfl (hb hby at_367) rfl k_) ?_
              show Go p.tables e below G (T44.setTop (mkF m 369 #[lv q0, sd, lv q1, sd, lv q2, sd, lv q3, sd, lv q4, sd, iv p5, lv size, sd, iv ea, iv eb, iv ec, iv ed, lv ia, sd, lv ib, sd, lv ic, sd, lv id', sd, rv b14, lv (own_sum W0 nw), sd, lv (own_sum W4 nw), sd, lv x3, sd] [(.long x3)]))
              refine Go.stp (fun t_ k_ => XS.lconst X44.here hx rfl (hb hby at_369) k_) ?_
              show Go p.tables e below G (T44.setTop (mkF m 370 #[lv q0, sd, lv q1, sd, lv q2, sd, lv q3, sd, lv q4, sd, iv p5, lv size, sd, iv ea, iv eb, iv ec, iv ed, lv ia, sd, lv ib, sd, lv ic, sd, lv id', sd, rv b14, lv (own_sum W0 nw), sd, lv (own_sum W4 nw), sd, lv x3, sd] [(.long (1 : Int64)), (.long x3)]))
              refine Go.stp (fun t_ k_ => XS.ladd X44.here hx rfl (hb hby at_370) rfl k_) ?_
              show Go p.tables e below G (T44.setTop (mkF m 371 #[lv q0, sd, lv q1, sd, lv q2, sd, lv q3, sd, lv q4, sd, iv p5, lv size, sd, iv ea, iv eb, iv ec, iv ed, lv ia, sd, lv ib, sd, lv ic, sd, lv id', sd, rv b14, lv (own_sum W0 nw), sd, lv (own_sum W4 nw), sd, lv x3, sd] [(.long (x3 + (1 : Int64)))]))
              refine Go.stp (fun t_ k_ => XS.lstore X44.here hx rfl (hb hby at_371) rfl (l' := #[lv q0, sd, lv q1, sd, lv q2, sd, lv q3, sd, lv q4, sd, iv p5, lv size, sd, iv ea, iv eb, iv ec, iv ed, lv ia, sd, lv ib, sd, lv ic, sd, lv id', sd, rv b14, lv (own_sum W0 nw), sd, lv (own_sum W4 nw), sd, lv (x3 + (1 : Int64)), sd]) rfl k_) ?_
              show Go p.tables e below G (T44.setTop (mkF m 373 #[lv q0, sd, lv q1, sd, lv q2, sd, lv q3, sd, lv q4, sd, iv p5, lv size, sd, iv ea, iv eb, iv ec, iv ed, lv ia, sd, lv ib, sd, lv ic, sd, lv id', sd, rv b14, lv (own_sum W0 nw), sd, lv (own_sum W4 nw), sd, lv (x3 + (1 : Int64)), sd] []))
              exact J48 _ (Or.inr (Or.inl ⟨hc325, hc330, hc343, hc356, rfl⟩))
            · refine Go.stp (fun t_ k_ => XS.ifNo X44.here hx rfl (hb hby at_356) rfl ((if0 _ _).trans (feq hc356).1) k_) ?_
              show Go p.tables e below G (T44.setTop (mkF m 359 #[lv q0, sd, lv q1, sd, lv q2, sd, lv q3, sd, lv q4, sd, iv p5, lv size, sd, iv ea, iv eb, iv ec, iv ed, lv ia, sd, lv ib, sd, lv ic, sd, lv id', sd, rv b14, lv (own_sum W0 nw), sd, lv (own_sum W4 nw), sd, lv x3, sd] []))
              refine Go.stp (fun t_ k_ => XS.lload X44.here hx rfl (hb hby at_359) rfl k_) ?_
              show Go p.tables e below G (T44.setTop (mkF m 361 #[lv q0, sd, lv q1, sd, lv q2, sd, lv q3, sd, lv q4, sd, iv p5, lv size, sd, iv ea, iv eb, iv ec, iv ed, lv ia, sd, lv ib, sd, lv ic, sd, lv id', sd, rv b14, lv (own_sum W0 nw), sd, lv (own_sum W4 nw), sd, lv x3, sd] [(.long id')]))
              refine Go.stp (fun t_ k_ => XS.lload X44.here hx rfl (hb hby at_361) rfl k_) ?_
              show Go p.tables e below G (T44.setTop (mkF m 363 #[lv q0, sd, lv q1, sd, lv q2, sd, lv q3, sd, lv q4, sd, iv p5, lv size, sd, iv ea, iv eb, iv ec, iv ed, lv ia, sd, lv ib, sd, lv ic, sd, lv id', sd, rv b14, lv (own_sum W0 nw), sd, lv (own_sum W4 nw), sd, lv x3, sd] [(.long ic), (.long id')]))
              refine Go.stp (fun t_ k_ => XS.lcmp X44.here hx rfl (hb hby at_363) rfl k_) ?_
              show Go p.tables e below G (T44.setTop (mkF m 364 #[lv q0, sd, lv q1, sd, lv q2, sd, lv q3, sd, lv q4, sd, iv p5, lv size, sd, iv ea, iv eb, iv ec, iv ed, lv ia, sd, lv ib, sd, lv ic, sd, lv id', sd, rv b14, lv (own_sum W0 nw), sd, lv (own_sum W4 nw), sd, lv x3, sd] [(.int (lcmpW id' ic))]))
              by_cases hc364 : id' = ic
              · refine Go.stp (fun t_ k_ => XS.ifYes X44.here hx rfl (pc0 := 364) (pc' := 373) rfl (hb hby at_364) rfl ((if0 _ _).trans (teq ((lw_eq id' ic).mpr hc364)).1) (by decide) (by decide) k_) ?_
                show Go p.tables e below G (T44.setTop (mkF m 373 #[lv q0, sd, lv q1, sd, lv q2, sd, lv q3, sd, lv q4, sd, iv p5, lv size, sd, iv ea, iv eb, iv ec, iv ed, lv ia, sd, lv ib, sd, lv ic, sd, lv id', sd, rv b14, lv (own_sum W0 nw), sd, lv (own_sum W4 nw), sd, lv x3, sd] []))
                exact J48 _ (Or.inr (Or.inr (Or.inl ⟨hc325, hc330, hc343, hc356, hc364, rfl⟩)))
              · refine Go.stp (fun t_ k_ => XS.ifNo X44.here hx rfl (hb hby at_364) rfl ((if0 _ _).trans (feq (fun q => hc364 ((lw_eq id' ic).mp q))).1) k_) ?_
                show Go p.tables e below G (T44.setTop (mkF m 367 #[lv q0, sd, lv q1, sd, lv q2, sd, lv q3, sd, lv q4, sd, iv p5, lv size, sd, iv ea, iv eb, iv ec, iv ed, lv ia, sd, lv ib, sd, lv ic, sd, lv id', sd, rv b14, lv (own_sum W0 nw), sd, lv (own_sum W4 nw), sd, lv x3, sd] []))
                refine Go.stp (fun t_ k_ => XS.lload X44.here hx rfl (hb hby at_367) rfl k_) ?_
                show Go p.tables e below G (T44.setTop (mkF m 369 #[lv q0, sd, lv q1, sd, lv q2, sd, lv q3, sd, lv q4, sd, iv p5, lv size, sd, iv ea, iv eb, iv ec, iv ed, lv ia, sd, lv ib, sd, lv ic, sd, lv id', sd, rv b14, lv (own_sum W0 nw), sd, lv (own_sum W4 nw), sd, lv x3, sd] [(.long x3)]))
                refine Go.stp (fun t_ k_ => XS.lconst X44.here hx rfl (hb hby at_369) k_) ?_
                show Go p.tables e below G (T44.setTop (mkF m 370 #[lv q0, sd, lv q1, sd, lv q2, sd, lv q3, sd, lv q4, sd, iv p5, lv size, sd, iv ea, iv eb, iv ec, iv ed, lv ia, sd, lv ib, sd, lv ic, sd, lv id', sd, rv b14, lv (own_sum W0 nw), sd, lv (own_sum W4 nw), sd, lv x3, sd] [(.long (1 : Int64)), (.long x3)]))
                refine Go.stp (fun t_ k_ => XS.ladd X44.here hx rfl (hb hby at_370) rfl k_) ?_
                show Go p.tables e below G (T44.setTop (mkF m 371 #[lv q0, sd, lv q1, sd, lv q2, sd, lv q3, sd, lv q4, sd, iv p5, lv size, sd, iv ea, iv eb, iv ec, iv ed, lv ia, sd, lv ib, sd, lv ic, sd, lv id', sd, rv b14, lv (own_sum W0 nw), sd, lv (own_sum W4 nw), sd, lv x3, sd] [(.long (x3 + (1 : Int64)))]))
                refine Go.stp (fun t_ k_ => XS.lstore X44.here hx rfl (hb hby at_371) rfl (l' := #[lv q0, sd, lv q1, sd, lv q2, sd, lv q3, sd, lv q4, sd, iv p5, lv size, sd, iv ea, iv eb, iv ec, iv ed, lv ia, sd, lv ib, sd, lv ic, sd, lv id', sd, rv b14, lv (own_sum W0 nw), sd, lv (own_sum W4 nw), sd, lv (x3 + (1 : Int64)), sd]) rfl k_) ?_
                show Go p.tables e below G (T44.setTop (mkF m 373 #[lv q0, sd, lv q1, sd, lv q2, sd, lv q3, sd, lv q4, sd, iv p5, lv size, sd, iv ea, iv eb, iv ec, iv ed, lv ia, sd, lv ib, sd, lv ic, sd, lv id', sd, rv b14, lv (own_sum W0 nw), sd, lv (own_sum W4 nw), sd, lv (x3 + (1 : Int64)), sd] []))
                exact J48 _ (Or.inr (Or.inr (Or.inr (Or.inl ⟨hc325, hc330, hc343, hc356, hc364, rfl⟩))))
          · refine Go.stp (fun t_ k_ => XS.ifNo X44.here hx rfl (hb hby at_343) rfl ((if0 _ _).trans (feq hc343).1) k_) ?_
            show Go p.tables e below G (T44.setTop (mkF m 346 #[lv q0, sd, lv q1, sd, lv q2, sd, lv q3, sd, lv q4, sd, iv p5, lv size, sd, iv ea, iv eb, iv ec, iv ed, lv ia, sd, lv ib, sd, lv ic, sd, lv id', sd, rv b14, lv (own_sum W0 nw), sd, lv (own_sum W4 nw), sd, lv x3, sd] []))
            refine Go.stp (fun t_ k_ => XS.lload X44.here hx rfl (hb hby at_346) rfl k_) ?_
            show Go p.tables e below G (T44.setTop (mkF m 348 #[lv q0, sd, lv q1, sd, lv q2, sd, lv q3, sd, lv q4, sd, iv p5, lv size, sd, iv ea, iv eb, iv ec, iv ed, lv ia, sd, lv ib, sd, lv ic, sd, lv id', sd, rv b14, lv (own_sum W0 nw), sd, lv (own_sum W4 nw), sd, lv x3, sd] [(.long id')]))
            refine Go.stp (fun t_ k_ => XS.lload X44.here hx rfl (hb hby at_348) rfl k_) ?_
            show Go p.tables e below G (T44.setTop (mkF m 350 #[lv q0, sd, lv q1, sd, lv q2, sd, lv q3, sd, lv q4, sd, iv p5, lv size, sd, iv ea, iv eb, iv ec, iv ed, lv ia, sd, lv ib, sd, lv ic, sd, lv id', sd, rv b14, lv (own_sum W0 nw), sd, lv (own_sum W4 nw), sd, lv x3, sd] [(.long ib), (.long id')]))
            refine Go.stp (fun t_ k_ => XS.lcmp X44.here hx rfl (hb hby at_350) rfl k_) ?_
            show Go p.tables e below G (T44.setTop (mkF m 351 #[lv q0, sd, lv q1, sd, lv q2, sd, lv q3, sd, lv q4, sd, iv p5, lv size, sd, iv ea, iv eb, iv ec, iv ed, lv ia, sd, lv ib, sd, lv ic, sd, lv id', sd, rv b14, lv (own_sum W0 nw), sd, lv (own_sum W4 nw), sd, lv x3, sd] [(.int (lcmpW id' ib))]))
            by_cases hc351 : id' = ib
            · refine Go.stp (fun t_ k_ => XS.ifYes X44.here hx rfl (pc0 := 351) (pc' := 373) rfl (hb hby at_351) rfl ((if0 _ _).trans (teq ((lw_eq id' ib).mpr hc351)).1) (by decide) (by decide) k_) ?_
              show Go p.tables e below G (T44.setTop (mkF m 373 #[lv q0, sd, lv q1, sd, lv q2, sd, lv q3, sd, lv q4, sd, iv p5, lv size, sd, iv ea, iv eb, iv ec, iv ed, lv ia, sd, lv ib, sd, lv ic, sd, lv id', sd, rv b14, lv (own_sum W0 nw), sd, lv (own_sum W4 nw), sd, lv x3, sd] []))
              exact J48 _ (Or.inr (Or.inr (Or.inr (Or.inr (Or.inl ⟨hc325, hc330, hc343, hc351, rfl⟩)))))
            · refine Go.stp (fun t_ k_ => XS.ifNo X44.here hx rfl (hb hby at_351) rfl ((if0 _ _).trans (feq (fun q => hc351 ((lw_eq id' ib).mp q))).1) k_) ?_
              show Go p.tables e below G (T44.setTop (mkF m 354 #[lv q0, sd, lv q1, sd, lv q2, sd, lv q3, sd, lv q4, sd, iv p5, lv size, sd, iv ea, iv eb, iv ec, iv ed, lv ia, sd, lv ib, sd, lv ic, sd, lv id', sd, rv b14, lv (own_sum W0 nw), sd, lv (own_sum W4 nw), sd, lv x3, sd] []))
              refine Go.stp (fun t_ k_ => XS.iload X44.here hx rfl (hb hby at_354) rfl k_) ?_
              show Go p.tables e below G (T44.setTop (mkF m 356 #[lv q0, sd, lv q1, sd, lv q2, sd, lv q3, sd, lv q4, sd, iv p5, lv size, sd, iv ea, iv eb, iv ec, iv ed, lv ia, sd, lv ib, sd, lv ic, sd, lv id', sd, rv b14, lv (own_sum W0 nw), sd, lv (own_sum W4 nw), sd, lv x3, sd] [(.int ec)]))
              by_cases hc356 : ec = (0 : Int32)
              · refine Go.stp (fun t_ k_ => XS.ifYes X44.here hx rfl (pc0 := 356) (pc' := 367) rfl (hb hby at_356) rfl ((if0 _ _).trans (teq hc356).1) (by decide) (by decide) k_) ?_
                show Go p.tables e below G (T44.setTop (mkF m 367 #[lv q0, sd, lv q1, sd, lv q2, sd, lv q3, sd, lv q4, sd, iv p5, lv size, sd, iv ea, iv eb, iv ec, iv ed, lv ia, sd, lv ib, sd, lv ic, sd, lv id', sd, rv b14, lv (own_sum W0 nw), sd, lv (own_sum W4 nw), sd, lv x3, sd] []))
                refine Go.stp (fun t_ k_ => XS.lload X44.here hx rfl (hb hby at_367) rfl k_) ?_
                show Go p.tables e below G (T44.setTop (mkF m 369 #[lv q0, sd, lv q1, sd, lv q2, sd, lv q3, sd, lv q4, sd, iv p5, lv size, sd, iv ea, iv eb, iv ec, iv ed, lv ia, sd, lv ib, sd, lv ic, sd, lv id', sd, rv b14, lv (own_sum W0 nw), sd, lv (own_sum W4 nw), sd, lv x3, sd] [(.long x3)]))
                refine Go.stp (fun t_ k_ => XS.lconst X44.here hx rfl (hb hby at_369) k_) ?_
                show Go p.tables e below G (T44.setTop (mkF m 370 #[lv q0, sd, lv q1, sd, lv q2, sd, lv q3, sd, lv q4, sd, iv p5, lv size, sd, iv ea, iv eb, iv ec, iv ed, lv ia, sd, lv ib, sd, lv ic, sd, lv id', sd, rv b14, lv (own_sum W0 nw), sd, lv (own_sum W4 nw), sd, lv x3, sd] [(.long (1 : Int64)), (.long x3)]))
                refine Go.stp (fun t_ k_ => XS.ladd X44.here hx rfl (hb hby at_370) rfl k_) ?_
                show Go p.tables e below G (T44.setTop (mkF m 371 #[lv q0, sd, lv q1, sd, lv q2, sd, lv q3, sd, lv q4, sd, iv p5, lv size, sd, iv ea, iv eb, iv ec, iv ed, lv ia, sd, lv ib, sd, lv ic, sd, lv id', sd, rv b14, lv (own_sum W0 nw), sd, lv (own_sum W4 nw), sd, lv x3, sd] [(.long (x3 + (1 : Int64)))]))
                refine Go.stp (fun t_ k_ => XS.lstore X44.here hx rfl (hb hby at_371) rfl (l' := #[lv q0, sd, lv q1, sd, lv q2, sd, lv q3, sd, lv q4, sd, iv p5, lv size, sd, iv ea, iv eb, iv ec, iv ed, lv ia, sd, lv ib, sd, lv ic, sd, lv id', sd, rv b14, lv (own_sum W0 nw), sd, lv (own_sum W4 nw), sd, lv (x3 + (1 : Int64)), sd]) rfl k_) ?_
                show Go p.tables e below G (T44.setTop (mkF m 373 #[lv q0, sd, lv q1, sd, lv q2, sd, lv q3, sd, lv q4, sd, iv p5, lv size, sd, iv ea, iv eb, iv ec, iv ed, lv ia, sd, lv ib, sd, lv ic, sd, lv id', sd, rv b14, lv (own_sum W0 nw), sd, lv (own_sum W4 nw), sd, lv (x3 + (1 : Int64)), sd] []))
                exact J48 _ (Or.inr (Or.inr (Or.inr (Or.inr (Or.inr (Or.inl ⟨hc325, hc330, hc343, hc351, hc356, rfl⟩))))))
              · refine Go.stp (fun t_ k_ => XS.ifNo X44.here hx rfl (hb hby at_356) rfl ((if0 _ _).trans (feq hc356).1) k_) ?_
                show Go p.tables e below G (T44.setTop (mkF m 359 #[lv q0, sd, lv q1, sd, lv q2, sd, lv q3, sd, lv q4, sd, iv p5, lv size, sd, iv ea, iv eb, iv ec, iv ed, lv ia, sd, lv ib, sd, lv ic, sd, lv id', sd, rv b14, lv (own_sum W0 nw), sd, lv (own_sum W4 nw), sd, lv x3, sd] []))
                refine Go.stp (fun t_ k_ => XS.lload X44.here hx rfl (hb hby at_359) rfl k_) ?_
                show Go p.tables e below G (T44.setTop (mkF m 361 #[lv q0, sd, lv q1, sd, lv q2, sd, lv q3, sd, lv q4, sd, iv p5, lv size, sd, iv ea, iv eb, iv ec, iv ed, lv ia, sd, lv ib, sd, lv ic, sd, lv id', sd, rv b14, lv (own_sum W0 nw), sd, lv (own_sum W4 nw), sd, lv x3, sd] [(.long id')]))
                refine Go.stp (fun t_ k_ => XS.lload X44.here hx rfl (hb hby at_361) rfl k_) ?_
                show Go p.tables e below G (T44.setTop (mkF m 363 #[lv q0, sd, lv q1, sd, lv q2, sd, lv q3, sd, lv q4, sd, iv p5, lv size, sd, iv ea, iv eb, iv ec, iv ed, lv ia, sd, lv ib, sd, lv ic, sd, lv id', sd, rv b14, lv (own_sum W0 nw), sd, lv (own_sum W4 nw), sd, lv x3, sd] [(.long ic), (.long id')]))
                refine Go.stp (fun t_ k_ => XS.lcmp X44.here hx rfl (hb hby at_363) rfl k_) ?_
                show Go p.tables e below G (T44.setTop (mkF m 364 #[lv q0, sd, lv q1, sd, lv q2, sd, lv q3, sd, lv q4, sd, iv p5, lv size, sd, iv ea, iv eb, iv ec, iv ed, lv ia, sd, lv ib, sd, lv ic, sd, lv id', sd, rv b14, lv (own_sum W0 nw), sd, lv (own_sum W4 nw), sd, lv x3, sd] [(.int (lcmpW id' ic))]))
                by_cases hc364 : id' = ic
                · refine Go.stp (fun t_ k_ => XS.ifYes X44.here hx rfl (pc0 := 364) (pc' := 373) rfl (hb hby at_364) rfl ((if0 _ _).trans (teq ((lw_eq id' ic).mpr hc364)).1) (by decide) (by decide) k_) ?_
                  show Go p.tables e below G (T44.setTop (mkF m 373 #[lv q0, sd, lv q1, sd, lv q2, sd, lv q3, sd, lv q4, sd, iv p5, lv size, sd, iv ea, iv eb, iv ec, iv ed, lv ia, sd, lv ib, sd, lv ic, sd, lv id', sd, rv b14, lv (own_sum W0 nw), sd, lv (own_sum W4 nw), sd, lv x3, sd] []))
                  exact J48 _ (Or.inr (Or.inr (Or.inr (Or.inr (Or.inr (Or.inr (Or.inl ⟨hc325, hc330, hc343, hc351, hc356, hc364, rfl⟩)))))))
                · refine Go.stp (fun t_ k_ => XS.ifNo X44.here hx rfl (hb hby at_364) rfl ((if0 _ _).trans (feq (fun q => hc364 ((lw_eq id' ic).mp q))).1) k_) ?_
                  show Go p.tables e below G (T44.setTop (mkF m 367 #[lv q0, sd, lv q1, sd, lv q2, sd, lv q3, sd, lv q4, sd, iv p5, lv size, sd, iv ea, iv eb, iv ec, iv ed, lv ia, sd, lv ib, sd, lv ic, sd, lv id', sd, rv b14, lv (own_sum W0 nw), sd, lv (own_sum W4 nw), sd, lv x3, sd] []))
                  refine Go.stp (fun t_ k_ => XS.lload X44.here hx rfl (hb hby at_367) rfl k_) ?_
                  show Go p.tables e below G (T44.setTop (mkF m 369 #[lv q0, sd, lv q1, sd, lv q2, sd, lv q3, sd, lv q4, sd, iv p5, lv size, sd, iv ea, iv eb, iv ec, iv ed, lv ia, sd, lv ib, sd, lv ic, sd, lv id', sd, rv b14, lv (own_sum W0 nw), sd, lv (own_sum W4 nw), sd, lv x3, sd] [(.long x3)]))
                  refine Go.stp (fun t_ k_ => XS.lconst X44.here hx rfl (hb hby at_369) k_) ?_
                  show Go p.tables e below G (T44.setTop (mkF m 370 #[lv q0, sd, lv q1, sd, lv q2, sd, lv q3, sd, lv q4, sd, iv p5, lv size, sd, iv ea, iv eb, iv ec, iv ed, lv ia, sd, lv ib, sd, lv ic, sd, lv id', sd, rv b14, lv (own_sum W0 nw), sd, lv (own_sum W4 nw), sd, lv x3, sd] [(.long (1 : Int64)), (.long x3)]))
                  refine Go.stp (fun t_ k_ => XS.ladd X44.here hx rfl (hb hby at_370) rfl k_) ?_
                  show Go p.tables e below G (T44.setTop (mkF m 371 #[lv q0, sd, lv q1, sd, lv q2, sd, lv q3, sd, lv q4, sd, iv p5, lv size, sd, iv ea, iv eb, iv ec, iv ed, lv ia, sd, lv ib, sd, lv ic, sd, lv id', sd, rv b14, lv (own_sum W0 nw), sd, lv (own_sum W4 nw), sd, lv x3, sd] [(.long (x3 + (1 : Int64)))]))
                  refine Go.stp (fun t_ k_ => XS.lstore X44.here hx rfl (hb hby at_371) rfl (l' := #[lv q0, sd, lv q1, sd, lv q2, sd, lv q3, sd, lv q4, sd, iv p5, lv size, sd, iv ea, iv eb, iv ec, iv ed, lv ia, sd, lv ib, sd, lv ic, sd, lv id', sd, rv b14, lv (own_sum W0 nw), sd, lv (own_sum W4 nw), sd, lv (x3 + (1 : Int64)), sd]) rfl k_) ?_
                  show Go p.tables e below G (T44.setTop (mkF m 373 #[lv q0, sd, lv q1, sd, lv q2, sd, lv q3, sd, lv q4, sd, iv p5, lv size, sd, iv ea, iv eb, iv ec, iv ed, lv ia, sd, lv ib, sd, lv ic, sd, lv id', sd, rv b14, lv (own_sum W0 nw), sd, lv (own_sum W4 nw), sd, lv (x3 + (1 : Int64)), sd] []))
                  exact J48 _ (Or.inr (Or.inr (Or.inr (Or.inr (Or.inr (Or.inr (Or.inr (Or.inl ⟨hc325, hc330, hc343, hc351, hc356, hc364, rfl⟩))))))))
        · refine Go.stp (fun t_ k_ => XS.ifNo X44.here hx rfl (hb hby at_330) rfl ((if0 _ _).trans (feq hc330).1) k_) ?_
          show Go p.tables e below G (T44.setTop (mkF m 333 #[lv q0, sd, lv q1, sd, lv q2, sd, lv q3, sd, lv q4, sd, iv p5, lv size, sd, iv ea, iv eb, iv ec, iv ed, lv ia, sd, lv ib, sd, lv ic, sd, lv id', sd, rv b14, lv (own_sum W0 nw), sd, lv (own_sum W4 nw), sd, lv x3, sd] []))
          refine Go.stp (fun t_ k_ => XS.lload X44.here hx rfl (hb hby at_333) rfl k_) ?_
          show Go p.tables e below G (T44.setTop (mkF m 335 #[lv q0, sd, lv q1, sd, lv q2, sd, lv q3, sd, lv q4, sd, iv p5, lv size, sd, iv ea, iv eb, iv ec, iv ed, lv ia, sd, lv ib, sd, lv ic, sd, lv id', sd, rv b14, lv (own_sum W0 nw), sd, lv (own_sum W4 nw), sd, lv x3, sd] [(.long id')]))
          refine Go.stp (fun t_ k_ => XS.lload X44.here hx rfl (hb hby at_335) rfl k_) ?_
          show Go p.tables e below G (T44.setTop (mkF m 337 #[lv q0, sd, lv q1, sd, lv q2, sd, lv q3, sd, lv q4, sd, iv p5, lv size, sd, iv ea, iv eb, iv ec, iv ed, lv ia, sd, lv ib, sd, lv ic, sd, lv id', sd, rv b14, lv (own_sum W0 nw), sd, lv (own_sum W4 nw), sd, lv x3, sd] [(.long ia), (.long id')]))
          refine Go.stp (fun t_ k_ => XS.lcmp X44.here hx rfl (hb hby at_337) rfl k_) ?_
          show Go p.tables e below G (T44.setTop (mkF m 338 #[lv q0, sd, lv q1, sd, lv q2, sd, lv q3, sd, lv q4, sd, iv p5, lv size, sd, iv ea, iv eb, iv ec, iv ed, lv ia, sd, lv ib, sd, lv ic, sd, lv id', sd, rv b14, lv (own_sum W0 nw), sd, lv (own_sum W4 nw), sd, lv x3, sd] [(.int (lcmpW id' ia))]))
          by_cases hc338 : id' = ia
          · refine Go.stp (fun t_ k_ => XS.ifYes X44.here hx rfl (pc0 := 338) (pc' := 373) rfl (hb hby at_338) rfl ((if0 _ _).trans (teq ((lw_eq id' ia).mpr hc338)).1) (by decide) (by decide) k_) ?_
            show Go p.tables e below G (T44.setTop (mkF m 373 #[lv q0, sd, lv q1, sd, lv q2, sd, lv q3, sd, lv q4, sd, iv p5, lv size, sd, iv ea, iv eb, iv ec, iv ed, lv ia, sd, lv ib, sd, lv ic, sd, lv id', sd, rv b14, lv (own_sum W0 nw), sd, lv (own_sum W4 nw), sd, lv x3, sd] []))
            exact J48 _ (Or.inr (Or.inr (Or.inr (Or.inr (Or.inr (Or.inr (Or.inr (Or.inr (Or.inl ⟨hc325, hc330, hc338, rfl⟩)))))))))
          · refine Go.stp (fun t_ k_ => XS.ifNo X44.here hx rfl (hb hby at_338) rfl ((if0 _ _).trans (feq (fun q => hc338 ((lw_eq id' ia).mp q))).1) k_) ?_
            show Go p.tables e below G (T44.setTop (mkF m 341 #[lv q0, sd, lv q1, sd, lv q2, sd, lv q3, sd, lv q4, sd, iv p5, lv size, sd, iv ea, iv eb, iv ec, iv ed, lv ia, sd, lv ib, sd, lv ic, sd, lv id', sd, rv b14, lv (own_sum W0 nw), sd, lv (own_sum W4 nw), sd, lv x3, sd] []))
            refine Go.stp (fun t_ k_ => XS.iload X44.here hx rfl (hb hby at_341) rfl k_) ?_
            show Go p.tables e below G (T44.setTop (mkF m 343 #[lv q0, sd, lv q1, sd, lv q2, sd, lv q3, sd, lv q4, sd, iv p5, lv size, sd, iv ea, iv eb, iv ec, iv ed, lv ia, sd, lv ib, sd, lv ic, sd, lv id', sd, rv b14, lv (own_sum W0 nw), sd, lv (own_sum W4 nw), sd, lv x3, sd] [(.int eb)]))
            by_cases hc343 : eb = (0 : Int32)
            · refine Go.stp (fun t_ k_ => XS.ifYes X44.here hx rfl (pc0 := 343) (pc' := 354) rfl (hb hby at_343) rfl ((if0 _ _).trans (teq hc343).1) (by decide) (by decide) k_) ?_
              show Go p.tables e below G (T44.setTop (mkF m 354 #[lv q0, sd, lv q1, sd, lv q2, sd, lv q3, sd, lv q4, sd, iv p5, lv size, sd, iv ea, iv eb, iv ec, iv ed, lv ia, sd, lv ib, sd, lv ic, sd, lv id', sd, rv b14, lv (own_sum W0 nw), sd, lv (own_sum W4 nw), sd, lv x3, sd] []))
              refine Go.stp (fun t_ k_ => XS.iload X44.here hx rfl (hb hby at_354) rfl k_) ?_
              show Go p.tables e below G (T44.setTop (mkF m 356 #[lv q0, sd, lv q1, sd, lv q2, sd, lv q3, sd, lv q4, sd, iv p5, lv size, sd, iv ea, iv eb, iv ec, iv ed, lv ia, sd, lv ib, sd, lv ic, sd, lv id', sd, rv b14, lv (own_sum W0 nw), sd, lv (own_sum W4 nw), sd, lv x3, sd] [(.int ec)]))
              by_cases hc356 : ec = (0 : Int32)
              · refine Go.stp (fun t_ k_ => XS.ifYes X44.here hx rfl (pc0 := 356) (pc' := 367) rfl (hb hby at_356) rfl ((if0 _ _).trans (teq hc356).1) (by decide) (by decide) k_) ?_
                show Go p.tables e below G (T44.setTop (mkF m 367 #[lv q0, sd, lv q1, sd, lv q2, sd, lv q3, sd, lv q4, sd, iv p5, lv size, sd, iv ea, iv eb, iv ec, iv ed, lv ia, sd, lv ib, sd, lv ic, sd, lv id', sd, rv b14, lv (own_sum W0 nw), sd, lv (own_sum W4 nw), sd, lv x3, sd] []))
                refine Go.stp (fun t_ k_ => XS.lload X44.here hx rfl (hb hby at_367) rfl k_) ?_
                show Go p.tables e below G (T44.setTop (mkF m 369 #[lv q0, sd, lv q1, sd, lv q2, sd, lv q3, sd, lv q4, sd, iv p5, lv size, sd, iv ea, iv eb, iv ec, iv ed, lv ia, sd, lv ib, sd, lv ic, sd, lv id', sd, rv b14, lv (own_sum W0 nw), sd, lv (own_sum W4 nw), sd, lv x3, sd] [(.long x3)]))
                refine Go.stp (fun t_ k_ => XS.lconst X44.here hx rfl (hb hby at_369) k_) ?_
                show Go p.tables e below G (T44.setTop (mkF m 370 #[lv q0, sd, lv q1, sd, lv q2, sd, lv q3, sd, lv q4, sd, iv p5, lv size, sd, iv ea, iv eb, iv ec, iv ed, lv ia, sd, lv ib, sd, lv ic, sd, lv id', sd, rv b14, lv (own_sum W0 nw), sd, lv (own_sum W4 nw), sd, lv x3, sd] [(.long (1 : Int64)), (.long x3)]))
                refine Go.stp (fun t_ k_ => XS.ladd X44.here hx rfl (hb hby at_370) rfl k_) ?_
                show Go p.tables e below G (T44.setTop (mkF m 371 #[lv q0, sd, lv q1, sd, lv q2, sd, lv q3, sd, lv q4, sd, iv p5, lv size, sd, iv ea, iv eb, iv ec, iv ed, lv ia, sd, lv ib, sd, lv ic, sd, lv id', sd, rv b14, lv (own_sum W0 nw), sd, lv (own_sum W4 nw), sd, lv x3, sd] [(.long (x3 + (1 : Int64)))]))
                refine Go.stp (fun t_ k_ => XS.lstore X44.here hx rfl (hb hby at_371) rfl (l' := #[lv q0, sd, lv q1, sd, lv q2, sd, lv q3, sd, lv q4, sd, iv p5, lv size, sd, iv ea, iv eb, iv ec, iv ed, lv ia, sd, lv ib, sd, lv ic, sd, lv id', sd, rv b14, lv (own_sum W0 nw), sd, lv (own_sum W4 nw), sd, lv (x3 + (1 : Int64)), sd]) rfl k_) ?_
                show Go p.tables e below G (T44.setTop (mkF m 373 #[lv q0, sd, lv q1, sd, lv q2, sd, lv q3, sd, lv q4, sd, iv p5, lv size, sd, iv ea, iv eb, iv ec, iv ed, lv ia, sd, lv ib, sd, lv ic, sd, lv id', sd, rv b14, lv (own_sum W0 nw), sd, lv (own_sum W4 nw), sd, lv (x3 + (1 : Int64)), sd] []))
                exact J48 _ (Or.inr (Or.inr (Or.inr (Or.inr (Or.inr (Or.inr (Or.inr (Or.inr (Or.inr (Or.inl ⟨hc325, hc330, hc338, hc343, hc356, rfl⟩))))))))))
              · refine Go.stp (fun t_ k_ => XS.ifNo X44.here hx rfl (hb hby at_356) rfl ((if0 _ _).trans (feq hc356).1) k_) ?_
                show Go p.tables e below G (T44.setTop (mkF m 359 #[lv q0, sd, lv q1, sd, lv q2, sd, lv q3, sd, lv q4, sd, iv p5, lv size, sd, iv ea, iv eb, iv ec, iv ed, lv ia, sd, lv ib, sd, lv ic, sd, lv id', sd, rv b14, lv (own_sum W0 nw), sd, lv (own_sum W4 nw), sd, lv x3, sd] []))
                refine Go.stp (fun t_ k_ => XS.lload X44.here hx rfl (hb hby at_359) rfl k_) ?_
                show Go p.tables e below G (T44.setTop (mkF m 361 #[lv q0, sd, lv q1, sd, lv q2, sd, lv q3, sd, lv q4, sd, iv p5, lv size, sd, iv ea, iv eb, iv ec, iv ed, lv ia, sd, lv ib, sd, lv ic, sd, lv id', sd, rv b14, lv (own_sum W0 nw), sd, lv (own_sum W4 nw), sd, lv x3, sd] [(.long id')]))
                refine Go.stp (fun t_ k_ => XS.lload X44.here hx rfl (hb hby at_361) rfl k_) ?_
                show Go p.tables e below G (T44.setTop (mkF m 363 #[lv q0, sd, lv q1, sd, lv q2, sd, lv q3, sd, lv q4, sd, iv p5, lv size, sd, iv ea, iv eb, iv ec, iv ed, lv ia, sd, lv ib, sd, lv ic, sd, lv id', sd, rv b14, lv (own_sum W0 nw), sd, lv (own_sum W4 nw), sd, lv x3, sd] [(.long ic), (.long id')]))
                refine Go.stp (fun t_ k_ => XS.lcmp X44.here hx rfl (hb hby at_363) rfl k_) ?_
                show Go p.tables e below G (T44.setTop (mkF m 364 #[lv q0, sd, lv q1, sd, lv q2, sd, lv q3, sd, lv q4, sd, iv p5, lv size, sd, iv ea, iv eb, iv ec, iv ed, lv ia, sd, lv ib, sd, lv ic, sd, lv id', sd, rv b14, lv (own_sum W0 nw), sd, lv (own_sum W4 nw), sd, lv x3, sd] [(.int (lcmpW id' ic))]))
                by_cases hc364 : id' = ic
                · refine Go.stp (fun t_ k_ => XS.ifYes X44.here hx rfl (pc0 := 364) (pc' := 373) rfl (hb hby at_364) rfl ((if0 _ _).trans (teq ((lw_eq id' ic).mpr hc364)).1) (by decide) (by decide) k_) ?_
                  show Go p.tables e below G (T44.setTop (mkF m 373 #[lv q0, sd, lv q1, sd, lv q2, sd, lv q3, sd, lv q4, sd, iv p5, lv size, sd, iv ea, iv eb, iv ec, iv ed, lv ia, sd, lv ib, sd, lv ic, sd, lv id', sd, rv b14, lv (own_sum W0 nw), sd, lv (own_sum W4 nw), sd, lv x3, sd] []))
                  exact J48 _ (Or.inr (Or.inr (Or.inr (Or.inr (Or.inr (Or.inr (Or.inr (Or.inr (Or.inr (Or.inr (Or.inl ⟨hc325, hc330, hc338, hc343, hc356, hc364, rfl⟩)))))))))))
                · refine Go.stp (fun t_ k_ => XS.ifNo X44.here hx rfl (hb hby at_364) rfl ((if0 _ _).trans (feq (fun q => hc364 ((lw_eq id' ic).mp q))).1) k_) ?_
                  show Go p.tables e below G (T44.setTop (mkF m 367 #[lv q0, sd, lv q1, sd, lv q2, sd, lv q3, sd, lv q4, sd, iv p5, lv size, sd, iv ea, iv eb, iv ec, iv ed, lv ia, sd, lv ib, sd, lv ic, sd, lv id', sd, rv b14, lv (own_sum W0 nw), sd, lv (own_sum W4 nw), sd, lv x3, sd] []))
                  refine Go.stp (fun t_ k_ => XS.lload X44.here hx rfl (hb hby at_367) rfl k_) ?_
                  show Go p.tables e below G (T44.setTop (mkF m 369 #[lv q0, sd, lv q1, sd, lv q2, sd, lv q3, sd, lv q4, sd, iv p5, lv size, sd, iv ea, iv eb, iv ec, iv ed, lv ia, sd, lv ib, sd, lv ic, sd, lv id', sd, rv b14, lv (own_sum W0 nw), sd, lv (own_sum W4 nw), sd, lv x3, sd] [(.long x3)]))
                  refine Go.stp (fun t_ k_ => XS.lconst X44.here hx rfl (hb hby at_369) k_) ?_
                  show Go p.tables e below G (T44.setTop (mkF m 370 #[lv q0, sd, lv q1, sd, lv q2, sd, lv q3, sd, lv q4, sd, iv p5, lv size, sd, iv ea, iv eb, iv ec, iv ed, lv ia, sd, lv ib, sd, lv ic, sd, lv id', sd, rv b14, lv (own_sum W0 nw), sd, lv (own_sum W4 nw), sd, lv x3, sd] [(.long (1 : Int64)), (.long x3)]))
                  refine Go.stp (fun t_ k_ => XS.ladd X44.here hx rfl (hb hby at_370) rfl k_) ?_
                  show Go p.tables e below G (T44.setTop (mkF m 371 #[lv q0, sd, lv q1, sd, lv q2, sd, lv q3, sd, lv q4, sd, iv p5, lv size, sd, iv ea, iv eb, iv ec, iv ed, lv ia, sd, lv ib, sd, lv ic, sd, lv id', sd, rv b14, lv (own_sum W0 nw), sd, lv (own_sum W4 nw), sd, lv x3, sd] [(.long (x3 + (1 : Int64)))]))
                  refine Go.stp (fun t_ k_ => XS.lstore X44.here hx rfl (hb hby at_371) rfl (l' := #[lv q0, sd, lv q1, sd, lv q2, sd, lv q3, sd, lv q4, sd, iv p5, lv size, sd, iv ea, iv eb, iv ec, iv ed, lv ia, sd, lv ib, sd, lv ic, sd, lv id', sd, rv b14, lv (own_sum W0 nw), sd, lv (own_sum W4 nw), sd, lv (x3 + (1 : Int64)), sd]) rfl k_) ?_
                  show Go p.tables e below G (T44.setTop (mkF m 373 #[lv q0, sd, lv q1, sd, lv q2, sd, lv q3, sd, lv q4, sd, iv p5, lv size, sd, iv ea, iv eb, iv ec, iv ed, lv ia, sd, lv ib, sd, lv ic, sd, lv id', sd, rv b14, lv (own_sum W0 nw), sd, lv (own_sum W4 nw), sd, lv (x3 + (1 : Int64)), sd] []))
                  exact J48 _ (Or.inr (Or.inr (Or.inr (Or.inr (Or.inr (Or.inr (Or.inr (Or.inr (Or.inr (Or.inr (Or.inr (Or.inl ⟨hc325, hc330, hc338, hc343, hc356, hc364, rfl⟩))))))))))))
            · refine Go.stp (fun t_ k_ => XS.ifNo X44.here hx rfl (hb hby at_343) rfl ((if0 _ _).trans (feq hc343).1) k_) ?_
              show Go p.tables e below G (T44.setTop (mkF m 346 #[lv q0, sd, lv q1, sd, lv q2, sd, lv q3, sd, lv q4, sd, iv p5, lv size, sd, iv ea, iv eb, iv ec, iv ed, lv ia, sd, lv ib, sd, lv ic, sd, lv id', sd, rv b14, lv (own_sum W0 nw), sd, lv (own_sum W4 nw), sd, lv x3, sd] []))
              refine Go.stp (fun t_ k_ => XS.lload X44.here hx rfl (hb hby at_346) rfl k_) ?_
              show Go p.tables e below G (T44.setTop (mkF m 348 #[lv q0, sd, lv q1, sd, lv q2, sd, lv q3, sd, lv q4, sd, iv p5, lv size, sd, iv ea, iv eb, iv ec, iv ed, lv ia, sd, lv ib, sd, lv ic, sd, lv id', sd, rv b14, lv (own_sum W0 nw), sd, lv (own_sum W4 nw), sd, lv x3, sd] [(.long id')]))
              refine Go.stp (fun t_ k_ => XS.lload X44.here hx rfl (hb hby at_348) rfl k_) ?_
              show Go p.tables e below G (T44.setTop (mkF m 350 #[lv q0, sd, lv q1, sd, lv q2, sd, lv q3, sd, lv q4, sd, iv p5, lv size, sd, iv ea, iv eb, iv ec, iv ed, lv ia, sd, lv ib, sd, lv ic, sd, lv id', sd, rv b14, lv (own_sum W0 nw), sd, lv (own_sum W4 nw), sd, lv x3, sd] [(.long ib), (.long id')]))
              refine Go.stp (fun t_ k_ => XS.lcmp X44.here hx rfl (hb hby at_350) rfl k_) ?_
              show Go p.tables e below G (T44.setTop (mkF m 351 #[lv q0, sd, lv q1, sd, lv q2, sd, lv q3, sd, lv q4, sd, iv p5, lv size, sd, iv ea, iv eb, iv ec, iv ed, lv ia, sd, lv ib, sd, lv ic, sd, lv id', sd, rv b14, lv (own_sum W0 nw), sd, lv (own_sum W4 nw), sd, lv x3, sd] [(.int (lcmpW id' ib))]))
              by_cases hc351 : id' = ib
              · refine Go.stp (fun t_ k_ => XS.ifYes X44.here hx rfl (pc0 := 351) (pc' := 373) rfl (hb hby at_351) rfl ((if0 _ _).trans (teq ((lw_eq id' ib).mpr hc351)).1) (by decide) (by decide) k_) ?_
                show Go p.tables e below G (T44.setTop (mkF m 373 #[lv q0, sd, lv q1, sd, lv q2, sd, lv q3, sd, lv q4, sd, iv p5, lv size, sd, iv ea, iv eb, iv ec, iv ed, lv ia, sd, lv ib, sd, lv ic, sd, lv id', sd, rv b14, lv (own_sum W0 nw), sd, lv (own_sum W4 nw), sd, lv x3, sd] []))
                exact J48 _ (Or.inr (Or.inr (Or.inr (Or.inr (Or.inr (Or.inr (Or.inr (Or.inr (Or.inr (Or.inr (Or.inr (Or.inr (Or.inl ⟨hc325, hc330, hc338, hc343, hc351, rfl⟩)))))))))))))
              · refine Go.stp (fun t_ k_ => XS.ifNo X44.here hx rfl (hb hby at_351) rfl ((if0 _ _).trans (feq (fun q => hc351 ((lw_eq id' ib).mp q))).1) k_) ?_
                show Go p.tables e below G (T44.setTop (mkF m 354 #[lv q0, sd, lv q1, sd, lv q2, sd, lv q3, sd, lv q4, sd, iv p5, lv size, sd, iv ea, iv eb, iv ec, iv ed, lv ia, sd, lv ib, sd, lv ic, sd, lv id', sd, rv b14, lv (own_sum W0 nw), sd, lv (own_sum W4 nw), sd, lv x3, sd] []))
                refine Go.stp (fun t_ k_ => XS.iload X44.here hx rfl (hb hby at_354) rfl k_) ?_
                show Go p.tables e below G (T44.setTop (mkF m 356 #[lv q0, sd, lv q1, sd, lv q2, sd, lv q3, sd, lv q4, sd, iv p5, lv size, sd, iv ea, iv eb, iv ec, iv ed, lv ia, sd, lv ib, sd, lv ic, sd, lv id', sd, rv b14, lv (own_sum W0 nw), sd, lv (own_sum W4 nw), sd, lv x3, sd] [(.int ec)]))
                by_cases hc356 : ec = (0 : Int32)
                · refine Go.stp (fun t_ k_ => XS.ifYes X44.here hx rfl (pc0 := 356) (pc' := 367) rfl (hb hby at_356) rfl ((if0 _ _).trans (teq hc356).1) (by decide) (by decide) k_) ?_
                  show Go p.tables e below G (T44.setTop (mkF m 367 #[lv q0, sd, lv q1, sd, lv q2, sd, lv q3, sd, lv q4, sd, iv p5, lv size, sd, iv ea, iv eb, iv ec, iv ed, lv ia, sd, lv ib, sd, lv ic, sd, lv id', sd, rv b14, lv (own_sum W0 nw), sd, lv (own_sum W4 nw), sd, lv x3, sd] []))
                  refine Go.stp (fun t_ k_ => XS.lload X44.here hx rfl (hb hby at_367) rfl k_) ?_
                  show Go p.tables e below G (T44.setTop (mkF m 369 #[lv q0, sd, lv q1, sd, lv q2, sd, lv q3, sd, lv q4, sd, iv p5, lv size, sd, iv ea, iv eb, iv ec, iv ed, lv ia, sd, lv ib, sd, lv ic, sd, lv id', sd, rv b14, lv (own_sum W0 nw), sd, lv (own_sum W4 nw), sd, lv x3, sd] [(.long x3)]))
                  refine Go.stp (fun t_ k_ => XS.lconst X44.here hx rfl (hb hby at_369) k_) ?_
                  show Go p.tables e below G (T44.setTop (mkF m 370 #[lv q0, sd, lv q1, sd, lv q2, sd, lv q3, sd, lv q4, sd, iv p5, lv size, sd, iv ea, iv eb, iv ec, iv ed, lv ia, sd, lv ib, sd, lv ic, sd, lv id', sd, rv b14, lv (own_sum W0 nw), sd, lv (own_sum W4 nw), sd, lv x3, sd] [(.long (1 : Int64)), (.long x3)]))
                  refine Go.stp (fun t_ k_ => XS.ladd X44.here hx rfl (hb hby at_370) rfl k_) ?_
                  show Go p.tables e below G (T44.setTop (mkF m 371 #[lv q0, sd, lv q1, sd, lv q2, sd, lv q3, sd, lv q4, sd, iv p5, lv size, sd, iv ea, iv eb, iv ec, iv ed, lv ia, sd, lv ib, sd, lv ic, sd, lv id', sd, rv b14, lv (own_sum W0 nw), sd, lv (own_sum W4 nw), sd, lv x3, sd] [(.long (x3 + (1 : Int64)))]))
                  refine Go.stp (fun t_ k_ => XS.lstore X44.here hx rfl (hb hby at_371) rfl (l' := #[lv q0, sd, lv q1, sd, lv q2, sd, lv q3, sd, lv q4, sd, iv p5, lv size, sd, iv ea, iv eb, iv ec, iv ed, lv ia, sd, lv ib, sd, lv ic, sd, lv id', sd, rv b14, lv (own_sum W0 nw), sd, lv (own_sum W4 nw), sd, lv (x3 + (1 : Int64)), sd]) rfl k_) ?_
                  show Go p.tables e below G (T44.setTop (mkF m 373 #[lv q0, sd, lv q1, sd, lv q2, sd, lv q3, sd, lv q4, sd, iv p5, lv size, sd, iv ea, iv eb, iv ec, iv ed, lv ia, sd, lv ib, sd, lv ic, sd, lv id', sd, rv b14, lv (own_sum W0 nw), sd, lv (own_sum W4 nw), sd, lv (x3 + (1 : Int64)), sd] []))
                  exact J48 _ (Or.inr (Or.inr (Or.inr (Or.inr (Or.inr (Or.inr (Or.inr (Or.inr (Or.inr (Or.inr (Or.inr (Or.inr (Or.inr (Or.inl ⟨hc325, hc330, hc338, hc343, hc351, hc356, rfl⟩))))))))))))))
                · refine Go.stp (fun t_ k_ => XS.ifNo X44.here hx rfl (hb hby at_356) rfl ((if0 _ _).trans (feq hc356).1) k_) ?_
                  show Go p.tables e below G (T44.setTop (mkF m 359 #[lv q0, sd, lv q1, sd, lv q2, sd, lv q3, sd, lv q4, sd, iv p5, lv size, sd, iv ea, iv eb, iv ec, iv ed, lv ia, sd, lv ib, sd, lv ic, sd, lv id', sd, rv b14, lv (own_sum W0 nw), sd, lv (own_sum W4 nw), sd, lv x3, sd] []))
                  refine Go.stp (fun t_ k_ => XS.lload X44.here hx rfl (hb hby at_359) rfl k_) ?_
                  show Go p.tables e below G (T44.setTop (mkF m 361 #[lv q0, sd, lv q1, sd, lv q2, sd, lv q3, sd, lv q4, sd, iv p5, lv size, sd, iv ea, iv eb, iv ec, iv ed, lv ia, sd, lv ib, sd, lv ic, sd, lv id', sd, rv b14, lv (own_sum W0 nw), sd, lv (own_sum W4 nw), sd, lv x3, sd] [(.long id')]))
                  refine Go.stp (fun t_ k_ => XS.lload X44.here hx rfl (hb hby at_361) rfl k_) ?_
                  show Go p.tables e below G (T44.setTop (mkF m 363 #[lv q0, sd, lv q1, sd, lv q2, sd, lv q3, sd, lv q4, sd, iv p5, lv size, sd, iv ea, iv eb, iv ec, iv ed, lv ia, sd, lv ib, sd, lv ic, sd, lv id', sd, rv b14, lv (own_sum W0 nw), sd, lv (own_sum W4 nw), sd, lv x3, sd] [(.long ic), (.long id')]))
                  refine Go.stp (fun t_ k_ => XS.lcmp X44.here hx rfl (hb hby at_363) rfl k_) ?_
                  show Go p.tables e below G (T44.setTop (mkF m 364 #[lv q0, sd, lv q1, sd, lv q2, sd, lv q3, sd, lv q4, sd, iv p5, lv size, sd, iv ea, iv eb, iv ec, iv ed, lv ia, sd, lv ib, sd, lv ic, sd, lv id', sd, rv b14, lv (own_sum W0 nw), sd, lv (own_sum W4 nw), sd, lv x3, sd] [(.int (lcmpW id' ic))]))
                  by_cases hc364 : id' = ic
                  · refine Go.stp (fun t_ k_ => XS.ifYes X44.here hx rfl (pc0 := 364) (pc' := 373) rfl (hb hby at_364) rfl ((if0 _ _).trans (teq ((lw_eq id' ic).mpr hc364)).1) (by decide) (by decide) k_) ?_
                    show Go p.tables e below G (T44.setTop (mkF m 373 #[lv q0, sd, lv q1, sd, lv q2, sd, lv q3, sd, lv q4, sd, iv p5, lv size, sd, iv ea, iv eb, iv ec, iv ed, lv ia, sd, lv ib, sd, lv ic, sd, lv id', sd, rv b14, lv (own_sum W0 nw), sd, lv (own_sum W4 nw), sd, lv x3, sd] []))
                    exact J48 _ (Or.inr (Or.inr (Or.inr (Or.inr (Or.inr (Or.inr (Or.inr (Or.inr (Or.inr (Or.inr (Or.inr (Or.inr (Or.inr (Or.inr (Or.inl ⟨hc325, hc330, hc338, hc343, hc351, hc356, hc364, rfl⟩)))))))))))))))
                  · refine Go.stp (fun t_ k_ => XS.ifNo X44.here hx rfl (hb hby at_364) rfl ((if0 _ _).trans (feq (fun q => hc364 ((lw_eq id' ic).mp q))).1) k_) ?_
                    show Go p.tables e below G (T44.setTop (mkF m 367 #[lv q0, sd, lv q1, sd, lv q2, sd, lv q3, sd, lv q4, sd, iv p5, lv size, sd, iv ea, iv eb, iv ec, iv ed, lv ia, sd, lv ib, sd, lv ic, sd, lv id', sd, rv b14, lv (own_sum W0 nw), sd, lv (own_sum W4 nw), sd, lv x3, sd] []))
                    refine Go.stp (fun t_ k_ => XS.lload X44.here hx rfl (hb hby at_367) rfl k_) ?_
                    show Go p.tables e below G (T44.setTop (mkF m 369 #[lv q0, sd, lv q1, sd, lv q2, sd, lv q3, sd, lv q4, sd, iv p5, lv size, sd, iv ea, iv eb, iv ec, iv ed, lv ia, sd, lv ib, sd, lv ic, sd, lv id', sd, rv b14, lv (own_sum W0 nw), sd, lv (own_sum W4 nw), sd, lv x3, sd] [(.long x3)]))
                    refine Go.stp (fun t_ k_ => XS.lconst X44.here hx rfl (hb hby at_369) k_) ?_
                    show Go p.tables e below G (T44.setTop (mkF m 370 #[lv q0, sd, lv q1, sd, lv q2, sd, lv q3, sd, lv q4, sd, iv p5, lv size, sd, iv ea, iv eb, iv ec, iv ed, lv ia, sd, lv ib, sd, lv ic, sd, lv id', sd, rv b14, lv (own_sum W0 nw), sd, lv (own_sum W4 nw), sd, lv x3, sd] [(.long (1 : Int64)), (.long x3)]))
                    refine Go.stp (fun t_ k_ => XS.ladd X44.here hx rfl (hb hby at_370) rfl k_) ?_
                    show Go p.tables e below G (T44.setTop (mkF m 371 #[lv q0, sd, lv q1, sd, lv q2, sd, lv q3, sd, lv q4, sd, iv p5, lv size, sd, iv ea, iv eb, iv ec, iv ed, lv ia, sd, lv ib, sd, lv ic, sd, lv id', sd, rv b14, lv (own_sum W0 nw), sd, lv (own_sum W4 nw), sd, lv x3, sd] [(.long (x3 + (1 : Int64)))]))
                    refine Go.stp (fun t_ k_ => XS.lstore X44.here hx rfl (hb hby at_371) rfl (l' := #[lv q0, sd, lv q1, sd, lv q2, sd, lv q3, sd, lv q4, sd, iv p5, lv size, sd, iv ea, iv eb, iv ec, iv ed, lv ia, sd, lv ib, sd, lv ic, sd, lv id', sd, rv b14, lv (own_sum W0 nw), sd, lv (own_sum W4 nw), sd, lv (x3 + (1 : Int64)), sd]) rfl k_) ?_
                    show Go p.tables e below G (T44.setTop (mkF m 373 #[lv q0, sd, lv q1, sd, lv q2, sd, lv q3, sd, lv q4, sd, iv p5, lv size, sd, iv ea, iv eb, iv ec, iv ed, lv ia, sd, lv ib, sd, lv ic, sd, lv id', sd, rv b14, lv (own_sum W0 nw), sd, lv (own_sum W4 nw), sd, lv (x3 + (1 : Int64)), sd] []))
                    exact J48 _ (Or.inr (Or.inr (Or.inr (Or.inr (Or.inr (Or.inr (Or.inr (Or.inr (Or.inr (Or.inr (Or.inr (Or.inr (Or.inr (Or.inr (Or.inr ⟨hc325, hc330, hc338, hc343, hc351, hc356, hc364, rfl⟩)))))))))))))))
    intro x4 hj373
    refine Go.stp (fun t_ k_ => XS.lload X44.here hx rfl (hb hby at_373) rfl k_) ?_
    show Go p.tables e below G (T44.setTop (mkF m 375 #[lv q0, sd, lv q1, sd, lv q2, sd, lv q3, sd, lv q4, sd, iv p5, lv size, sd, iv ea, iv eb, iv ec, iv ed, lv ia, sd, lv ib, sd, lv ic, sd, lv id', sd, rv b14, lv (own_sum W0 nw), sd, lv (own_sum W4 nw), sd, lv x4, sd] [(.long (own_sum W0 nw))]))
    refine Go.stp (fun t_ k_ => XS.lconst X44.here hx rfl (hb hby at_375) k_) ?_
    show Go p.tables e below G (T44.setTop (mkF m 376 #[lv q0, sd, lv q1, sd, lv q2, sd, lv q3, sd, lv q4, sd, iv p5, lv size, sd, iv ea, iv eb, iv ec, iv ed, lv ia, sd, lv ib, sd, lv ic, sd, lv id', sd, rv b14, lv (own_sum W0 nw), sd, lv (own_sum W4 nw), sd, lv x4, sd] [(.long (0 : Int64)), (.long (own_sum W0 nw))]))
    refine Go.stp (fun t_ k_ => XS.lcmp X44.here hx rfl (hb hby at_376) rfl k_) ?_
    show Go p.tables e below G (T44.setTop (mkF m 377 #[lv q0, sd, lv q1, sd, lv q2, sd, lv q3, sd, lv q4, sd, iv p5, lv size, sd, iv ea, iv eb, iv ec, iv ed, lv ia, sd, lv ib, sd, lv ic, sd, lv id', sd, rv b14, lv (own_sum W0 nw), sd, lv (own_sum W4 nw), sd, lv x4, sd] [(.int (lcmpW (own_sum W0 nw) (0 : Int64)))]))
    have hd377 : (own_sum W0 nw) = (0 : Int64) := own_before hn5 hW0
    refine Go.stp (fun t_ k_ => XS.ifNo X44.here hx rfl (hb hby at_377) rfl ((if0 _ _).trans (teq ((lw_eq (own_sum W0 nw) (0 : Int64)).mpr hd377)).2) k_) ?_
    show Go p.tables e below G (T44.setTop (mkF m 380 #[lv q0, sd, lv q1, sd, lv q2, sd, lv q3, sd, lv q4, sd, iv p5, lv size, sd, iv ea, iv eb, iv ec, iv ed, lv ia, sd, lv ib, sd, lv ic, sd, lv id', sd, rv b14, lv (own_sum W0 nw), sd, lv (own_sum W4 nw), sd, lv x4, sd] []))
    refine Go.stp (fun t_ k_ => XS.lload X44.here hx rfl (hb hby at_380) rfl k_) ?_
    show Go p.tables e below G (T44.setTop (mkF m 382 #[lv q0, sd, lv q1, sd, lv q2, sd, lv q3, sd, lv q4, sd, iv p5, lv size, sd, iv ea, iv eb, iv ec, iv ed, lv ia, sd, lv ib, sd, lv ic, sd, lv id', sd, rv b14, lv (own_sum W0 nw), sd, lv (own_sum W4 nw), sd, lv x4, sd] [(.long (own_sum W4 nw))]))
    refine Go.stp (fun t_ k_ => XS.lload X44.here hx rfl (hb hby at_382) rfl k_) ?_
    show Go p.tables e below G (T44.setTop (mkF m 384 #[lv q0, sd, lv q1, sd, lv q2, sd, lv q3, sd, lv q4, sd, iv p5, lv size, sd, iv ea, iv eb, iv ec, iv ed, lv ia, sd, lv ib, sd, lv ic, sd, lv id', sd, rv b14, lv (own_sum W0 nw), sd, lv (own_sum W4 nw), sd, lv x4, sd] [(.long x4), (.long (own_sum W4 nw))]))
    refine Go.stp (fun t_ k_ => XS.lcmp X44.here hx rfl (hb hby at_384) rfl k_) ?_
    show Go p.tables e below G (T44.setTop (mkF m 385 #[lv q0, sd, lv q1, sd, lv q2, sd, lv q3, sd, lv q4, sd, iv p5, lv size, sd, iv ea, iv eb, iv ec, iv ed, lv ia, sd, lv ib, sd, lv ic, sd, lv id', sd, rv b14, lv (own_sum W0 nw), sd, lv (own_sum W4 nw), sd, lv x4, sd] [(.int (lcmpW (own_sum W4 nw) x4))]))
    have hd385 : (own_sum W4 nw) = x4 := own_after hn5 hW0 hW1 hW2 hW3 hW4 h3ia h3ib h3ic h3id' hj262 hj286 hj323 hj373
    refine Go.stp (fun t_ k_ => XS.ifNo X44.here hx rfl (hb hby at_385) rfl ((if0 _ _).trans (teq ((lw_eq (own_sum W4 nw) x4).mpr hd385)).2) k_) ?_
    show Go p.tables e below G (T44.setTop (mkF m 388 #[lv q0, sd, lv q1, sd, lv q2, sd, lv q3, sd, lv q4, sd, iv p5, lv size, sd, iv ea, iv eb, iv ec, iv ed, lv ia, sd, lv ib, sd, lv ic, sd, lv id', sd, rv b14, lv (own_sum W0 nw), sd, lv (own_sum W4 nw), sd, lv x4, sd] []))
    refine Go.stp (fun t_ k_ => XS.iconst X44.here hx rfl (hb hby at_388) k_) ?_
    show Go p.tables e below G (T44.setTop (mkF m 389 #[lv q0, sd, lv q1, sd, lv q2, sd, lv q3, sd, lv q4, sd, iv p5, lv size, sd, iv ea, iv eb, iv ec, iv ed, lv ia, sd, lv ib, sd, lv ic, sd, lv id', sd, rv b14, lv (own_sum W0 nw), sd, lv (own_sum W4 nw), sd, lv x4, sd] [(.int (1 : Int32))]))
    refine Go.stp (fun t_ k_ => XS.goto X44.here hx rfl (pc0 := 389) (pc' := 393) rfl (hb hby at_389) (by decide) (by decide) k_) ?_
    show Go p.tables e below G (T44.setTop (mkF m 393 #[lv q0, sd, lv q1, sd, lv q2, sd, lv q3, sd, lv q4, sd, iv p5, lv size, sd, iv ea, iv eb, iv ec, iv ed, lv ia, sd, lv ib, sd, lv ic, sd, lv id', sd, rv b14, lv (own_sum W0 nw), sd, lv (own_sum W4 nw), sd, lv x4, sd] [(.int (1 : Int32))]))
    obtain ⟨fs, hr, hrun, hended, hW, hsame⟩ := X44.leave (v := some (.int (1 : Int32))) (fun h => by rw [Bd.returns] at h; cases h)
    refine ⟨_, _, retN X44 hx (t := .boolean) Bd.returns (by simp) (hb hby at_393) hr, hrun, hended, hG _ _ _ ?_ ⟨⟨_, rfl⟩, hW, hsame.mono (by decide) (by decide)⟩⟩
    show Q0 Z q0 q1 q2 q3 q4 p5 h0 n0 _ T44.heap _
    rw [e44]
    exact ⟨rfl, N44⟩
  · have hneg : ¬ ((0 : Int64) < size) := hpos
    show Go p.tables e below G (s₁.setTop (mkF m 11 #[lv q0, sd, lv q1, sd, lv q2, sd, lv q3, sd, lv q4, sd, iv p5, lv size, sd, un, un, un, un, un, un, un, un, un, un, un, un, un, un, un, un, un, un, un] []))
    refine Go.stp (fun t_ k_ => XS.lload X0.here hx rfl (hb hby at_11) rfl k_) ?_
    show Go p.tables e below G (s₁.setTop (mkF m 13 #[lv q0, sd, lv q1, sd, lv q2, sd, lv q3, sd, lv q4, sd, iv p5, lv size, sd, un, un, un, un, un, un, un, un, un, un, un, un, un, un, un, un, un, un, un] [(.long size)]))
    refine Go.stp (fun t_ k_ => XS.lconst X0.here hx rfl (hb hby at_13) k_) ?_
    show Go p.tables e below G (s₁.setTop (mkF m 14 #[lv q0, sd, lv q1, sd, lv q2, sd, lv q3, sd, lv q4, sd, iv p5, lv size, sd, un, un, un, un, un, un, un, un, un, un, un, un, un, un, un, un, un, un, un] [(.long (0 : Int64)), (.long size)]))
    refine Go.stp (fun t_ k_ => XS.lcmp X0.here hx rfl (hb hby at_14) rfl k_) ?_
    show Go p.tables e below G (s₁.setTop (mkF m 15 #[lv q0, sd, lv q1, sd, lv q2, sd, lv q3, sd, lv q4, sd, iv p5, lv size, sd, un, un, un, un, un, un, un, un, un, un, un, un, un, un, un, un, un, un, un] [(.int (lcmpW size (0 : Int64)))]))
    have hd15 : ¬ ((0 : Int64) < size) := hneg
    refine Go.stp (fun t_ k_ => XS.ifYes X0.here hx rfl (pc0 := 15) (pc' := 29) rfl (hb hby at_15) rfl ((if0 _ _).trans (flt (fun q => hd15 ((lw_gt size (0 : Int64)).mp q))).2.2.2) (by decide) (by decide) k_) ?_
    show Go p.tables e below G (s₁.setTop (mkF m 29 #[lv q0, sd, lv q1, sd, lv q2, sd, lv q3, sd, lv q4, sd, iv p5, lv size, sd, un, un, un, un, un, un, un, un, un, un, un, un, un, un, un, un, un, un, un] []))
    refine Go.stp (fun t_ k_ => XS.iconst X0.here hx rfl (hb hby at_29) k_) ?_
    show Go p.tables e below G (s₁.setTop (mkF m 30 #[lv q0, sd, lv q1, sd, lv q2, sd, lv q3, sd, lv q4, sd, iv p5, lv size, sd, un, un, un, un, un, un, un, un, un, un, un, un, un, un, un, un, un, un, un] [(.int (0 : Int32))]))
    refine Go.stp (fun t_ k_ => XS.istore X0.here hx rfl (hb hby at_30) rfl (l' := #[lv q0, sd, lv q1, sd, lv q2, sd, lv q3, sd, lv q4, sd, iv p5, lv size, sd, iv (0 : Int32), un, un, un, un, un, un, un, un, un, un, un, un, un, un, un, un, un, un]) rfl k_) ?_
    show Go p.tables e below G (s₁.setTop (mkF m 32 #[lv q0, sd, lv q1, sd, lv q2, sd, lv q3, sd, lv q4, sd, iv p5, lv size, sd, iv (0 : Int32), un, un, un, un, un, un, un, un, un, un, un, un, un, un, un, un, un, un] []))
    refine Go.stp (fun t_ k_ => XS.lload X0.here hx rfl (hb hby at_32) rfl k_) ?_
    show Go p.tables e below G (s₁.setTop (mkF m 34 #[lv q0, sd, lv q1, sd, lv q2, sd, lv q3, sd, lv q4, sd, iv p5, lv size, sd, iv (0 : Int32), un, un, un, un, un, un, un, un, un, un, un, un, un, un, un, un, un, un] [(.long size)]))
    refine Go.stp (fun t_ k_ => XS.lconst X0.here hx rfl (hb hby at_34) k_) ?_
    show Go p.tables e below G (s₁.setTop (mkF m 35 #[lv q0, sd, lv q1, sd, lv q2, sd, lv q3, sd, lv q4, sd, iv p5, lv size, sd, iv (0 : Int32), un, un, un, un, un, un, un, un, un, un, un, un, un, un, un, un, un, un] [(.long (0 : Int64)), (.long size)]))
    refine Go.stp (fun t_ k_ => XS.lcmp X0.here hx rfl (hb hby at_35) rfl k_) ?_
    show Go p.tables e below G (s₁.setTop (mkF m 36 #[lv q0, sd, lv q1, sd, lv q2, sd, lv q3, sd, lv q4, sd, iv p5, lv size, sd, iv (0 : Int32), un, un, un, un, un, un, un, un, un, un, un, un, un, un, un, un, un, un] [(.int (lcmpW size (0 : Int64)))]))
    have hd36 : ¬ ((0 : Int64) < size) := hneg
    refine Go.stp (fun t_ k_ => XS.ifYes X0.here hx rfl (pc0 := 36) (pc' := 50) rfl (hb hby at_36) rfl ((if0 _ _).trans (flt (fun q => hd36 ((lw_gt size (0 : Int64)).mp q))).2.2.2) (by decide) (by decide) k_) ?_
    show Go p.tables e below G (s₁.setTop (mkF m 50 #[lv q0, sd, lv q1, sd, lv q2, sd, lv q3, sd, lv q4, sd, iv p5, lv size, sd, iv (0 : Int32), un, un, un, un, un, un, un, un, un, un, un, un, un, un, un, un, un, un] []))
    refine Go.stp (fun t_ k_ => XS.iconst X0.here hx rfl (hb hby at_50) k_) ?_
    show Go p.tables e below G (s₁.setTop (mkF m 51 #[lv q0, sd, lv q1, sd, lv q2, sd, lv q3, sd, lv q4, sd, iv p5, lv size, sd, iv (0 : Int32), un, un, un, un, un, un, un, un, un, un, un, un, un, un, un, un, un, un] [(.int (0 : Int32))]))
    refine Go.stp (fun t_ k_ => XS.istore X0.here hx rfl (hb hby at_51) rfl (l' := #[lv q0, sd, lv q1, sd, lv q2, sd, lv q3, sd, lv q4, sd, iv p5, lv size, sd, iv (0 : Int32), iv (0 : Int32), un, un, un, un, un, un, un, un, un, un, un, un, un, un, un, un, un]) rfl k_) ?_
    show Go p.tables e below G (s₁.setTop (mkF m 53 #[lv q0, sd, lv q1, sd, lv q2, sd, lv q3, sd, lv q4, sd, iv p5, lv size, sd, iv (0 : Int32), iv (0 : Int32), un, un, un, un, un, un, un, un, un, un, un, un, un, un, un, un, un] []))
    refine Go.stp (fun t_ k_ => XS.lload X0.here hx rfl (hb hby at_53) rfl k_) ?_
    show Go p.tables e below G (s₁.setTop (mkF m 55 #[lv q0, sd, lv q1, sd, lv q2, sd, lv q3, sd, lv q4, sd, iv p5, lv size, sd, iv (0 : Int32), iv (0 : Int32), un, un, un, un, un, un, un, un, un, un, un, un, un, un, un, un, un] [(.long size)]))
    refine Go.stp (fun t_ k_ => XS.lconst X0.here hx rfl (hb hby at_55) k_) ?_
    show Go p.tables e below G (s₁.setTop (mkF m 56 #[lv q0, sd, lv q1, sd, lv q2, sd, lv q3, sd, lv q4, sd, iv p5, lv size, sd, iv (0 : Int32), iv (0 : Int32), un, un, un, un, un, un, un, un, un, un, un, un, un, un, un, un, un] [(.long (0 : Int64)), (.long size)]))
    refine Go.stp (fun t_ k_ => XS.lcmp X0.here hx rfl (hb hby at_56) rfl k_) ?_
    show Go p.tables e below G (s₁.setTop (mkF m 57 #[lv q0, sd, lv q1, sd, lv q2, sd, lv q3, sd, lv q4, sd, iv p5, lv size, sd, iv (0 : Int32), iv (0 : Int32), un, un, un, un, un, un, un, un, un, un, un, un, un, un, un, un, un] [(.int (lcmpW size (0 : Int64)))]))
    have hd57 : ¬ ((0 : Int64) < size) := hneg
    refine Go.stp (fun t_ k_ => XS.ifYes X0.here hx rfl (pc0 := 57) (pc' := 71) rfl (hb hby at_57) rfl ((if0 _ _).trans (flt (fun q => hd57 ((lw_gt size (0 : Int64)).mp q))).2.2.2) (by decide) (by decide) k_) ?_
    show Go p.tables e below G (s₁.setTop (mkF m 71 #[lv q0, sd, lv q1, sd, lv q2, sd, lv q3, sd, lv q4, sd, iv p5, lv size, sd, iv (0 : Int32), iv (0 : Int32), un, un, un, un, un, un, un, un, un, un, un, un, un, un, un, un, un] []))
    refine Go.stp (fun t_ k_ => XS.iconst X0.here hx rfl (hb hby at_71) k_) ?_
    show Go p.tables e below G (s₁.setTop (mkF m 72 #[lv q0, sd, lv q1, sd, lv q2, sd, lv q3, sd, lv q4, sd, iv p5, lv size, sd, iv (0 : Int32), iv (0 : Int32), un, un, un, un, un, un, un, un, un, un, un, un, un, un, un, un, un] [(.int (0 : Int32))]))
    refine Go.stp (fun t_ k_ => XS.istore X0.here hx rfl (hb hby at_72) rfl (l' := #[lv q0, sd, lv q1, sd, lv q2, sd, lv q3, sd, lv q4, sd, iv p5, lv size, sd, iv (0 : Int32), iv (0 : Int32), iv (0 : Int32), un, un, un, un, un, un, un, un, un, un, un, un, un, un, un, un]) rfl k_) ?_
    show Go p.tables e below G (s₁.setTop (mkF m 74 #[lv q0, sd, lv q1, sd, lv q2, sd, lv q3, sd, lv q4, sd, iv p5, lv size, sd, iv (0 : Int32), iv (0 : Int32), iv (0 : Int32), un, un, un, un, un, un, un, un, un, un, un, un, un, un, un, un] []))
    refine Go.stp (fun t_ k_ => XS.lload X0.here hx rfl (hb hby at_74) rfl k_) ?_
    show Go p.tables e below G (s₁.setTop (mkF m 76 #[lv q0, sd, lv q1, sd, lv q2, sd, lv q3, sd, lv q4, sd, iv p5, lv size, sd, iv (0 : Int32), iv (0 : Int32), iv (0 : Int32), un, un, un, un, un, un, un, un, un, un, un, un, un, un, un, un] [(.long size)]))
    refine Go.stp (fun t_ k_ => XS.lconst X0.here hx rfl (hb hby at_76) k_) ?_
    show Go p.tables e below G (s₁.setTop (mkF m 77 #[lv q0, sd, lv q1, sd, lv q2, sd, lv q3, sd, lv q4, sd, iv p5, lv size, sd, iv (0 : Int32), iv (0 : Int32), iv (0 : Int32), un, un, un, un, un, un, un, un, un, un, un, un, un, un, un, un] [(.long (0 : Int64)), (.long size)]))
    refine Go.stp (fun t_ k_ => XS.lcmp X0.here hx rfl (hb hby at_77) rfl k_) ?_
    show Go p.tables e below G (s₁.setTop (mkF m 78 #[lv q0, sd, lv q1, sd, lv q2, sd, lv q3, sd, lv q4, sd, iv p5, lv size, sd, iv (0 : Int32), iv (0 : Int32), iv (0 : Int32), un, un, un, un, un, un, un, un, un, un, un, un, un, un, un, un] [(.int (lcmpW size (0 : Int64)))]))
    have hd78 : ¬ ((0 : Int64) < size) := hneg
    refine Go.stp (fun t_ k_ => XS.ifYes X0.here hx rfl (pc0 := 78) (pc' := 93) rfl (hb hby at_78) rfl ((if0 _ _).trans (flt (fun q => hd78 ((lw_gt size (0 : Int64)).mp q))).2.2.2) (by decide) (by decide) k_) ?_
    show Go p.tables e below G (s₁.setTop (mkF m 93 #[lv q0, sd, lv q1, sd, lv q2, sd, lv q3, sd, lv q4, sd, iv p5, lv size, sd, iv (0 : Int32), iv (0 : Int32), iv (0 : Int32), un, un, un, un, un, un, un, un, un, un, un, un, un, un, un, un] []))
    refine Go.stp (fun t_ k_ => XS.iconst X0.here hx rfl (hb hby at_93) k_) ?_
    show Go p.tables e below G (s₁.setTop (mkF m 94 #[lv q0, sd, lv q1, sd, lv q2, sd, lv q3, sd, lv q4, sd, iv p5, lv size, sd, iv (0 : Int32), iv (0 : Int32), iv (0 : Int32), un, un, un, un, un, un, un, un, un, un, un, un, un, un, un, un] [(.int (0 : Int32))]))
    refine Go.stp (fun t_ k_ => XS.istore X0.here hx rfl (hb hby at_94) rfl (l' := #[lv q0, sd, lv q1, sd, lv q2, sd, lv q3, sd, lv q4, sd, iv p5, lv size, sd, iv (0 : Int32), iv (0 : Int32), iv (0 : Int32), iv (0 : Int32), un, un, un, un, un, un, un, un, un, un, un, un, un, un, un]) rfl k_) ?_
    show Go p.tables e below G (s₁.setTop (mkF m 96 #[lv q0, sd, lv q1, sd, lv q2, sd, lv q3, sd, lv q4, sd, iv p5, lv size, sd, iv (0 : Int32), iv (0 : Int32), iv (0 : Int32), iv (0 : Int32), un, un, un, un, un, un, un, un, un, un, un, un, un, un, un] []))
    refine Go.stp (fun t_ k_ => XS.lload X0.here hx rfl (hb hby at_96) rfl k_) ?_
    show Go p.tables e below G (s₁.setTop (mkF m 98 #[lv q0, sd, lv q1, sd, lv q2, sd, lv q3, sd, lv q4, sd, iv p5, lv size, sd, iv (0 : Int32), iv (0 : Int32), iv (0 : Int32), iv (0 : Int32), un, un, un, un, un, un, un, un, un, un, un, un, un, un, un] [(.long size)]))
    refine Go.stp (fun t_ k_ => XS.lconst X0.here hx rfl (hb hby at_98) k_) ?_
    show Go p.tables e below G (s₁.setTop (mkF m 99 #[lv q0, sd, lv q1, sd, lv q2, sd, lv q3, sd, lv q4, sd, iv p5, lv size, sd, iv (0 : Int32), iv (0 : Int32), iv (0 : Int32), iv (0 : Int32), un, un, un, un, un, un, un, un, un, un, un, un, un, un, un] [(.long (0 : Int64)), (.long size)]))
    refine Go.stp (fun t_ k_ => XS.lcmp X0.here hx rfl (hb hby at_99) rfl k_) ?_
    show Go p.tables e below G (s₁.setTop (mkF m 100 #[lv q0, sd, lv q1, sd, lv q2, sd, lv q3, sd, lv q4, sd, iv p5, lv size, sd, iv (0 : Int32), iv (0 : Int32), iv (0 : Int32), iv (0 : Int32), un, un, un, un, un, un, un, un, un, un, un, un, un, un, un] [(.int (lcmpW size (0 : Int64)))]))
    have hd100 : ¬ ((0 : Int64) < size) := hneg
    refine Go.stp (fun t_ k_ => XS.ifYes X0.here hx rfl (pc0 := 100) (pc' := 112) rfl (hb hby at_100) rfl ((if0 _ _).trans (flt (fun q => hd100 ((lw_gt size (0 : Int64)).mp q))).2.2.2) (by decide) (by decide) k_) ?_
    show Go p.tables e below G (s₁.setTop (mkF m 112 #[lv q0, sd, lv q1, sd, lv q2, sd, lv q3, sd, lv q4, sd, iv p5, lv size, sd, iv (0 : Int32), iv (0 : Int32), iv (0 : Int32), iv (0 : Int32), un, un, un, un, un, un, un, un, un, un, un, un, un, un, un] []))
    refine Go.stp (fun t_ k_ => XS.lconst X0.here hx rfl (hb hby at_112) k_) ?_
    show Go p.tables e below G (s₁.setTop (mkF m 113 #[lv q0, sd, lv q1, sd, lv q2, sd, lv q3, sd, lv q4, sd, iv p5, lv size, sd, iv (0 : Int32), iv (0 : Int32), iv (0 : Int32), iv (0 : Int32), un, un, un, un, un, un, un, un, un, un, un, un, un, un, un] [(.long (0 : Int64))]))
    refine Go.stp (fun t_ k_ => XS.lstore X0.here hx rfl (hb hby at_113) rfl (l' := #[lv q0, sd, lv q1, sd, lv q2, sd, lv q3, sd, lv q4, sd, iv p5, lv size, sd, iv (0 : Int32), iv (0 : Int32), iv (0 : Int32), iv (0 : Int32), lv (0 : Int64), sd, un, un, un, un, un, un, un, un, un, un, un, un, un]) rfl k_) ?_
    show Go p.tables e below G (s₁.setTop (mkF m 115 #[lv q0, sd, lv q1, sd, lv q2, sd, lv q3, sd, lv q4, sd, iv p5, lv size, sd, iv (0 : Int32), iv (0 : Int32), iv (0 : Int32), iv (0 : Int32), lv (0 : Int64), sd, un, un, un, un, un, un, un, un, un, un, un, un, un] []))
    refine Go.stp (fun t_ k_ => XS.lload X0.here hx rfl (hb hby at_115) rfl k_) ?_
    show Go p.tables e below G (s₁.setTop (mkF m 117 #[lv q0, sd, lv q1, sd, lv q2, sd, lv q3, sd, lv q4, sd, iv p5, lv size, sd, iv (0 : Int32), iv (0 : Int32), iv (0 : Int32), iv (0 : Int32), lv (0 : Int64), sd, un, un, un, un, un, un, un, un, un, un, un, un, un] [(.long size)]))
    refine Go.stp (fun t_ k_ => XS.lconst X0.here hx rfl (hb hby at_117) k_) ?_
    show Go p.tables e below G (s₁.setTop (mkF m 118 #[lv q0, sd, lv q1, sd, lv q2, sd, lv q3, sd, lv q4, sd, iv p5, lv size, sd, iv (0 : Int32), iv (0 : Int32), iv (0 : Int32), iv (0 : Int32), lv (0 : Int64), sd, un, un, un, un, un, un, un, un, un, un, un, un, un] [(.long (0 : Int64)), (.long size)]))
    refine Go.stp (fun t_ k_ => XS.lcmp X0.here hx rfl (hb hby at_118) rfl k_) ?_
    show Go p.tables e below G (s₁.setTop (mkF m 119 #[lv q0, sd, lv q1, sd, lv q2, sd, lv q3, sd, lv q4, sd, iv p5, lv size, sd, iv (0 : Int32), iv (0 : Int32), iv (0 : Int32), iv (0 : Int32), lv (0 : Int64), sd, un, un, un, un, un, un, un, un, un, un, un, un, un] [(.int (lcmpW size (0 : Int64)))]))
    have hd119 : ¬ ((0 : Int64) < size) := hneg
    refine Go.stp (fun t_ k_ => XS.ifYes X0.here hx rfl (pc0 := 119) (pc' := 132) rfl (hb hby at_119) rfl ((if0 _ _).trans (flt (fun q => hd119 ((lw_gt size (0 : Int64)).mp q))).2.2.2) (by decide) (by decide) k_) ?_
    show Go p.tables e below G (s₁.setTop (mkF m 132 #[lv q0, sd, lv q1, sd, lv q2, sd, lv q3, sd, lv q4, sd, iv p5, lv size, sd, iv (0 : Int32), iv (0 : Int32), iv (0 : Int32), iv (0 : Int32), lv (0 : Int64), sd, un, un, un, un, un, un, un, un, un, un, un, un, un] []))
    refine Go.stp (fun t_ k_ => XS.lconst X0.here hx rfl (hb hby at_132) k_) ?_
    show Go p.tables e below G (s₁.setTop (mkF m 133 #[lv q0, sd, lv q1, sd, lv q2, sd, lv q3, sd, lv q4, sd, iv p5, lv size, sd, iv (0 : Int32), iv (0 : Int32), iv (0 : Int32), iv (0 : Int32), lv (0 : Int64), sd, un, un, un, un, un, un, un, un, un, un, un, un, un] [(.long (0 : Int64))]))
    refine Go.stp (fun t_ k_ => XS.lstore X0.here hx rfl (hb hby at_133) rfl (l' := #[lv q0, sd, lv q1, sd, lv q2, sd, lv q3, sd, lv q4, sd, iv p5, lv size, sd, iv (0 : Int32), iv (0 : Int32), iv (0 : Int32), iv (0 : Int32), lv (0 : Int64), sd, lv (0 : Int64), sd, un, un, un, un, un, un, un, un, un, un, un]) rfl k_) ?_
    show Go p.tables e below G (s₁.setTop (mkF m 135 #[lv q0, sd, lv q1, sd, lv q2, sd, lv q3, sd, lv q4, sd, iv p5, lv size, sd, iv (0 : Int32), iv (0 : Int32), iv (0 : Int32), iv (0 : Int32), lv (0 : Int64), sd, lv (0 : Int64), sd, un, un, un, un, un, un, un, un, un, un, un] []))
    refine Go.stp (fun t_ k_ => XS.lload X0.here hx rfl (hb hby at_135) rfl k_) ?_
    show Go p.tables e below G (s₁.setTop (mkF m 137 #[lv q0, sd, lv q1, sd, lv q2, sd, lv q3, sd, lv q4, sd, iv p5, lv size, sd, iv (0 : Int32), iv (0 : Int32), iv (0 : Int32), iv (0 : Int32), lv (0 : Int64), sd, lv (0 : Int64), sd, un, un, un, un, un, un, un, un, un, un, un] [(.long size)]))
    refine Go.stp (fun t_ k_ => XS.lconst X0.here hx rfl (hb hby at_137) k_) ?_
    show Go p.tables e below G (s₁.setTop (mkF m 138 #[lv q0, sd, lv q1, sd, lv q2, sd, lv q3, sd, lv q4, sd, iv p5, lv size, sd, iv (0 : Int32), iv (0 : Int32), iv (0 : Int32), iv (0 : Int32), lv (0 : Int64), sd, lv (0 : Int64), sd, un, un, un, un, un, un, un, un, un, un, un] [(.long (0 : Int64)), (.long size)]))
    refine Go.stp (fun t_ k_ => XS.lcmp X0.here hx rfl (hb hby at_138) rfl k_) ?_
    show Go p.tables e below G (s₁.setTop (mkF m 139 #[lv q0, sd, lv q1, sd, lv q2, sd, lv q3, sd, lv q4, sd, iv p5, lv size, sd, iv (0 : Int32), iv (0 : Int32), iv (0 : Int32), iv (0 : Int32), lv (0 : Int64), sd, lv (0 : Int64), sd, un, un, un, un, un, un, un, un, un, un, un] [(.int (lcmpW size (0 : Int64)))]))
    have hd139 : ¬ ((0 : Int64) < size) := hneg
    refine Go.stp (fun t_ k_ => XS.ifYes X0.here hx rfl (pc0 := 139) (pc' := 152) rfl (hb hby at_139) rfl ((if0 _ _).trans (flt (fun q => hd139 ((lw_gt size (0 : Int64)).mp q))).2.2.2) (by decide) (by decide) k_) ?_
    show Go p.tables e below G (s₁.setTop (mkF m 152 #[lv q0, sd, lv q1, sd, lv q2, sd, lv q3, sd, lv q4, sd, iv p5, lv size, sd, iv (0 : Int32), iv (0 : Int32), iv (0 : Int32), iv (0 : Int32), lv (0 : Int64), sd, lv (0 : Int64), sd, un, un, un, un, un, un, un, un, un, un, un] []))
    refine Go.stp (fun t_ k_ => XS.lconst X0.here hx rfl (hb hby at_152) k_) ?_
    show Go p.tables e below G (s₁.setTop (mkF m 153 #[lv q0, sd, lv q1, sd, lv q2, sd, lv q3, sd, lv q4, sd, iv p5, lv size, sd, iv (0 : Int32), iv (0 : Int32), iv (0 : Int32), iv (0 : Int32), lv (0 : Int64), sd, lv (0 : Int64), sd, un, un, un, un, un, un, un, un, un, un, un] [(.long (0 : Int64))]))
    refine Go.stp (fun t_ k_ => XS.lstore X0.here hx rfl (hb hby at_153) rfl (l' := #[lv q0, sd, lv q1, sd, lv q2, sd, lv q3, sd, lv q4, sd, iv p5, lv size, sd, iv (0 : Int32), iv (0 : Int32), iv (0 : Int32), iv (0 : Int32), lv (0 : Int64), sd, lv (0 : Int64), sd, lv (0 : Int64), sd, un, un, un, un, un, un, un, un, un]) rfl k_) ?_
    show Go p.tables e below G (s₁.setTop (mkF m 155 #[lv q0, sd, lv q1, sd, lv q2, sd, lv q3, sd, lv q4, sd, iv p5, lv size, sd, iv (0 : Int32), iv (0 : Int32), iv (0 : Int32), iv (0 : Int32), lv (0 : Int64), sd, lv (0 : Int64), sd, lv (0 : Int64), sd, un, un, un, un, un, un, un, un, un] []))
    refine Go.stp (fun t_ k_ => XS.lload X0.here hx rfl (hb hby at_155) rfl k_) ?_
    show Go p.tables e below G (s₁.setTop (mkF m 157 #[lv q0, sd, lv q1, sd, lv q2, sd, lv q3, sd, lv q4, sd, iv p5, lv size, sd, iv (0 : Int32), iv (0 : Int32), iv (0 : Int32), iv (0 : Int32), lv (0 : Int64), sd, lv (0 : Int64), sd, lv (0 : Int64), sd, un, un, un, un, un, un, un, un, un] [(.long size)]))
    refine Go.stp (fun t_ k_ => XS.lconst X0.here hx rfl (hb hby at_157) k_) ?_
    show Go p.tables e below G (s₁.setTop (mkF m 158 #[lv q0, sd, lv q1, sd, lv q2, sd, lv q3, sd, lv q4, sd, iv p5, lv size, sd, iv (0 : Int32), iv (0 : Int32), iv (0 : Int32), iv (0 : Int32), lv (0 : Int64), sd, lv (0 : Int64), sd, lv (0 : Int64), sd, un, un, un, un, un, un, un, un, un] [(.long (0 : Int64)), (.long size)]))
    refine Go.stp (fun t_ k_ => XS.lcmp X0.here hx rfl (hb hby at_158) rfl k_) ?_
    show Go p.tables e below G (s₁.setTop (mkF m 159 #[lv q0, sd, lv q1, sd, lv q2, sd, lv q3, sd, lv q4, sd, iv p5, lv size, sd, iv (0 : Int32), iv (0 : Int32), iv (0 : Int32), iv (0 : Int32), lv (0 : Int64), sd, lv (0 : Int64), sd, lv (0 : Int64), sd, un, un, un, un, un, un, un, un, un] [(.int (lcmpW size (0 : Int64)))]))
    have hd159 : ¬ ((0 : Int64) < size) := hneg
    refine Go.stp (fun t_ k_ => XS.ifYes X0.here hx rfl (pc0 := 159) (pc' := 172) rfl (hb hby at_159) rfl ((if0 _ _).trans (flt (fun q => hd159 ((lw_gt size (0 : Int64)).mp q))).2.2.2) (by decide) (by decide) k_) ?_
    show Go p.tables e below G (s₁.setTop (mkF m 172 #[lv q0, sd, lv q1, sd, lv q2, sd, lv q3, sd, lv q4, sd, iv p5, lv size, sd, iv (0 : Int32), iv (0 : Int32), iv (0 : Int32), iv (0 : Int32), lv (0 : Int64), sd, lv (0 : Int64), sd, lv (0 : Int64), sd, un, un, un, un, un, un, un, un, un] []))
    refine Go.stp (fun t_ k_ => XS.lconst X0.here hx rfl (hb hby at_172) k_) ?_
    show Go p.tables e below G (s₁.setTop (mkF m 173 #[lv q0, sd, lv q1, sd, lv q2, sd, lv q3, sd, lv q4, sd, iv p5, lv size, sd, iv (0 : Int32), iv (0 : Int32), iv (0 : Int32), iv (0 : Int32), lv (0 : Int64), sd, lv (0 : Int64), sd, lv (0 : Int64), sd, un, un, un, un, un, un, un, un, un] [(.long (0 : Int64))]))
    refine Go.stp (fun t_ k_ => XS.lstore X0.here hx rfl (hb hby at_173) rfl (l' := #[lv q0, sd, lv q1, sd, lv q2, sd, lv q3, sd, lv q4, sd, iv p5, lv size, sd, iv (0 : Int32), iv (0 : Int32), iv (0 : Int32), iv (0 : Int32), lv (0 : Int64), sd, lv (0 : Int64), sd, lv (0 : Int64), sd, lv (0 : Int64), sd, un, un, un, un, un, un, un]) rfl k_) ?_
    show Go p.tables e below G (s₁.setTop (mkF m 175 #[lv q0, sd, lv q1, sd, lv q2, sd, lv q3, sd, lv q4, sd, iv p5, lv size, sd, iv (0 : Int32), iv (0 : Int32), iv (0 : Int32), iv (0 : Int32), lv (0 : Int64), sd, lv (0 : Int64), sd, lv (0 : Int64), sd, lv (0 : Int64), sd, un, un, un, un, un, un, un] []))
    have b0 : ¬ size < (0 : Int64) := hszb.1
    have b1 : ¬ (137438952896 : Int64) < size := hszb.2.1
    have w0 : ¬ own_wc size < 0 := hszb.2.2.1
    have w5 : (own_wc size).toNatClampNeg ≤ 5 := hszb.2.2.2
    obtain ⟨nw, hnw⟩ : ∃ z, z = (own_wc size).toNatClampNeg := ⟨_, rfl⟩
    have hn5 : nw ≤ 5 := hnw ▸ w5
    obtain ⟨T49, h49, X49, e49, E49, A49, D49, -, st49⟩ := newO X0 hx hZ hown (hw _ (List.mem_of_getElem? (i := 7) rfl)) (hw _ (List.mem_of_getElem? (i := 8) rfl)) (hw _ (List.mem_of_getElem? (i := 9) rfl)) e0 (g := (mkF m 175 #[lv q0, sd, lv q1, sd, lv q2, sd, lv q3, sd, lv q4, sd, iv p5, lv size, sd, iv (0 : Int32), iv (0 : Int32), iv (0 : Int32), iv (0 : Int32), lv (0 : Int64), sd, lv (0 : Int64), sd, lv (0 : Int64), sd, lv (0 : Int64), sd, un, un, un, un, un, un, un] [])) rfl (hb hby at_175) (by decide) (by decide)
    obtain ⟨b49, g49⟩ : ∃ z, z = h0.size := ⟨_, rfl⟩
    rw [← g49] at A49 D49 st49
    have g_b49 : n0 ≤ b49 := Nat.le_trans Z0 (Nat.le_of_eq g49.symm)
    have Z49 : n0 ≤ h49.size := Nat.le_trans Z0 E49.1
    have f50 : Fld Z h49 b49 "com/example/malla/malla/arrays/BitArray" "size" "J" (.long (0 : Int64)) := D49 (Or.inr (hw _ (List.mem_of_getElem? (i := 21) rfl))) (ty := .long) (by decide)
    have f51 : Fld Z h49 b49 "com/example/malla/malla/arrays/BitArray" "words" "[J" .null := D49 (Or.inr (hw _ (List.mem_of_getElem? (i := 28) rfl))) (ty := (.array .long)) (by decide)
    refine Go.stp (fun t_ k_ => st49 t_ k_) ?_
    show Go p.tables e below G (T49.setTop (mkF m 178 #[lv q0, sd, lv q1, sd, lv q2, sd, lv q3, sd, lv q4, sd, iv p5, lv size, sd, iv (0 : Int32), iv (0 : Int32), iv (0 : Int32), iv (0 : Int32), lv (0 : Int64), sd, lv (0 : Int64), sd, lv (0 : Int64), sd, lv (0 : Int64), sd, un, un, un, un, un, un, un] [(.ref b49)]))
    refine Go.stp (fun t_ k_ => XS.dup X49.here hx rfl (hb hby at_178) rfl rfl k_) ?_
    show Go p.tables e below G (T49.setTop (mkF m 179 #[lv q0, sd, lv q1, sd, lv q2, sd, lv q3, sd, lv q4, sd, iv p5, lv size, sd, iv (0 : Int32), iv (0 : Int32), iv (0 : Int32), iv (0 : Int32), lv (0 : Int64), sd, lv (0 : Int64), sd, lv (0 : Int64), sd, lv (0 : Int64), sd, un, un, un, un, un, un, un] [(.ref b49), (.ref b49)]))
    refine Go.stp (fun t_ k_ => XS.lload X49.here hx rfl (hb hby at_179) rfl k_) ?_
    show Go p.tables e below G (T49.setTop (mkF m 181 #[lv q0, sd, lv q1, sd, lv q2, sd, lv q3, sd, lv q4, sd, iv p5, lv size, sd, iv (0 : Int32), iv (0 : Int32), iv (0 : Int32), iv (0 : Int32), lv (0 : Int64), sd, lv (0 : Int64), sd, lv (0 : Int64), sd, lv (0 : Int64), sd, un, un, un, un, un, un, un] [(.long size), (.ref b49), (.ref b49)]))
    obtain ⟨_, _, ⟨T52, L52, k52, n52⟩, -, X52, ⟨Lc52, hQ52, l52, y52, z52⟩, st52⟩ := X49.specialBack hx (y := (⟨"com/example/malla/malla/arrays/BitArray", "<init>", "(J)V"⟩ : MethodName)) rfl hown (mvT hZ (hw _ (List.mem_of_getElem? (i := 10) rfl))) (mvT hZ (hw _ (List.mem_of_getElem? (i := 11) rfl))) (mvT hZ (hw _ (List.mem_of_getElem? (i := 12) rfl))) (by decide) (backOf (W := 1) (rm2 l Z a0 hw [] b49 size h49 n0 Z49 A49 f50 f51 g_b49 b0 b1 w0 w5) hZ (hw _ (List.mem_of_getElem? (i := 12) rfl)) (hw _ (List.mem_of_getElem? (i := 9) rfl)) (by decide) (by decide)) (g := (mkF m 181 #[lv q0, sd, lv q1, sd, lv q2, sd, lv q3, sd, lv q4, sd, iv p5, lv size, sd, iv (0 : Int32), iv (0 : Int32), iv (0 : Int32), iv (0 : Int32), lv (0 : Int64), sd, lv (0 : Int64), sd, lv (0 : Int64), sd, lv (0 : Int64), sd, un, un, un, un, un, un, un] [(.long size), (.ref b49), (.ref b49)])) rfl (by rw [hml]; rfl) (Steps.refl _) (a := b49) (argsL := [(.long size)]) (rest := [(.ref b49)]) (lenOf pd_1 rfl) rfl (by show 2 * 0 + _ ≤ _; exact Nat.le_of_eq rfl) (hb hby at_181) (fun _ _ => ⟨rfl, e49, (by decide : 1 + 1 ≤ _), (by decide : 2 + 5 ≤ _)⟩)
    dsimp only [Pt.U, Pt.locs, Pt.cells, Pt.slots] at X52 l52 y52 z52 st52 hQ52
    subst l52 y52 z52
    obtain ⟨rfl, Nq52, Kc52, wa, g_wa, hxw, Ex, Fs, Fw, Iw⟩ := hQ52
    have N52 := Fr.app N0 Nq52
    have f53 : Exa Z T52.heap b49 "com/example/malla/malla/arrays/BitArray" := A49.keep Kc52
    have Z52 : n0 ≤ T52.heap.size := Nat.le_trans Z49 Kc52.1
    obtain ⟨W0, hW0⟩ : ∃ z : Nat → Int64, z = (fun _ => (0 : Int64)) := ⟨_, rfl⟩
    rw [← hW0, ← hnw] at Iw
    refine Go.stp (fun t_ k_ => st52.trans k_) ?_
    show Go p.tables e below G (T52.setTop (mkF m 184 #[lv q0, sd, lv q1, sd, lv q2, sd, lv q3, sd, lv q4, sd, iv p5, lv size, sd, iv (0 : Int32), iv (0 : Int32), iv (0 : Int32), iv (0 : Int32), lv (0 : Int64), sd, lv (0 : Int64), sd, lv (0 : Int64), sd, lv (0 : Int64), sd, un, un, un, un, un, un, un] [(.ref b49)]))
    refine Go.stp (fun t_ k_ => XS.astore X52.here hx rfl (hb hby at_184) rfl rfl (l' := #[lv q0, sd, lv q1, sd, lv q2, sd, lv q3, sd, lv q4, sd, iv p5, lv size, sd, iv (0 : Int32), iv (0 : Int32), iv (0 : Int32), iv (0 : Int32), lv (0 : Int64), sd, lv (0 : Int64), sd, lv (0 : Int64), sd, lv (0 : Int64), sd, rv b49, un, un, un, un, un, un]) rfl k_) ?_
    show Go p.tables e below G (T52.setTop (mkF m 186 #[lv q0, sd, lv q1, sd, lv q2, sd, lv q3, sd, lv q4, sd, iv p5, lv size, sd, iv (0 : Int32), iv (0 : Int32), iv (0 : Int32), iv (0 : Int32), lv (0 : Int64), sd, lv (0 : Int64), sd, lv (0 : Int64), sd, lv (0 : Int64), sd, rv b49, un, un, un, un, un, un] []))
    refine Go.stp (fun t_ k_ => XS.aload X52.here hx rfl (hb hby at_186) rfl rfl k_) ?_
    show Go p.tables e below G (T52.setTop (mkF m 188 #[lv q0, sd, lv q1, sd, lv q2, sd, lv q3, sd, lv q4, sd, iv p5, lv size, sd, iv (0 : Int32), iv (0 : Int32), iv (0 : Int32), iv (0 : Int32), lv (0 : Int64), sd, lv (0 : Int64), sd, lv (0 : Int64), sd, lv (0 : Int64), sd, rv b49, un, un, un, un, un, un] [(.ref b49)]))
    obtain ⟨cq54, kq54, q54a, q54b, q54c⟩ := isOf hZ rfl Ex
    obtain ⟨_, _, ⟨T54, L54, k54, n54⟩, -, X54, ⟨Lc54, hQ54, l54, y54, z54⟩, st54⟩ := X52.virtualBack hx (y := (⟨"com/example/malla/malla/arrays/BitArray", "bitCount", "()J"⟩ : MethodName)) (z := (⟨"com/example/malla/malla/arrays/BitArray", "bitCount", "()J"⟩ : MethodName)) hown (mvT hZ (hw _ (List.mem_of_getElem? (i := 29) rfl))) (mvT hZ (hw _ (List.mem_of_getElem? (i := 30) rfl))) (notFace_of_selects (args := #[]) (mvT hZ (hw _ (List.mem_of_getElem? (i := 32) rfl)))) (mvT hZ (hw _ (List.mem_of_getElem? (i := 32) rfl))) (mvT hZ (hw _ (List.mem_of_getElem? (i := 31) rfl))) (by decide) (backOf (W := 0) (rm6 l Z a0 hw [] b49 wa nw W0 T52.heap n0 Z52 Fw Iw hn5) hZ (hw _ (List.mem_of_getElem? (i := 33) rfl)) (hw _ (List.mem_of_getElem? (i := 9) rfl)) (by decide) (by decide)) q54a q54c (g := (mkF m 188 #[lv q0, sd, lv q1, sd, lv q2, sd, lv q3, sd, lv q4, sd, iv p5, lv size, sd, iv (0 : Int32), iv (0 : Int32), iv (0 : Int32), iv (0 : Int32), lv (0 : Int64), sd, lv (0 : Int64), sd, lv (0 : Int64), sd, lv (0 : Int64), sd, rv b49, un, un, un, un, un, un] [(.ref b49)])) rfl (by rw [hml]; rfl) (Steps.refl _) (argsL := []) (rest := []) (lenOf pd_4 rfl) rfl (by show 2 * 0 + _ ≤ _; exact Nat.le_of_eq rfl) (hb hby at_188) (fun _ _ => ⟨rfl, rfl, (by decide : 2 + 0 ≤ _), (by decide : 7 + 0 ≤ _)⟩)
    dsimp only [Pt.U, Pt.locs, Pt.cells, Pt.slots] at X54 l54 y54 z54 st54 hQ54
    subst l54 y54 z54
    obtain ⟨rfl, Nq54, e54⟩ := hQ54
    have N54 := Fr.app N52 Nq54
    refine Go.stp (fun t_ k_ => st54.trans k_) ?_
    show Go p.tables e below G (T54.setTop (mkF m 191 #[lv q0, sd, lv q1, sd, lv q2, sd, lv q3, sd, lv q4, sd, iv p5, lv size, sd, iv (0 : Int32), iv (0 : Int32), iv (0 : Int32), iv (0 : Int32), lv (0 : Int64), sd, lv (0 : Int64), sd, lv (0 : Int64), sd, lv (0 : Int64), sd, rv b49, un, un, un, un, un, un] [(.long (own_sum W0 nw))]))
    refine Go.stp (fun t_ k_ => XS.lstore X54.here hx rfl (hb hby at_191) rfl (l' := #[lv q0, sd, lv q1, sd, lv q2, sd, lv q3, sd, lv q4, sd, iv p5, lv size, sd, iv (0 : Int32), iv (0 : Int32), iv (0 : Int32), iv (0 : Int32), lv (0 : Int64), sd, lv (0 : Int64), sd, lv (0 : Int64), sd, lv (0 : Int64), sd, rv b49, lv (own_sum W0 nw), sd, un, un, un, un]) rfl k_) ?_
    show Go p.tables e below G (T54.setTop (mkF m 193 #[lv q0, sd, lv q1, sd, lv q2, sd, lv q3, sd, lv q4, sd, iv p5, lv size, sd, iv (0 : Int32), iv (0 : Int32), iv (0 : Int32), iv (0 : Int32), lv (0 : Int64), sd, lv (0 : Int64), sd, lv (0 : Int64), sd, lv (0 : Int64), sd, rv b49, lv (own_sum W0 nw), sd, un, un, un, un] []))
    refine Go.stp (fun t_ k_ => XS.iload X54.here hx rfl (hb hby at_193) rfl k_) ?_
    show Go p.tables e below G (T54.setTop (mkF m 195 #[lv q0, sd, lv q1, sd, lv q2, sd, lv q3, sd, lv q4, sd, iv p5, lv size, sd, iv (0 : Int32), iv (0 : Int32), iv (0 : Int32), iv (0 : Int32), lv (0 : Int64), sd, lv (0 : Int64), sd, lv (0 : Int64), sd, lv (0 : Int64), sd, rv b49, lv (own_sum W0 nw), sd, un, un, un, un] [(.int (0 : Int32))]))
    refine Go.stp (fun t_ k_ => XS.ifYes X54.here hx rfl (pc0 := 195) (pc' := 205) rfl (hb hby at_195) rfl ((if0 _ _).trans (teq (by decide : (0 : Int32) = (0 : Int32))).1) (by decide) (by decide) k_) ?_
    show Go p.tables e below G (T54.setTop (mkF m 205 #[lv q0, sd, lv q1, sd, lv q2, sd, lv q3, sd, lv q4, sd, iv p5, lv size, sd, iv (0 : Int32), iv (0 : Int32), iv (0 : Int32), iv (0 : Int32), lv (0 : Int64), sd, lv (0 : Int64), sd, lv (0 : Int64), sd, lv (0 : Int64), sd, rv b49, lv (own_sum W0 nw), sd, un, un, un, un] []))
    refine Go.stp (fun t_ k_ => XS.iload X54.here hx rfl (hb hby at_205) rfl k_) ?_
    show Go p.tables e below G (T54.setTop (mkF m 207 #[lv q0, sd, lv q1, sd, lv q2, sd, lv q3, sd, lv q4, sd, iv p5, lv size, sd, iv (0 : Int32), iv (0 : Int32), iv (0 : Int32), iv (0 : Int32), lv (0 : Int64), sd, lv (0 : Int64), sd, lv (0 : Int64), sd, lv (0 : Int64), sd, rv b49, lv (own_sum W0 nw), sd, un, un, un, un] [(.int (0 : Int32))]))
    refine Go.stp (fun t_ k_ => XS.ifYes X54.here hx rfl (pc0 := 207) (pc' := 217) rfl (hb hby at_207) rfl ((if0 _ _).trans (teq (by decide : (0 : Int32) = (0 : Int32))).1) (by decide) (by decide) k_) ?_
    show Go p.tables e below G (T54.setTop (mkF m 217 #[lv q0, sd, lv q1, sd, lv q2, sd, lv q3, sd, lv q4, sd, iv p5, lv size, sd, iv (0 : Int32), iv (0 : Int32), iv (0 : Int32), iv (0 : Int32), lv (0 : Int64), sd, lv (0 : Int64), sd, lv (0 : Int64), sd, lv (0 : Int64), sd, rv b49, lv (own_sum W0 nw), sd, un, un, un, un] []))
    refine Go.stp (fun t_ k_ => XS.iload X54.here hx rfl (hb hby at_217) rfl k_) ?_
    show Go p.tables e below G (T54.setTop (mkF m 219 #[lv q0, sd, lv q1, sd, lv q2, sd, lv q3, sd, lv q4, sd, iv p5, lv size, sd, iv (0 : Int32), iv (0 : Int32), iv (0 : Int32), iv (0 : Int32), lv (0 : Int64), sd, lv (0 : Int64), sd, lv (0 : Int64), sd, lv (0 : Int64), sd, rv b49, lv (own_sum W0 nw), sd, un, un, un, un] [(.int (0 : Int32))]))
    refine Go.stp (fun t_ k_ => XS.ifYes X54.here hx rfl (pc0 := 219) (pc' := 229) rfl (hb hby at_219) rfl ((if0 _ _).trans (teq (by decide : (0 : Int32) = (0 : Int32))).1) (by decide) (by decide) k_) ?_
    show Go p.tables e below G (T54.setTop (mkF m 229 #[lv q0, sd, lv q1, sd, lv q2, sd, lv q3, sd, lv q4, sd, iv p5, lv size, sd, iv (0 : Int32), iv (0 : Int32), iv (0 : Int32), iv (0 : Int32), lv (0 : Int64), sd, lv (0 : Int64), sd, lv (0 : Int64), sd, lv (0 : Int64), sd, rv b49, lv (own_sum W0 nw), sd, un, un, un, un] []))
    refine Go.stp (fun t_ k_ => XS.iload X54.here hx rfl (hb hby at_229) rfl k_) ?_
    show Go p.tables e below G (T54.setTop (mkF m 231 #[lv q0, sd, lv q1, sd, lv q2, sd, lv q3, sd, lv q4, sd, iv p5, lv size, sd, iv (0 : Int32), iv (0 : Int32), iv (0 : Int32), iv (0 : Int32), lv (0 : Int64), sd, lv (0 : Int64), sd, lv (0 : Int64), sd, lv (0 : Int64), sd, rv b49, lv (own_sum W0 nw), sd, un, un, un, un] [(.int (0 : Int32))]))
    refine Go.stp (fun t_ k_ => XS.ifYes X54.here hx rfl (pc0 := 231) (pc' := 241) rfl (hb hby at_231) rfl ((if0 _ _).trans (teq (by decide : (0 : Int32) = (0 : Int32))).1) (by decide) (by decide) k_) ?_
    show Go p.tables e below G (T54.setTop (mkF m 241 #[lv q0, sd, lv q1, sd, lv q2, sd, lv q3, sd, lv q4, sd, iv p5, lv size, sd, iv (0 : Int32), iv (0 : Int32), iv (0 : Int32), iv (0 : Int32), lv (0 : Int64), sd, lv (0 : Int64), sd, lv (0 : Int64), sd, lv (0 : Int64), sd, rv b49, lv (own_sum W0 nw), sd, un, un, un, un] []))
    refine Go.stp (fun t_ k_ => XS.aload X54.here hx rfl (hb hby at_241) rfl rfl k_) ?_
    show Go p.tables e below G (T54.setTop (mkF m 243 #[lv q0, sd, lv q1, sd, lv q2, sd, lv q3, sd, lv q4, sd, iv p5, lv size, sd, iv (0 : Int32), iv (0 : Int32), iv (0 : Int32), iv (0 : Int32), lv (0 : Int64), sd, lv (0 : Int64), sd, lv (0 : Int64), sd, lv (0 : Int64), sd, rv b49, lv (own_sum W0 nw), sd, un, un, un, un] [(.ref b49)]))
    obtain ⟨cq55, kq55, q55a, q55b, q55c⟩ := isOf hZ e54 Ex
    obtain ⟨_, _, ⟨T55, L55, k55, n55⟩, -, X55, ⟨Lc55, hQ55, l55, y55, z55⟩, st55⟩ := X54.virtualBack hx (y := (⟨"com/example/malla/malla/arrays/BitArray", "bitCount", "()J"⟩ : MethodName)) (z := (⟨"com/example/malla/malla/arrays/BitArray", "bitCount", "()J"⟩ : MethodName)) hown (mvT hZ (hw _ (List.mem_of_getElem? (i := 29) rfl))) (mvT hZ (hw _ (List.mem_of_getElem? (i := 30) rfl))) (notFace_of_selects (args := #[]) (mvT hZ (hw _ (List.mem_of_getElem? (i := 32) rfl)))) (mvT hZ (hw _ (List.mem_of_getElem? (i := 32) rfl))) (mvT hZ (hw _ (List.mem_of_getElem? (i := 31) rfl))) (by decide) (backOf (W := 0) (rm6 l Z a0 hw [] b49 wa nw W0 T52.heap n0 Z52 Fw Iw hn5) hZ (hw _ (List.mem_of_getElem? (i := 33) rfl)) (hw _ (List.mem_of_getElem? (i := 9) rfl)) (by decide) (by decide)) q55a q55c (g := (mkF m 243 #[lv q0, sd, lv q1, sd, lv q2, sd, lv q3, sd, lv q4, sd, iv p5, lv size, sd, iv (0 : Int32), iv (0 : Int32), iv (0 : Int32), iv (0 : Int32), lv (0 : Int64), sd, lv (0 : Int64), sd, lv (0 : Int64), sd, lv (0 : Int64), sd, rv b49, lv (own_sum W0 nw), sd, un, un, un, un] [(.ref b49)])) rfl (by rw [hml]; rfl) (Steps.refl _) (argsL := []) (rest := []) (lenOf pd_4 rfl) rfl (by show 2 * 0 + _ ≤ _; exact Nat.le_of_eq rfl) (hb hby at_243) (fun _ _ => ⟨rfl, e54, (by decide : 2 + 0 ≤ _), (by decide : 7 + 0 ≤ _)⟩)
    dsimp only [Pt.U, Pt.locs, Pt.cells, Pt.slots] at X55 l55 y55 z55 st55 hQ55
    subst l55 y55 z55
    obtain ⟨rfl, Nq55, e55⟩ := hQ55
    have N55 := Fr.app N54 Nq55
    refine Go.stp (fun t_ k_ => st55.trans k_) ?_
    show Go p.tables e below G (T55.setTop (mkF m 246 #[lv q0, sd, lv q1, sd, lv q2, sd, lv q3, sd, lv q4, sd, iv p5, lv size, sd, iv (0 : Int32), iv (0 : Int32), iv (0 : Int32), iv (0 : Int32), lv (0 : Int64), sd, lv (0 : Int64), sd, lv (0 : Int64), sd, lv (0 : Int64), sd, rv b49, lv (own_sum W0 nw), sd, un, un, un, un] [(.long (own_sum W0 nw))]))
    refine Go.stp (fun t_ k_ => XS.lstore X55.here hx rfl (hb hby at_246) rfl (l' := #[lv q0, sd, lv q1, sd, lv q2, sd, lv q3, sd, lv q4, sd, iv p5, lv size, sd, iv (0 : Int32), iv (0 : Int32), iv (0 : Int32), iv (0 : Int32), lv (0 : Int64), sd, lv (0 : Int64), sd, lv (0 : Int64), sd, lv (0 : Int64), sd, rv b49, lv (own_sum W0 nw), sd, lv (own_sum W0 nw), sd, un, un]) rfl k_) ?_
    show Go p.tables e below G (T55.setTop (mkF m 248 #[lv q0, sd, lv q1, sd, lv q2, sd, lv q3, sd, lv q4, sd, iv p5, lv size, sd, iv (0 : Int32), iv (0 : Int32), iv (0 : Int32), iv (0 : Int32), lv (0 : Int64), sd, lv (0 : Int64), sd, lv (0 : Int64), sd, lv (0 : Int64), sd, rv b49, lv (own_sum W0 nw), sd, lv (own_sum W0 nw), sd, un, un] []))
    refine Go.stp (fun t_ k_ => XS.lconst X55.here hx rfl (hb hby at_248) k_) ?_
    show Go p.tables e below G (T55.setTop (mkF m 249 #[lv q0, sd, lv q1, sd, lv q2, sd, lv q3, sd, lv q4, sd, iv p5, lv size, sd, iv (0 : Int32), iv (0 : Int32), iv (0 : Int32), iv (0 : Int32), lv (0 : Int64), sd, lv (0 : Int64), sd, lv (0 : Int64), sd, lv (0 : Int64), sd, rv b49, lv (own_sum W0 nw), sd, lv (own_sum W0 nw), sd, un, un] [(.long (0 : Int64))]))
    refine Go.stp (fun t_ k_ => XS.lstore X55.here hx rfl (hb hby at_249) rfl (l' := #[lv q0, sd, lv q1, sd, lv q2, sd, lv q3, sd, lv q4, sd, iv p5, lv size, sd, iv (0 : Int32), iv (0 : Int32), iv (0 : Int32), iv (0 : Int32), lv (0 : Int64), sd, lv (0 : Int64), sd, lv (0 : Int64), sd, lv (0 : Int64), sd, rv b49, lv (own_sum W0 nw), sd, lv (own_sum W0 nw), sd, lv (0 : Int64), sd]) rfl k_) ?_
    show Go p.tables e below G (T55.setTop (mkF m 251 #[lv q0, sd, lv q1, sd, lv q2, sd, lv q3, sd, lv q4, sd, iv p5, lv size, sd, iv (0 : Int32), iv (0 : Int32), iv (0 : Int32), iv (0 : Int32), lv (0 : Int64), sd, lv (0 : Int64), sd, lv (0 : Int64), sd, lv (0 : Int64), sd, rv b49, lv (own_sum W0 nw), sd, lv (own_sum W0 nw), sd, lv (0 : Int64), sd] []))
    refine Go.stp (fun t_ k_ => XS.iload X55.here hx rfl (hb hby at_251) rfl k_) ?_
    show Go p.tables e below G (T55.setTop (mkF m 253 #[lv q0, sd, lv q1, sd, lv q2, sd, lv q3, sd, lv q4, sd, iv p5, lv size, sd, iv (0 : Int32), iv (0 : Int32), iv (0 : Int32), iv (0 : Int32), lv (0 : Int64), sd, lv (0 : Int64), sd, lv (0 : Int64), sd, lv (0 : Int64), sd, rv b49, lv (own_sum W0 nw), sd, lv (own_sum W0 nw), sd, lv (0 : Int64), sd] [(.int (0 : Int32))]))
    refine Go.stp (fun t_ k_ => XS.ifYes X55.here hx rfl (pc0 := 253) (pc' := 262) rfl (hb hby at_253) rfl ((if0 _ _).trans (teq (by decide : (0 : Int32) = (0 : Int32))).1) (by decide) (by decide) k_) ?_
    show Go p.tables e below G (T55.setTop (mkF m 262 #[lv q0, sd, lv q1, sd, lv q2, sd, lv q3, sd, lv q4, sd, iv p5, lv size, sd, iv (0 : Int32), iv (0 : Int32), iv (0 : Int32), iv (0 : Int32), lv (0 : Int64), sd, lv (0 : Int64), sd, lv (0 : Int64), sd, lv (0 : Int64), sd, rv b49, lv (own_sum W0 nw), sd, lv (own_sum W0 nw), sd, lv (0 : Int64), sd] []))
    refine Go.stp (fun t_ k_ => XS.iload X55.here hx rfl (hb hby at_262) rfl k_) ?_
    show Go p.tables e below G (T55.setTop (mkF m 264 #[lv q0, sd, lv q1, sd, lv q2, sd, lv q3, sd, lv q4, sd, iv p5, lv size, sd, iv (0 : Int32), iv (0 : Int32), iv (0 : Int32), iv (0 : Int32), lv (0 : Int64), sd, lv (0 : Int64), sd, lv (0 : Int64), sd, lv (0 : Int64), sd, rv b49, lv (own_sum W0 nw), sd, lv (own_sum W0 nw), sd, lv (0 : Int64), sd] [(.int (0 : Int32))]))
    refine Go.stp (fun t_ k_ => XS.ifYes X55.here hx rfl (pc0 := 264) (pc' := 286) rfl (hb hby at_264) rfl ((if0 _ _).trans (teq (by decide : (0 : Int32) = (0 : Int32))).1) (by decide) (by decide) k_) ?_
    show Go p.tables e below G (T55.setTop (mkF m 286 #[lv q0, sd, lv q1, sd, lv q2, sd, lv q3, sd, lv q4, sd, iv p5, lv size, sd, iv (0 : Int32), iv (0 : Int32), iv (0 : Int32), iv (0 : Int32), lv (0 : Int64), sd, lv (0 : Int64), sd, lv (0 : Int64), sd, lv (0 : Int64), sd, rv b49, lv (own_sum W0 nw), sd, lv (own_sum W0 nw), sd, lv (0 : Int64), sd] []))
    refine Go.stp (fun t_ k_ => XS.iload X55.here hx rfl (hb hby at_286) rfl k_) ?_
    show Go p.tables e below G (T55.setTop (mkF m 288 #[lv q0, sd, lv q1, sd, lv q2, sd, lv q3, sd, lv q4, sd, iv p5, lv size, sd, iv (0 : Int32), iv (0 : Int32), iv (0 : Int32), iv (0 : Int32), lv (0 : Int64), sd, lv (0 : Int64), sd, lv (0 : Int64), sd, lv (0 : Int64), sd, rv b49, lv (own_sum W0 nw), sd, lv (own_sum W0 nw), sd, lv (0 : Int64), sd] [(.int (0 : Int32))]))
    refine Go.stp (fun t_ k_ => XS.ifYes X55.here hx rfl (pc0 := 288) (pc' := 323) rfl (hb hby at_288) rfl ((if0 _ _).trans (teq (by decide : (0 : Int32) = (0 : Int32))).1) (by decide) (by decide) k_) ?_
    show Go p.tables e below G (T55.setTop (mkF m 323 #[lv q0, sd, lv q1, sd, lv q2, sd, lv q3, sd, lv q4, sd, iv p5, lv size, sd, iv (0 : Int32), iv (0 : Int32), iv (0 : Int32), iv (0 : Int32), lv (0 : Int64), sd, lv (0 : Int64), sd, lv (0 : Int64), sd, lv (0 : Int64), sd, rv b49, lv (own_sum W0 nw), sd, lv (own_sum W0 nw), sd, lv (0 : Int64), sd] []))
    refine Go.stp (fun t_ k_ => XS.iload X55.here hx rfl (hb hby at_323) rfl k_) ?_
    show Go p.tables e below G (T55.setTop (mkF m 325 #[lv q0, sd, lv q1, sd, lv q2, sd, lv q3, sd, lv q4, sd, iv p5, lv size, sd, iv (0 : Int32), iv (0 : Int32), iv (0 : Int32), iv (0 : Int32), lv (0 : Int64), sd, lv (0 : Int64), sd, lv (0 : Int64), sd, lv (0 : Int64), sd, rv b49, lv (own_sum W0 nw), sd, lv (own_sum W0 nw), sd, lv (0 : Int64), sd] [(.int (0 : Int32))]))
    refine Go.stp (fun t_ k_ => XS.ifYes X55.here hx rfl (pc0 := 325) (pc' := 373) rfl (hb hby at_325) rfl ((if0 _ _).trans (teq (by decide : (0 : Int32) = (0 : Int32))).1) (by decide) (by decide) k_) ?_
    show Go p.tables e below G (T55.setTop (mkF m 373 #[lv q0, sd, lv q1, sd, lv q2, sd, lv q3, sd, lv q4, sd, iv p5, lv size, sd, iv (0 : Int32), iv (0 : Int32), iv (0 : Int32), iv (0 : Int32), lv (0 : Int64), sd, lv (0 : Int64), sd, lv (0 : Int64), sd, lv (0 : Int64), sd, rv b49, lv (own_sum W0 nw), sd, lv (own_sum W0 nw), sd, lv (0 : Int64), sd] []))
    refine Go.stp (fun t_ k_ => XS.lload X55.here hx rfl (hb hby at_373) rfl k_) ?_
    show Go p.tables e below G (T55.setTop (mkF m 375 #[lv q0, sd, lv q1, sd, lv q2, sd, lv q3, sd, lv q4, sd, iv p5, lv size, sd, iv (0 : Int32), iv (0 : Int32), iv (0 : Int32), iv (0 : Int32), lv (0 : Int64), sd, lv (0 : Int64), sd, lv (0 : Int64), sd, lv (0 : Int64), sd, rv b49, lv (own_sum W0 nw), sd, lv (own_sum W0 nw), sd, lv (0 : Int64), sd] [(.long (own_sum W0 nw))]))
    refine Go.stp (fun t_ k_ => XS.lconst X55.here hx rfl (hb hby at_375) k_) ?_
    show Go p.tables e below G (T55.setTop (mkF m 376 #[lv q0, sd, lv q1, sd, lv q2, sd, lv q3, sd, lv q4, sd, iv p5, lv size, sd, iv (0 : Int32), iv (0 : Int32), iv (0 : Int32), iv (0 : Int32), lv (0 : Int64), sd, lv (0 : Int64), sd, lv (0 : Int64), sd, lv (0 : Int64), sd, rv b49, lv (own_sum W0 nw), sd, lv (own_sum W0 nw), sd, lv (0 : Int64), sd] [(.long (0 : Int64)), (.long (own_sum W0 nw))]))
    refine Go.stp (fun t_ k_ => XS.lcmp X55.here hx rfl (hb hby at_376) rfl k_) ?_
    show Go p.tables e below G (T55.setTop (mkF m 377 #[lv q0, sd, lv q1, sd, lv q2, sd, lv q3, sd, lv q4, sd, iv p5, lv size, sd, iv (0 : Int32), iv (0 : Int32), iv (0 : Int32), iv (0 : Int32), lv (0 : Int64), sd, lv (0 : Int64), sd, lv (0 : Int64), sd, lv (0 : Int64), sd, rv b49, lv (own_sum W0 nw), sd, lv (own_sum W0 nw), sd, lv (0 : Int64), sd] [(.int (lcmpW (own_sum W0 nw) (0 : Int64)))]))
    have hd377 : (own_sum W0 nw) = (0 : Int64) := own_before hn5 hW0
    refine Go.stp (fun t_ k_ => XS.ifNo X55.here hx rfl (hb hby at_377) rfl ((if0 _ _).trans (teq ((lw_eq (own_sum W0 nw) (0 : Int64)).mpr hd377)).2) k_) ?_
    show Go p.tables e below G (T55.setTop (mkF m 380 #[lv q0, sd, lv q1, sd, lv q2, sd, lv q3, sd, lv q4, sd, iv p5, lv size, sd, iv (0 : Int32), iv (0 : Int32), iv (0 : Int32), iv (0 : Int32), lv (0 : Int64), sd, lv (0 : Int64), sd, lv (0 : Int64), sd, lv (0 : Int64), sd, rv b49, lv (own_sum W0 nw), sd, lv (own_sum W0 nw), sd, lv (0 : Int64), sd] []))
    refine Go.stp (fun t_ k_ => XS.lload X55.here hx rfl (hb hby at_380) rfl k_) ?_
    show Go p.tables e below G (T55.setTop (mkF m 382 #[lv q0, sd, lv q1, sd, lv q2, sd, lv q3, sd, lv q4, sd, iv p5, lv size, sd, iv (0 : Int32), iv (0 : Int32), iv (0 : Int32), iv (0 : Int32), lv (0 : Int64), sd, lv (0 : Int64), sd, lv (0 : Int64), sd, lv (0 : Int64), sd, rv b49, lv (own_sum W0 nw), sd, lv (own_sum W0 nw), sd, lv (0 : Int64), sd] [(.long (own_sum W0 nw))]))
    refine Go.stp (fun t_ k_ => XS.lload X55.here hx rfl (hb hby at_382) rfl k_) ?_
    show Go p.tables e below G (T55.setTop (mkF m 384 #[lv q0, sd, lv q1, sd, lv q2, sd, lv q3, sd, lv q4, sd, iv p5, lv size, sd, iv (0 : Int32), iv (0 : Int32), iv (0 : Int32), iv (0 : Int32), lv (0 : Int64), sd, lv (0 : Int64), sd, lv (0 : Int64), sd, lv (0 : Int64), sd, rv b49, lv (own_sum W0 nw), sd, lv (own_sum W0 nw), sd, lv (0 : Int64), sd] [(.long (0 : Int64)), (.long (own_sum W0 nw))]))
    refine Go.stp (fun t_ k_ => XS.lcmp X55.here hx rfl (hb hby at_384) rfl k_) ?_
    show Go p.tables e below G (T55.setTop (mkF m 385 #[lv q0, sd, lv q1, sd, lv q2, sd, lv q3, sd, lv q4, sd, iv p5, lv size, sd, iv (0 : Int32), iv (0 : Int32), iv (0 : Int32), iv (0 : Int32), lv (0 : Int64), sd, lv (0 : Int64), sd, lv (0 : Int64), sd, lv (0 : Int64), sd, rv b49, lv (own_sum W0 nw), sd, lv (own_sum W0 nw), sd, lv (0 : Int64), sd] [(.int (lcmpW (own_sum W0 nw) (0 : Int64)))]))
    have hd385 : (own_sum W0 nw) = (0 : Int64) := own_before hn5 hW0
    refine Go.stp (fun t_ k_ => XS.ifNo X55.here hx rfl (hb hby at_385) rfl ((if0 _ _).trans (teq ((lw_eq (own_sum W0 nw) (0 : Int64)).mpr hd385)).2) k_) ?_
    show Go p.tables e below G (T55.setTop (mkF m 388 #[lv q0, sd, lv q1, sd, lv q2, sd, lv q3, sd, lv q4, sd, iv p5, lv size, sd, iv (0 : Int32), iv (0 : Int32), iv (0 : Int32), iv (0 : Int32), lv (0 : Int64), sd, lv (0 : Int64), sd, lv (0 : Int64), sd, lv (0 : Int64), sd, rv b49, lv (own_sum W0 nw), sd, lv (own_sum W0 nw), sd, lv (0 : Int64), sd] []))
    refine Go.stp (fun t_ k_ => XS.iconst X55.here hx rfl (hb hby at_388) k_) ?_
    show Go p.tables e below G (T55.setTop (mkF m 389 #[lv q0, sd, lv q1, sd, lv q2, sd, lv q3, sd, lv q4, sd, iv p5, lv size, sd, iv (0 : Int32), iv (0 : Int32), iv (0 : Int32), iv (0 : Int32), lv (0 : Int64), sd, lv (0 : Int64), sd, lv (0 : Int64), sd, lv (0 : Int64), sd, rv b49, lv (own_sum W0 nw), sd, lv (own_sum W0 nw), sd, lv (0 : Int64), sd] [(.int (1 : Int32))]))
    refine Go.stp (fun t_ k_ => XS.goto X55.here hx rfl (pc0 := 389) (pc' := 393) rfl (hb hby at_389) (by decide) (by decide) k_) ?_
    show Go p.tables e below G (T55.setTop (mkF m 393 #[lv q0, sd, lv q1, sd, lv q2, sd, lv q3, sd, lv q4, sd, iv p5, lv size, sd, iv (0 : Int32), iv (0 : Int32), iv (0 : Int32), iv (0 : Int32), lv (0 : Int64), sd, lv (0 : Int64), sd, lv (0 : Int64), sd, lv (0 : Int64), sd, rv b49, lv (own_sum W0 nw), sd, lv (own_sum W0 nw), sd, lv (0 : Int64), sd] [(.int (1 : Int32))]))
    obtain ⟨fs, hr, hrun, hended, hW, hsame⟩ := X55.leave (v := some (.int (1 : Int32))) (fun h => by rw [Bd.returns] at h; cases h)
    refine ⟨_, _, retN X55 hx (t := .boolean) Bd.returns (by simp) (hb hby at_393) hr, hrun, hended, hG _ _ _ ?_ ⟨⟨_, rfl⟩, hW, hsame.mono (by decide) (by decide)⟩⟩
    show Q0 Z q0 q1 q2 q3 q4 p5 h0 n0 _ T55.heap _
    rw [e55]
    exact ⟨rfl, N55⟩
set_option maxRecDepth 65536 in
set_option maxHeartbeats 40000000 in
theorem comes_1 {Post : Tables → Env → Array Value → State → Outcome → State → Prop} (hpost : ∀ tb e args s v u, (limb_1_1.after args s (.returned v) u = true ∧ limb_1_2.after args s (.returned v) u = true ∧ True) → FrameEnd s (.returned v) u (Jvm.fieldLocs frame_1_writes args s ++ Jvm.arrayLocs frame_1_arrays args s ++ Jvm.staticLocs frame_1_statics s) 16 128 → Post tb e args s (.returned v) u) :
    ArmFor flags0 classFile x code maxLocals ret World_1 tables_1 room_1 Calls_1 rest_1 Pre_1 Post := by
  intro l hfl _ _ p e ha hc hk s m args below hf hA hF happ hP
  obtain ⟨hcalls, hrest, hpre⟩ := hP
  obtain ⟨-, -, -, hnamed, -, -, -, hat⟩ := (Spec.applies_iff hf).mp happ
  obtain ⟨hg, hn⟩ := and_e (Cond.before_iff.mp (show (Jvm.Cond.and given_1 narrow_1).before args s = true from hpre))
  obtain ⟨g1a, g1b⟩ := and_e hg
  obtain ⟨g2a, g2b⟩ := and_e g1b
  obtain ⟨g3a, g3b⟩ := and_e g2b
  obtain ⟨g4a, g4b⟩ := and_e g3b
  obtain ⟨g5a, g5b⟩ := and_e g4b
  obtain ⟨g6a, g6b⟩ := and_e g5b
  obtain ⟨w0, w1, w2, w3, w4, w5, rfl⟩ : ∃ w0 w1 w2 w3 w4 w5 : Value, args = #[w0, w1, w2, w3, w4, w5] := by
    have hs : args.size = 6 := by simpa [Cond.value, given_1] using g1a
    obtain ⟨L⟩ := args
    match L, hs with
    | [w0, w1, w2, w3, w4, w5], _ => exact ⟨w0, w1, w2, w3, w4, w5, rfl⟩
  have hw := fun d (hd : d ∈ tables_1) => atoms_spec (ws := Jvm.Cond.code x code maxLocals ret :: tables_1) hat d (List.mem_cons_of_mem _ hd)
  have hfit : Fit s := fun {y c} hc i hi => by
    obtain ⟨ha, rfl⟩ := Array.getElem?_eq_some_iff.mp hc
    have q := List.all_eq_true.mp ((Array.all_eq_true_iff_forall_mem.mp hF) _ (Array.getElem_mem ha)) i (List.mem_range.mpr hi)
    simpa [Array.getElem?_eq_getElem hi] using q
  obtain ⟨i0, ei0⟩ := isL_v g2a
  obtain rfl : w0 = (.long i0) := Option.some.inj ei0
  obtain ⟨i1, ei1⟩ := isL_v g3a
  obtain rfl : w1 = (.long i1) := Option.some.inj ei1
  obtain ⟨i2, ei2⟩ := isL_v g4a
  obtain rfl : w2 = (.long i2) := Option.some.inj ei2
  obtain ⟨i3, ei3⟩ := isL_v g5a
  obtain rfl : w3 = (.long i3) := Option.some.inj ei3
  obtain ⟨i4, ei4⟩ := isL_v g6a
  obtain rfl : w4 = (.long i4) := Option.some.inj ei4
  obtain ⟨i5, ei5⟩ := is_v g6b
  obtain rfl : w5 = (.int i5) := Option.some.inj ei5
  obtain ⟨n, o, h1, h2, h3, _, L, rfl, ⟨rfl, N⟩, hq⟩ := rm0 l s _ hw tables_1 i0 i1 i2 i3 i4 i5  s.heap s.heap.size (Nat.le_refl _)  p e ha hc hk s m _ below hf ((Spec.applies_iff_loose hf).mp happ).1 ⟨rfl, State.Warmed39.refl s, rfl⟩ trivial
  refine ⟨n, _, h1, h2, h3, hpost _ _ _ _ _ _ ⟨Cond.after_iff.mpr rfl, Cond.after_iff.mpr (eq_i res_at (Term.int_eval (1)) rfl), trivial⟩ ⟨hq.1, hq.2.1, (hq.2.2.sift fun y hy => Or.inr (N y hy)).mono (by decide) (by decide)⟩⟩
theorem main_1_1 : Claimed_1_1 := comes_1 fun _ _ _ _ _ _ h hF => ⟨h.1, hF⟩
theorem main_1_2 : Claimed_1_2 := comes_1 fun _ _ _ _ _ _ h hF => ⟨h.2.1, hF⟩
end Jvm.Pilot.@@N@@
namespace Jvm.Pilot.@@N@@
open Jvm Jvm.ClassFile Sem Op Lib Jvm.Free Jvm.Stand Jvm.Pilot.@@N@@.Jvm.D
/-! MADE BY PROGRAM (witnessworld.py) out of the Statement's table words and the real class files: 18 classes; the members and pool entries that the words name. The judged class is class 1, her method 2. -/
namespace start1
open Jvm.ClassFile
def u (s : String) : CpInfo := .utf8 (stringToUtf16 s)
/-- a pool by its gaps: so many unusable entries, then the entry; so many at the end -/
def gap : Nat → List CpInfo → List CpInfo
  | 0, r => r
  | n + 1, r => .unusable :: gap n r
def poolList (es : List (Nat × CpInfo)) (last : Nat) : List CpInfo := es.foldr (fun e r => gap e.1 (e.2 :: r)) (gap last [])
def pool (es : List (Nat × CpInfo)) (last : Nat) : Array CpInfo := ⟨poolList es last⟩
def fileOf (pool : Array CpInfo) (this : Nat) (attrs : Array Attribute := #[]) (ms : Array MethodInfo := #[]) (fl : Nat := 33) (sup : Nat := 0) (ifs : Array Nat := #[]) (fds : Array FieldInfo := #[]) : ClassFile where
  minorVersion := 0
  majorVersion := 65
  constantPool := pool
  accessFlags := fl
  thisClass := this
  superClass := sup
  interfaces := ifs
  fields := fds
  methods := ms
  attributes := attrs
def plain (name : String) (sup : Option ClassId) : Class where
  name := name
  kind := .ordinary
  loader := none
  accessFlags := 33
  super := sup
  interfaces := #[]
  cf := none
  fields := #[]
  methods := #[]
  instanceTypes := #[]
  staticTypes := #[]
  resolved := #[]
  callSites := []
  init := .initialized
  statics := none
  mirror := none

def pool0 : Array CpInfo := pool [(5, u "<init>"), (0, u "()V"), (1, .class_ 10), (1, u "java/lang/Object")] 113

def k0c0 : Code := { maxStack := 0, maxLocals := 1, code := object_method_1_code, exceptionTable := #[], attributes := #[] }
def k0m0 : Method := { name := "<init>", desc := "()V", sig := { parameters := [], returnType := none }, accessFlags := 1, code := some k0c0 }
/-- java/lang/Object -/
def k0 : Class := { plain "java/lang/Object" none with
  accessFlags := 33
  interfaces := #[]
  cf := some (fileOf pool0 8 #[] #[{ accessFlags := 1, nameIndex := 5, descriptorIndex := 6, attributes := #[] }] 33 0 #[] #[])
  fields := #[]
  methods := #[k0m0]
  instanceTypes := #[]
  staticTypes := #[]
  resolved := Array.replicate 124 none
  statics := none }

def pool1 : Array CpInfo := pool [(2, .class_ 4), (1, u "java/lang/Object"), (0, u "<init>"), (0, u "()V"), (2, .long 9223372036854775807), (1, .long 2147483647), (1, .long 300), (1, .methodref 16 17), (0, .class_ 18), (0, .nameAndType 19 20), (0, u "com/example/malla/malla/arrays/BitArrayBitCountPinLaw"), (0, u "idx"), (0, u "(JJ)J"), (0, .class_ 22), (0, u "com/example/malla/malla/arrays/BitArray"), (0, .methodref 21 24), (0, .nameAndType 5 25), (0, u "(J)V"), (0, .methodref 21 27), (0, .nameAndType 28 29), (0, u "bitCount"), (0, u "()J"), (0, .methodref 21 31), (0, .nameAndType 32 25), (0, u "set"), (2, u "law"), (0, u "(JJJJJI)Z")] 3

def k1m0 : Method := { name := "<init>", desc := "()V", sig := { parameters := [], returnType := none }, accessFlags := 1, code := none }
def k1c1 : Code := { maxStack := 4, maxLocals := 4, code := method_2_code, exceptionTable := #[], attributes := #[] }
def k1m1 : Method := { name := "idx", desc := "(JJ)J", sig := { parameters := [.long, .long], returnType := some .long }, accessFlags := 10, code := some k1c1 }
def k1c2 : Code := { maxStack := 4, maxLocals := 32, code := code, exceptionTable := #[], attributes := #[] }
def k1m2 : Method := { name := "law", desc := "(JJJJJI)Z", sig := { parameters := [.long, .long, .long, .long, .long, .int], returnType := some .boolean }, accessFlags := 9, code := some k1c2 }
/-- com/example/malla/malla/arrays/BitArrayBitCountPinLaw -/
def k1 : Class := { plain "com/example/malla/malla/arrays/BitArrayBitCountPinLaw" (some 0) with
  accessFlags := 49
  interfaces := #[]
  cf := some (fileOf pool1 16 #[] #[{ accessFlags := 1, nameIndex := 5, descriptorIndex := 6, attributes := #[] }, { accessFlags := 10, nameIndex := 19, descriptorIndex := 20, attributes := #[] }, { accessFlags := 9, nameIndex := 35, descriptorIndex := 36, attributes := #[] }] 49 2 #[] #[])
  fields := #[]
  methods := #[k1m0, k1m1, k1m2]
  instanceTypes := #[]
  staticTypes := #[]
  resolved := Array.replicate 40 none
  statics := none }

def pool2 : Array CpInfo := pool [(3, .methodref 4 5), (0, .class_ 6), (0, .nameAndType 7 8), (0, u "java/lang/Object"), (0, u "<init>"), (0, u "()V"), (0, .methodref 10 11), (0, .class_ 12), (0, .nameAndType 13 14), (0, u "com/example/malla/malla/arrays/BitArray"), (0, u "checkSize"), (0, u "(J)V"), (0, .fieldref 10 16), (0, .nameAndType 17 18), (0, u "size"), (0, u "J"), (0, .methodref 10 20), (0, .nameAndType 21 22), (0, u "wordCount"), (0, u "(J)I"), (0, .fieldref 10 24), (0, .nameAndType 25 26), (0, u "words"), (0, u "[J"), (0, .methodref 28 29), (0, .class_ 30), (0, .nameAndType 31 32), (0, u "java/util/Objects"), (0, u "checkIndex"), (0, u "(JJ)J"), (8, .methodref 42 43), (0, .class_ 44), (0, .nameAndType 45 22), (0, u "java/lang/Long"), (0, u "bitCount"), (158, .long 137438952896), (3, .long 63), (11, u "MAX_SIZE"), (1, u "CHUNK_LENGTH"), (0, u "I"), (3, u "()J"), (2, u "set")] 49

def k2c0 : Code := { maxStack := 3, maxLocals := 3, code := prog_2_method_1_code, exceptionTable := #[], attributes := #[] }
def k2m0 : Method := { name := "<init>", desc := "(J)V", sig := { parameters := [.long], returnType := none }, accessFlags := 1, code := some k2c0 }
def k2c1 : Code := { maxStack := 8, maxLocals := 3, code := prog_2_method_5_code, exceptionTable := #[], attributes := #[] }
def k2m1 : Method := { name := "set", desc := "(J)V", sig := { parameters := [.long], returnType := none }, accessFlags := 1, code := some k2c1 }
def k2c2 : Code := { maxStack := 4, maxLocals := 8, code := prog_2_method_9_code, exceptionTable := #[], attributes := #[] }
def k2m2 : Method := { name := "bitCount", desc := "()J", sig := { parameters := [], returnType := some .long }, accessFlags := 1, code := some k2c2 }
def k2c3 : Code := { maxStack := 4, maxLocals := 2, code := prog_2_method_21_code, exceptionTable := #[], attributes := #[] }
def k2m3 : Method := { name := "checkSize", desc := "(J)V", sig := { parameters := [.long], returnType := none }, accessFlags := 10, code := some k2c3 }
def k2c4 : Code := { maxStack := 4, maxLocals := 2, code := prog_2_method_23_code, exceptionTable := #[], attributes := #[] }
def k2m4 : Method := { name := "wordCount", desc := "(J)I", sig := { parameters := [.long], returnType := some .int }, accessFlags := 10, code := some k2c4 }
/-- com/example/malla/malla/arrays/BitArray -/
def k2 : Class := { plain "com/example/malla/malla/arrays/BitArray" (some 0) with
  accessFlags := 33
  interfaces := #[]
  cf := some (fileOf pool2 10 #[] #[{ accessFlags := 1, nameIndex := 7, descriptorIndex := 14, attributes := #[] }, { accessFlags := 1, nameIndex := 230, descriptorIndex := 14, attributes := #[] }, { accessFlags := 1, nameIndex := 45, descriptorIndex := 227, attributes := #[] }, { accessFlags := 10, nameIndex := 13, descriptorIndex := 14, attributes := #[] }, { accessFlags := 10, nameIndex := 21, descriptorIndex := 22, attributes := #[] }] 33 4 #[] #[{ accessFlags := 25, nameIndex := 220, descriptorIndex := 18, attributes := #[] }, { accessFlags := 26, nameIndex := 222, descriptorIndex := 223, attributes := #[] }, { accessFlags := 18, nameIndex := 17, descriptorIndex := 18, attributes := #[] }, { accessFlags := 18, nameIndex := 25, descriptorIndex := 26, attributes := #[] }])
  fields := #[{ name := "MAX_SIZE", type := .long, accessFlags := 25, slot := 0, constantValue := 0 }, { name := "CHUNK_LENGTH", type := .int, accessFlags := 26, slot := 1, constantValue := 0 }, { name := "size", type := .long, accessFlags := 18, slot := 0, constantValue := 0 }, { name := "words", type := (.array .long), accessFlags := 18, slot := 1, constantValue := 0 }]
  methods := #[k2m0, k2m1, k2m2, k2m3, k2m4]
  instanceTypes := #[.long, (.array .long)]
  staticTypes := #[.long, .int]
  resolved := Array.replicate 280 none
  statics := none }

def pool3 : Array CpInfo := pool [(1, .class_ 2), (0, u "java/io/Serializable"), (0, .class_ 4), (0, u "java/lang/Object")] 2

/-- java/io/Serializable -/
def k3 : Class := { plain "java/io/Serializable" (some 0) with
  accessFlags := 1537
  interfaces := #[]
  cf := some (fileOf pool3 1 #[] #[] 1537 3 #[] #[])
  fields := #[]
  methods := #[]
  instanceTypes := #[]
  staticTypes := #[]
  resolved := Array.replicate 7 none
  statics := none }

def pool4 : Array CpInfo := pool [(2, .class_ 4), (1, u "java/lang/Object"), (0, u "<init>"), (0, u "()V"), (1, .class_ 10), (1, u "java/lang/Number"), (2, .class_ 14), (0, u "java/io/Serializable"), (0, u "serialVersionUID"), (0, u "J")] 20

def k4m0 : Method := { name := "<init>", desc := "()V", sig := { parameters := [], returnType := none }, accessFlags := 1, code := none }
/-- java/lang/Number -/
def k4 : Class := { plain "java/lang/Number" (some 0) with
  accessFlags := 1057
  interfaces := #[3]
  cf := some (fileOf pool4 8 #[] #[{ accessFlags := 1, nameIndex := 5, descriptorIndex := 6, attributes := #[] }] 1057 2 #[13] #[{ accessFlags := 26, nameIndex := 15, descriptorIndex := 16, attributes := #[] }])
  fields := #[{ name := "serialVersionUID", type := .long, accessFlags := 26, slot := 0, constantValue := 0 }]
  methods := #[k4m0]
  instanceTypes := #[]
  staticTypes := #[.long]
  resolved := Array.replicate 37 none
  statics := none }

def pool5 : Array CpInfo := pool [(1, .class_ 2), (0, u "java/lang/Comparable"), (0, .class_ 4), (0, u "java/lang/Object")] 7

/-- java/lang/Comparable -/
def k5 : Class := { plain "java/lang/Comparable" (some 0) with
  accessFlags := 1537
  interfaces := #[]
  cf := some (fileOf pool5 1 #[] #[] 1537 3 #[] #[])
  fields := #[]
  methods := #[]
  instanceTypes := #[]
  staticTypes := #[]
  resolved := Array.replicate 12 none
  statics := none }

def pool6 : Array CpInfo := pool [(1, .class_ 2), (0, u "java/lang/constant/Constable"), (0, .class_ 4), (0, u "java/lang/Object")] 6

/-- java/lang/constant/Constable -/
def k6 : Class := { plain "java/lang/constant/Constable" (some 0) with
  accessFlags := 1537
  interfaces := #[]
  cf := some (fileOf pool6 1 #[] #[] 1537 3 #[] #[])
  fields := #[]
  methods := #[]
  instanceTypes := #[]
  staticTypes := #[]
  resolved := Array.replicate 11 none
  statics := none }

def pool7 : Array CpInfo := pool [(1, .class_ 2), (0, u "java/lang/constant/ConstantDesc"), (0, .class_ 4), (0, u "java/lang/Object")] 32

/-- java/lang/constant/ConstantDesc -/
def k7 : Class := { plain "java/lang/constant/ConstantDesc" (some 0) with
  accessFlags := 1537
  interfaces := #[]
  cf := some (fileOf pool7 1 #[] #[] 1537 3 #[] #[])
  fields := #[]
  methods := #[]
  instanceTypes := #[]
  staticTypes := #[]
  resolved := Array.replicate 37 none
  statics := none }

def pool8 : Array CpInfo := pool [(1, .class_ 2), (0, u "java/lang/Long"), (98, u "(J)I"), (133, .class_ 237), (1, u "java/lang/Long$LongCache"), (33, .class_ 272), (0, u "java/lang/Number"), (2, u "value"), (0, u "J"), (37, .long 6148914691236517205), (1, .long 3689348814741910323), (1, .long 1085102592571150095), (42, u "TYPE"), (0, u "Ljava/lang/Class;"), (0, .class_ 364), (0, u "java/lang/Comparable"), (0, .class_ 366), (0, u "java/lang/constant/Constable"), (0, .class_ 368), (0, u "java/lang/constant/ConstantDesc"), (0, u "MIN_VALUE"), (1, u "MAX_VALUE"), (4, u "SIZE"), (0, u "I"), (1, u "BYTES"), (1, u "serialVersionUID"), (94, u "bitCount")] 47

def k8c0 : Code := { maxStack := 6, maxLocals := 2, code := jdk_35_method_50_code, exceptionTable := #[], attributes := #[] }
def k8m0 : Method := { name := "bitCount", desc := "(J)I", sig := { parameters := [.long], returnType := some .int }, accessFlags := 9, code := some k8c0 }
/-- java/lang/Long -/
def k8 : Class := { plain "java/lang/Long" (some 4) with
  accessFlags := 49
  interfaces := #[5, 6, 7]
  cf := some (fileOf pool8 1 #[.nestMembers #[235]] #[{ accessFlags := 9, nameIndex := 476, descriptorIndex := 101, attributes := #[] }] 49 271 #[363, 365, 367] #[{ accessFlags := 25, nameIndex := 369, descriptorIndex := 276, attributes := #[] }, { accessFlags := 25, nameIndex := 371, descriptorIndex := 276, attributes := #[] }, { accessFlags := 25, nameIndex := 361, descriptorIndex := 362, attributes := #[] }, { accessFlags := 18, nameIndex := 275, descriptorIndex := 276, attributes := #[] }, { accessFlags := 25, nameIndex := 376, descriptorIndex := 377, attributes := #[] }, { accessFlags := 25, nameIndex := 379, descriptorIndex := 377, attributes := #[] }, { accessFlags := 26, nameIndex := 381, descriptorIndex := 276, attributes := #[] }])
  fields := #[{ name := "MIN_VALUE", type := .long, accessFlags := 25, slot := 0, constantValue := 0 }, { name := "MAX_VALUE", type := .long, accessFlags := 25, slot := 1, constantValue := 0 }, { name := "TYPE", type := (.object "java/lang/Class"), accessFlags := 25, slot := 2, constantValue := 0 }, { name := "value", type := .long, accessFlags := 18, slot := 0, constantValue := 0 }, { name := "SIZE", type := .int, accessFlags := 25, slot := 3, constantValue := 0 }, { name := "BYTES", type := .int, accessFlags := 25, slot := 4, constantValue := 0 }, { name := "serialVersionUID", type := .long, accessFlags := 26, slot := 5, constantValue := 0 }]
  methods := #[k8m0]
  instanceTypes := #[.long]
  staticTypes := #[.long, .long, (.object "java/lang/Class"), .int, .int, .long]
  resolved := Array.replicate 524 none
  statics := none }

def pool9 : Array CpInfo := pool [(2, .class_ 4), (1, u "java/lang/Object"), (0, u "<init>"), (0, u "()V"), (35, .class_ 44), (1, u "java/util/Objects"), (61, .class_ 108), (1, u "jdk/internal/util/Preconditions"), (0, u "checkIndex"), (8, .methodref 106 119), (0, .nameAndType 109 120), (0, u "(JJLjava/util/function/BiFunction;)J"), (58, u "(JJ)J")] 4

def k9m0 : Method := { name := "<init>", desc := "()V", sig := { parameters := [], returnType := none }, accessFlags := 2, code := none }
def k9c1 : Code := { maxStack := 5, maxLocals := 4, code := jdk_31_method_20_code, exceptionTable := #[], attributes := #[] }
def k9m1 : Method := { name := "checkIndex", desc := "(JJ)J", sig := { parameters := [.long, .long], returnType := some .long }, accessFlags := 9, code := some k9c1 }
/-- java/util/Objects -/
def k9 : Class := { plain "java/util/Objects" (some 0) with
  accessFlags := 49
  interfaces := #[]
  cf := some (fileOf pool9 42 #[] #[{ accessFlags := 2, nameIndex := 5, descriptorIndex := 6, attributes := #[] }, { accessFlags := 9, nameIndex := 109, descriptorIndex := 179, attributes := #[] }] 49 2 #[] #[])
  fields := #[]
  methods := #[k9m0, k9m1]
  instanceTypes := #[]
  staticTypes := #[]
  resolved := Array.replicate 184 none
  statics := none }

def pool10 : Array CpInfo := pool [(2, .class_ 4), (1, u "java/lang/Object"), (0, u "<init>"), (0, u "()V"), (17, .class_ 26), (1, u "jdk/internal/util/Preconditions"), (6, u "checkIndex"), (21, .class_ 56), (0, u "jdk/internal/util/Preconditions$4"), (57, .class_ 115), (0, u "jdk/internal/util/Preconditions$1"), (7, u "SIOOBE_FORMATTER"), (0, u "Ljava/util/function/BiFunction;"), (0, .class_ 126), (0, u "jdk/internal/util/Preconditions$2"), (3, u "AIOOBE_FORMATTER"), (0, .class_ 132), (0, u "jdk/internal/util/Preconditions$3"), (3, u "IOOBE_FORMATTER"), (48, u "(JJLjava/util/function/BiFunction;)J")] 8

def k10m0 : Method := { name := "<init>", desc := "()V", sig := { parameters := [], returnType := none }, accessFlags := 1, code := none }
def k10c1 : Code := { maxStack := 5, maxLocals := 5, code := jdk_41_method_14_code, exceptionTable := #[], attributes := #[] }
def k10m1 : Method := { name := "checkIndex", desc := "(JJLjava/util/function/BiFunction;)J", sig := { parameters := [.long, .long, (.object "java/util/function/BiFunction")], returnType := some .long }, accessFlags := 9, code := some k10c1 }
/-- jdk/internal/util/Preconditions -/
def k10 : Class := { plain "jdk/internal/util/Preconditions" (some 0) with
  accessFlags := 33
  interfaces := #[]
  cf := some (fileOf pool10 24 #[.nestMembers #[55, 131, 125, 114]] #[{ accessFlags := 1, nameIndex := 5, descriptorIndex := 6, attributes := #[] }, { accessFlags := 9, nameIndex := 33, descriptorIndex := 185, attributes := #[] }] 33 2 #[] #[{ accessFlags := 25, nameIndex := 123, descriptorIndex := 124, attributes := #[] }, { accessFlags := 25, nameIndex := 130, descriptorIndex := 124, attributes := #[] }, { accessFlags := 25, nameIndex := 136, descriptorIndex := 124, attributes := #[] }])
  fields := #[{ name := "SIOOBE_FORMATTER", type := (.object "java/util/function/BiFunction"), accessFlags := 25, slot := 0, constantValue := 0 }, { name := "AIOOBE_FORMATTER", type := (.object "java/util/function/BiFunction"), accessFlags := 25, slot := 1, constantValue := 0 }, { name := "IOOBE_FORMATTER", type := (.object "java/util/function/BiFunction"), accessFlags := 25, slot := 2, constantValue := 0 }]
  methods := #[k10m0, k10m1]
  instanceTypes := #[]
  staticTypes := #[(.object "java/util/function/BiFunction"), (.object "java/util/function/BiFunction"), (.object "java/util/function/BiFunction")]
  resolved := Array.replicate 194 none
  statics := none }

def pool11 : Array CpInfo := pool [(1, u "java/lang/Cloneable"), (0, .class_ 1), (0, u "java/lang/Object"), (0, .class_ 3)] 3

/-- java/lang/Cloneable -/
def k11 : Class := { plain "java/lang/Cloneable" (some 0) with
  accessFlags := 1537
  interfaces := #[]
  cf := some (fileOf pool11 2 #[] #[] 1537 4 #[] #[])
  fields := #[]
  methods := #[]
  instanceTypes := #[]
  staticTypes := #[]
  resolved := Array.replicate 8 none
  statics := none }

/-- the primitive byte -/
def k12 : Class := { plain "byte" none with kind := .primitive 'B', accessFlags := 0x411 }
/-- [B -/
def k13 : Class := { plain "[B" (some 0) with kind := .array 12 .byte, interfaces := #[11, 3], accessFlags := 1041 }

/-- the primitive int -/
def k14 : Class := { plain "int" none with kind := .primitive 'I', accessFlags := 0x411 }
/-- [I -/
def k15 : Class := { plain "[I" (some 0) with kind := .array 14 .int, interfaces := #[11, 3], accessFlags := 1041 }

/-- the primitive long -/
def k16 : Class := { plain "long" none with kind := .primitive 'J', accessFlags := 0x411 }
/-- [J -/
def k17 : Class := { plain "[J" (some 0) with kind := .array 16 .long, interfaces := #[11, 3], accessFlags := 1041 }

def heap : Heap := #[]
def classes : Array Class := #[k0, k1, k2, k3, k4, k5, k6, k7, k8, k9, k10, k11, k12, k13, k14, k15, k16, k17]
def interned : List (Array UInt16 × Addr) := []
def slotsUsed : Nat := 0
def theMethod : MethodId := ⟨1, 2⟩
def args0 : Array Value := #[.long 70, .long 7, .long 9, .long 11, .long 3, .int 15]
def aboutOver (below : List Frame) : State where
  vm := { classes := classes, interned := interned.toArray }
  heap := heap
  slotsUsed := slotsUsed
  threads := #[{ frames := .invoking theMethod args0 :: below }]
def below0 : List Frame := [.native { method := ⟨0, 0⟩, args := #[] }]
def about1 : State := aboutOver below0
def p0 : Program := .bare "" "" ""
def e0 : Env := launch0.env 0 0 0
theorem w_frames : about1.frames = Frame.invoking theMethod args0 :: below0 := rfl
set_option maxRecDepth 65536 in
theorem w_args : argsFit about1.vm theMethod args0 = true := by decide +kernel
set_option maxRecDepth 65536 in
theorem w_heap : heapFits about1 = true := by decide +kernel
set_option maxRecDepth 65536 in
theorem w_runnable : about1.curStatus? = some .runnable := by decide +kernel
set_option maxRecDepth 65536 in
theorem w_alone : about1.alone = true := by decide +kernel
set_option maxRecDepth 65536 in
theorem w_named : about1.methodNamed? x = some theMethod := by decide +kernel
set_option maxRecDepth 65536 in
theorem w_hears : about1.hears theMethod below0 = true := by decide +kernel
set_option maxRecDepth 65536 in
theorem w_ripe : about1.ripe theMethod args0 below0 = true := by decide +kernel
theorem w_running : about1.status = .running := rfl
set_option maxRecDepth 65536 in
theorem w_room : about1.hasRoom e0.platform room_1 = true :=
  launch0.hasRoom_least _ room_1 (by decide +kernel) (by decide +kernel) (by decide +kernel) (by decide +kernel) (by decide +kernel) (by decide +kernel)
theorem allAtoms_all (ts : List Jvm.Cond) (a : Array Jvm.Value) (st : Jvm.State) : (allAtoms ts).before a st = ts.all (fun c => c.before a st) := by
  induction ts with
  | nil => rfl
  | cons c t ih =>
    show (Jvm.Cond.and c (allAtoms t)).before a st = _
    rw [Jvm.Cond.before_and, ih, List.all_cons]
def words1 : List Jvm.Cond := Jvm.Cond.code x code maxLocals ret :: tables_1
/-- a 'code' word, met by the world's own term for the bytes: nothing is compared byte by byte -/
theorem code_word {y : MethodName} {bytes : ByteArray} {mx : Nat} {rt : Option FieldType} {a : Array Value} {s : State} {m : MethodId} {meth : Method} {c : Code} (h1 : s.methodNamed? y = some m) (h2 : s.vm.method? m = some meth) (h3 : meth.code = some c) (h4 : c.code = bytes)
    (h5 : (c.maxLocals == mx && c.exceptionTable.isEmpty && decide (c.maxStack ≤ mostOperands) && decide (meth.sig.returnType = rt) && !meth.locks && decide (parseMethodDescriptor y.desc = some meth.sig)) = true) : (Jvm.Cond.code y bytes mx rt).before a s = true := by
  simp only [Bool.and_eq_true, beq_iff_eq, Bool.not_eq_true', decide_eq_true_eq] at h5
  obtain ⟨⟨⟨⟨⟨g1, g2⟩, g3⟩, g4⟩, g5⟩, g6⟩ := h5
  simp [Cond.before, Cond.holds, Cond.value, h1, h2, h3, h4, g1, g2, g3, g4, g5, g6]
def isCode : Jvm.Cond → Bool
  | .code _ _ _ _ => true
  | _ => false
theorem all_split {L : List Jvm.Cond} {P : Jvm.Cond → Bool} (h1 : L.all (fun c => isCode c || P c) = true) (h2 : ∀ c ∈ L.filter isCode, P c = true) : L.all P = true := by
  refine List.all_eq_true.mpr fun c hc => ?_
  have h := List.all_eq_true.mp h1 c hc
  rcases Bool.eq_false_or_eq_true (isCode c) with hi | hi
  · exact h2 c (List.mem_filter.mpr ⟨hc, hi⟩)
  · simpa [hi] using h
set_option maxRecDepth 65536 in
theorem w_c0 : (Jvm.Cond.code x code maxLocals ret).before args0 about1 = true := code_word (m := ⟨1, 2⟩) (meth := k1m2) (c := k1c2) (by decide +kernel) rfl rfl rfl (by decide +kernel)
set_option maxRecDepth 65536 in
theorem w_c1 : (Jvm.Cond.code ({ cls := "com/example/malla/malla/arrays/BitArrayBitCountPinLaw", name := "idx", desc := "(JJ)J" } : Jvm.MethodName) method_2_code (4 : Nat) (Option.some Jvm.ClassFile.FieldType.long)).before args0 about1 = true := code_word (m := ⟨1, 1⟩) (meth := k1m1) (c := k1c1) (by decide +kernel) rfl rfl rfl (by decide +kernel)
set_option maxRecDepth 65536 in
theorem w_c2 : (Jvm.Cond.code ({ cls := "com/example/malla/malla/arrays/BitArray", name := "<init>", desc := "(J)V" } : Jvm.MethodName) prog_2_method_1_code (3 : Nat) (Option.none : Option Jvm.ClassFile.FieldType)).before args0 about1 = true := code_word (m := ⟨2, 0⟩) (meth := k2m0) (c := k2c0) (by decide +kernel) rfl rfl rfl (by decide +kernel)
set_option maxRecDepth 65536 in
theorem w_c3 : (Jvm.Cond.code ({ cls := "java/lang/Object", name := "<init>", desc := "()V" } : Jvm.MethodName) object_method_1_code (1 : Nat) (Option.none : Option Jvm.ClassFile.FieldType)).before args0 about1 = true := code_word (m := ⟨0, 0⟩) (meth := k0m0) (c := k0c0) (by decide +kernel) rfl rfl rfl (by decide +kernel)
set_option maxRecDepth 65536 in
theorem w_c4 : (Jvm.Cond.code ({ cls := "com/example/malla/malla/arrays/BitArray", name := "checkSize", desc := "(J)V" } : Jvm.MethodName) prog_2_method_21_code (2 : Nat) (Option.none : Option Jvm.ClassFile.FieldType)).before args0 about1 = true := code_word (m := ⟨2, 3⟩) (meth := k2m3) (c := k2c3) (by decide +kernel) rfl rfl rfl (by decide +kernel)
set_option maxRecDepth 65536 in
theorem w_c5 : (Jvm.Cond.code ({ cls := "com/example/malla/malla/arrays/BitArray", name := "wordCount", desc := "(J)I" } : Jvm.MethodName) prog_2_method_23_code (2 : Nat) (Option.some Jvm.ClassFile.FieldType.int)).before args0 about1 = true := code_word (m := ⟨2, 4⟩) (meth := k2m4) (c := k2c4) (by decide +kernel) rfl rfl rfl (by decide +kernel)
set_option maxRecDepth 65536 in
theorem w_c6 : (Jvm.Cond.code ({ cls := "com/example/malla/malla/arrays/BitArray", name := "bitCount", desc := "()J" } : Jvm.MethodName) prog_2_method_9_code (8 : Nat) (Option.some Jvm.ClassFile.FieldType.long)).before args0 about1 = true := code_word (m := ⟨2, 2⟩) (meth := k2m2) (c := k2c2) (by decide +kernel) rfl rfl rfl (by decide +kernel)
set_option maxRecDepth 65536 in
theorem w_c7 : (Jvm.Cond.code ({ cls := "java/lang/Long", name := "bitCount", desc := "(J)I" } : Jvm.MethodName) jdk_35_method_50_code (2 : Nat) (Option.some Jvm.ClassFile.FieldType.int)).before args0 about1 = true := code_word (m := ⟨8, 0⟩) (meth := k8m0) (c := k8c0) (by decide +kernel) rfl rfl rfl (by decide +kernel)
set_option maxRecDepth 65536 in
theorem w_c8 : (Jvm.Cond.code ({ cls := "com/example/malla/malla/arrays/BitArray", name := "set", desc := "(J)V" } : Jvm.MethodName) prog_2_method_5_code (3 : Nat) (Option.none : Option Jvm.ClassFile.FieldType)).before args0 about1 = true := code_word (m := ⟨2, 1⟩) (meth := k2m1) (c := k2c1) (by decide +kernel) rfl rfl rfl (by decide +kernel)
set_option maxRecDepth 65536 in
theorem w_c9 : (Jvm.Cond.code ({ cls := "java/util/Objects", name := "checkIndex", desc := "(JJ)J" } : Jvm.MethodName) jdk_31_method_20_code (4 : Nat) (Option.some Jvm.ClassFile.FieldType.long)).before args0 about1 = true := code_word (m := ⟨9, 1⟩) (meth := k9m1) (c := k9c1) (by decide +kernel) rfl rfl rfl (by decide +kernel)
set_option maxRecDepth 65536 in
theorem w_c10 : (Jvm.Cond.code ({ cls := "jdk/internal/util/Preconditions", name := "checkIndex", desc := "(JJLjava/util/function/BiFunction;)J" } : Jvm.MethodName) jdk_41_method_14_code (5 : Nat) (Option.some Jvm.ClassFile.FieldType.long)).before args0 about1 = true := code_word (m := ⟨10, 1⟩) (meth := k10m1) (c := k10c1) (by decide +kernel) rfl rfl rfl (by decide +kernel)
def codes1 : List Jvm.Cond := [Jvm.Cond.code x code maxLocals ret, Jvm.Cond.code ({ cls := "com/example/malla/malla/arrays/BitArrayBitCountPinLaw", name := "idx", desc := "(JJ)J" } : Jvm.MethodName) method_2_code (4 : Nat) (Option.some Jvm.ClassFile.FieldType.long), Jvm.Cond.code ({ cls := "com/example/malla/malla/arrays/BitArray", name := "<init>", desc := "(J)V" } : Jvm.MethodName) prog_2_method_1_code (3 : Nat) (Option.none : Option Jvm.ClassFile.FieldType), Jvm.Cond.code ({ cls := "java/lang/Object", name := "<init>", desc := "()V" } : Jvm.MethodName) object_method_1_code (1 : Nat) (Option.none : Option Jvm.ClassFile.FieldType), Jvm.Cond.code ({ cls := "com/example/malla/malla/arrays/BitArray", name := "checkSize", desc := "(J)V" } : Jvm.MethodName) prog_2_method_21_code (2 : Nat) (Option.none : Option Jvm.ClassFile.FieldType), Jvm.Cond.code ({ cls := "com/example/malla/malla/arrays/BitArray", name := "wordCount", desc := "(J)I" } : Jvm.MethodName) prog_2_method_23_code (2 : Nat) (Option.some Jvm.ClassFile.FieldType.int), Jvm.Cond.code ({ cls := "com/example/malla/malla/arrays/BitArray", name := "bitCount", desc := "()J" } : Jvm.MethodName) prog_2_method_9_code (8 : Nat) (Option.some Jvm.ClassFile.FieldType.long), Jvm.Cond.code ({ cls := "java/lang/Long", name := "bitCount", desc := "(J)I" } : Jvm.MethodName) jdk_35_method_50_code (2 : Nat) (Option.some Jvm.ClassFile.FieldType.int), Jvm.Cond.code ({ cls := "com/example/malla/malla/arrays/BitArray", name := "set", desc := "(J)V" } : Jvm.MethodName) prog_2_method_5_code (3 : Nat) (Option.none : Option Jvm.ClassFile.FieldType), Jvm.Cond.code ({ cls := "java/util/Objects", name := "checkIndex", desc := "(JJ)J" } : Jvm.MethodName) jdk_31_method_20_code (4 : Nat) (Option.some Jvm.ClassFile.FieldType.long), Jvm.Cond.code ({ cls := "jdk/internal/util/Preconditions", name := "checkIndex", desc := "(JJLjava/util/function/BiFunction;)J" } : Jvm.MethodName) jdk_41_method_14_code (5 : Nat) (Option.some Jvm.ClassFile.FieldType.long)]
set_option maxRecDepth 65536 in
theorem codes_eq : words1.filter isCode = codes1 := rfl
theorem w_codes : ∀ c ∈ words1.filter isCode, c.before args0 about1 = true := by
  rw [codes_eq]
  intro c hc
  simp only [codes1, List.mem_cons, List.not_mem_nil, or_false] at hc
  rcases hc with rfl | rfl | rfl | rfl | rfl | rfl | rfl | rfl | rfl | rfl | rfl
  · exact w_c0
  · exact w_c1
  · exact w_c2
  · exact w_c3
  · exact w_c4
  · exact w_c5
  · exact w_c6
  · exact w_c7
  · exact w_c8
  · exact w_c9
  · exact w_c10
set_option maxRecDepth 65536 in
theorem w_t1 : (words1.take 24).all (fun c => isCode c || c.before args0 about1) = true := by decide +kernel
set_option maxRecDepth 65536 in
theorem w_t2 : ((words1.drop 24).take 24).all (fun c => isCode c || c.before args0 about1) = true := by decide +kernel
set_option maxRecDepth 65536 in
theorem w_t3 : ((words1.drop 24).drop 24).all (fun c => isCode c || c.before args0 about1) = true := by decide +kernel
theorem w_tables : (allAtoms (Jvm.Cond.code x code maxLocals ret :: tables_1)).before args0 about1 = true := by
  rw [allAtoms_all]
  show words1.all (fun c => c.before args0 about1) = true
  refine all_split ?_ w_codes
  rw [← List.take_append_drop 24 words1, List.all_append, w_t1, ← List.take_append_drop 24 (words1.drop 24), List.all_append, w_t2, w_t3]
  rfl
set_option maxRecDepth 65536 in
theorem w_case : (Jvm.Cond.and given_1 narrow_1).before args0 about1 = true := by decide +kernel
theorem w_applies : (headSpec (Jvm.Cond.code x code maxLocals ret :: tables_1) room_1).applies x e0.platform about1 = true :=
  (Spec.applies_iff w_frames).mpr ⟨w_running, w_runnable, w_alone, w_named, w_hears, w_ripe, w_room, w_tables⟩
theorem atStart : AtStart classFile x code maxLocals ret World_1 tables_1 room_1 Calls_1 rest_1 Pre_1 launch0 p0 e0 about1 theMethod args0 below0 :=
  ⟨lists_1, trivial, launch0.admits_env _ _ _, launch0.least_env, fairChoices_fair.cas, fairChoices_fair.clock, w_frames, w_args, w_heap, w_applies, trivial, trivial, w_case⟩
end start1
theorem witness_1 : WitnessClaimed_1 := ⟨start1.p0, start1.e0, start1.about1, start1.theMethod, start1.args0, start1.below0, start1.atStart⟩
end Jvm.Pilot.@@N@@
