import JvmDerived
import JvmDerived.Pilot.@@N@@Statement
import JvmDerived.Pilot.@@N@@Code
set_option linter.unusedVariables false
set_option linter.unusedSimpArgs false
namespace Jvm.RoadKit
open Sem ClassFile Op Lib Jvm.Stand Jvm.Free Jvm.LawKit
section New
variable {p : Program} {l : Launch} {e : Env} {R : Room} {s : State} {m : MethodId} {args : Array Value} {below : List Frame} {meth : Method} {c : Code} {T : State} {locs : List Loc} {cells slots : Nat}
theorem retI (X : Stand p l e R s m args below meth c T locs cells slots) (hx : p.tables.exec = Jvm.exec) {pc : Nat} {Ls : Array Slot} {z : Int32} {rest : List Value} (hret : meth.sig.returnType = some .int) (hd : decode c.code pc = .ok (.ireturn, 1)) {fs : List Frame}
    (hl : ∀ (f : JFrame) (acts : List Action), f.method = m → f.locked = none → f.entered = [] → (doReturn e (T.setTop f) acts (some (.int z))).1 = T.setFrames fs) : Steps p.tables e below (T.setTop (mkF m pc Ls (.int z :: rest))) (T.setFrames fs) := by
  have hm' : T.vm.method? m = some meth := X.method'
  have hn : narrow .int (.int z) = .int z := rfl
  show Steps p.tables e below (T.setTop { method := m, pc := pc, locals := Ls, stack := _ :: rest, locked := none }) _
  jvm_step X.here [X.here.top, hx, hd, hm', hret, hn]
  first | (intro acts; rw [hl _ acts rfl rfl rfl]) | rw [hl _ _ rfl rfl rfl]
  exact Steps.refl _
theorem retL (X : Stand p l e R s m args below meth c T locs cells slots) (hx : p.tables.exec = Jvm.exec) {pc : Nat} {Ls : Array Slot} {z : Int64} {rest : List Value} (hret : meth.sig.returnType = some .long) (hd : decode c.code pc = .ok (.lreturn, 1)) {fs : List Frame}
    (hl : ∀ (f : JFrame) (acts : List Action), f.method = m → f.locked = none → f.entered = [] → (doReturn e (T.setTop f) acts (some (.long z))).1 = T.setFrames fs) : Steps p.tables e below (T.setTop (mkF m pc Ls (.long z :: rest))) (T.setFrames fs) := by
  have hm' : T.vm.method? m = some meth := X.method'
  show Steps p.tables e below (T.setTop { method := m, pc := pc, locals := Ls, stack := _ :: rest, locked := none }) _
  jvm_step X.here [X.here.top, hx, hd, hm', hret, narrow]
  first | (intro acts; rw [hl _ acts rfl rfl rfl]) | rw [hl _ _ rfl rfl rfl]
  exact Steps.refl _
theorem retR (X : Stand p l e R s m args below meth c T locs cells slots) (hx : p.tables.exec = Jvm.exec) {pc : Nat} {Ls : Array Slot} {z : Value} {rest : List Value} {ty : FieldType} (hz : z.isRef = true) (hty : ty.isReference = true) (hret : meth.sig.returnType = some ty) (hd : decode c.code pc = .ok (.areturn, 1)) {fs : List Frame}
    (hl : ∀ (f : JFrame) (acts : List Action), f.method = m → f.locked = none → f.entered = [] → (doReturn e (T.setTop f) acts (some z)).1 = T.setFrames fs) : Steps p.tables e below (T.setTop (mkF m pc Ls (z :: rest))) (T.setFrames fs) := by
  have hm' : T.vm.method? m = some meth := X.method'
  show Steps p.tables e below (T.setTop { method := m, pc := pc, locals := Ls, stack := _ :: rest, locked := none }) _
  jvm_step X.here [X.here.top, hx, hd, hm', hret, hz, hty]
  first | (intro acts; rw [hl _ acts rfl rfl rfl]) | rw [hl _ _ rfl rfl rfl]
  exact Steps.refl _
end New
abbrev lv (x : Int64) : Slot := .val (.long x)
abbrev un : Slot := .unset
abbrev sd : Slot := .second
/-- where the run stands, it comes to an end that G likes -/
def Go (tb : Tables) (e : Env) (below : List Frame) (G : Outcome → State → Prop) (F : State) : Prop := ∃ t o, Steps tb e below F t ∧ t.status = .running ∧ Ended t below o ∧ G o t
theorem Go.stp {tb : Tables} {e : Env} {below : List Frame} {G : Outcome → State → Prop} {F F' : State} (h : ∀ t, Steps tb e below F' t → Steps tb e below F t) (g : Go tb e below G F') : Go tb e below G F := by
  obtain ⟨t, o, h1, r⟩ := g
  exact ⟨t, o, h _ h1, r⟩
end Jvm.RoadKit
namespace Jvm.RoadKit
open Sem ClassFile Op Lib Jvm.Stand Jvm.Free Jvm.LawKit
/-- the array at a has n places of the sort ty; place j holds f j -/
def Ia {α : Type} (Z : State) (h : Heap) (a : Addr) (ty : FieldType) (n : Nat) (mk : α → Value) (f : Nat → α) : Prop := ∃ c : Cell, Arr Z h a c ty ∧ c.slots.size = n ∧ n < 2147483648 ∧ ∀ j, j < n → c.slots[j]? = some (mk (f j))
def upf {α : Type} (f : Nat → α) (i : Nat) (x : α) : Nat → α := fun j => if j = i then x else f j
theorem upf_same {α : Type} (f : Nat → α) (i : Nat) (x : α) : upf f i x i = x := by simp [upf]
theorem upf_ne {α : Type} (f : Nat → α) (i j : Nat) (x : α) (h : j ≠ i) : upf f i x j = f j := by simp [upf, h]
section IaS
variable {α : Type} {Z : State} {h h' : Heap} {a b : Addr} {ty : FieldType} {n sl : Nat} {mk : α → Value} {f : Nat → α} {v : Value} {ws : List Addr}
theorem Ia.lt (F : Ia Z h a ty n mk f) : a < h.size := by obtain ⟨c, A, -⟩ := F; exact A.lt
theorem Ia.ext (F : Ia Z h a ty n mk f) (E : Ext h h') : Ia Z h' a ty n mk f := by obtain ⟨c, A, r⟩ := F; exact ⟨c, A.ext E, r⟩
theorem Ia.other (F : Ia Z h b ty n mk f) (W : Wr h h' a sl v) (q : b ≠ a) : Ia Z h' b ty n mk f := by obtain ⟨c, A, r⟩ := F; exact ⟨c, A.other W q, r⟩
theorem Ia.keep (F : Ia Z h a ty n mk f) (K : Keep h h' ws) (q : a ∉ ws) : Ia Z h' a ty n mk f := by obtain ⟨c, A, r⟩ := F; exact ⟨c, ⟨K.2.1 a c A.1 q, A.2⟩, r⟩
theorem Ia.new {k : ClassId} {z : Int32} {x : α} (A : Arr Z h a (newA k ty z) ty) (hz : z.toNatClampNeg = n) (hn : n < 2147483648) (hx : defaultValue ty = mk x) : Ia Z h a ty n mk (fun _ => x) := by
  refine ⟨_, A, by rw [sz_new, hz], hn, fun j hj => ?_⟩
  simp [newA, hz, hj, hx]
theorem Ia.set {x : α} {j : Int32} {i : Nat} (F : Ia Z h a ty n mk f) (W : Wr h h' a j.toNatClampNeg (mk x)) (hj : j.toNatClampNeg = i) : Ia Z h' a ty n mk (upf f i x) := by
  obtain ⟨c, A, s1, s2, s3⟩ := F
  refine ⟨_, A.same W, by simpa [Cell.setSlot] using s1, s2, fun k hk => ?_⟩
  subst hj
  have q := s3 k hk
  simp only [Cell.setSlot, upf]
  by_cases e : k = j.toNatClampNeg
  · subst e
    rw [Array.getElem?_setIfInBounds_self]
    simp [s1, hk]
  · rw [Array.getElem?_setIfInBounds_ne (by omega), q]
    simp [e]
end IaS
theorem in_of {c : Cell} {n : Nat} {j : Int32} (S : c.slots.size = n) (h : 0 ≤ j.toInt ∧ j.toInt < n) : ¬ (j < 0 ∨ c.slots.size ≤ j.toNatClampNeg) := by
  rw [S, Int32.lt_iff_toInt_lt]
  have e0 : (0 : Int32).toInt = 0 := rfl
  simp only [Int32.toNatClampNeg]
  omega
theorem at_of {n : Nat} {j : Int32} (h : 0 ≤ j.toInt ∧ j.toInt < n) : j.toNatClampNeg < n := by
  simp only [Int32.toNatClampNeg]
  omega
end Jvm.RoadKit
namespace Jvm.RoadKit
open Sem ClassFile Op Lib Jvm.Stand Jvm.Free Jvm.LawKit
theorem sta_keep {Z : State} {h h' : Heap} {a : Addr} {C C' n d : String} {v : Value} (F : Sta Z h C n d v) (K : Keep h h' [a]) (E : Exa Z h a C') : Sta Z h' C n d v := by
  obtain ⟨cf, i, k, f, st, cell, h1, h2, h3, h4, h5, h6, h7⟩ := F
  obtain ⟨ce, ke, g1, g2, g3, g4, g5⟩ := E
  refine ⟨cf, i, k, f, st, cell, h1, h2, h3, h4, K.2.1 st cell h5 (fun q => ?_), h6, h7⟩
  rw [List.mem_singleton.mp q, g1] at h5
  rw [Option.some.inj h5] at g4
  rw [g4] at h6
  cases h6
end Jvm.RoadKit
namespace Jvm.RoadKit
open Sem ClassFile Op Lib Jvm.Stand Jvm.Free Jvm.LawKit
theorem sel_priv {s : State} {args : Array Value} {y : MethodName} {n : Nat} (hi : (Jvm.Cond.instantiable y.cls n).before args s = true) (hpriv : s.PrivateAt y) (hinst : (Jvm.Cond.instanceMethod y).before args s = true) (hy : y.cls ≠ "java/lang/invoke/MethodHandle" ∧ y.cls ≠ "java/lang/invoke/VarHandle") : (Jvm.Cond.selects y.cls y y).before args s = true := by
  cases hc : s.vm.findClass y.cls with
  | none => simp [Jvm.Cond.before, Jvm.Cond.holds, Jvm.Cond.value, hc] at hi
  | some c =>
    cases hk : s.vm.classes[c]? with
    | none => simp [Jvm.Cond.before, Jvm.Cond.holds, Jvm.Cond.value, hc, hk] at hi
    | some k =>
      refine selects_self_of_private hc hk ?_ hpriv hinst hy
      simp [Jvm.Cond.before, Jvm.Cond.holds, Jvm.Cond.value, hc, hk] at hi
      cases hq : k.isInterface with
      | false => rfl
      | true => simp [hq] at hi
end Jvm.RoadKit
namespace Jvm.Pilot.@@N@@
open Jvm Jvm.ClassFile Sem Op Lib Jvm.Free Jvm.Stand Jvm.LawKit Jvm.RoadKit Bundle Jvm.Pilot.@@N@@.Jvm.D
def own_max (a b : Int32) : Int32 := if a < b then b else a
def own_i : Nat → Int32
  | 0 => 0
  | u + 1 => own_i u + (1 : Int32)
theorem own_iv (u : Nat) (h : u < 1000) : (own_i u).toInt = u := by
  induction u with
  | zero => rfl
  | succ u ih =>
    have q := ih (by omega)
    have a := c_iadd (own_i u) 1
    have r := rng32 (own_i u + 1)
    have e1 : (1 : Int32).toInt = 1 := by decide
    show (own_i u + 1).toInt = _
    omega
theorem own_in (u : Nat) (h : u < 1000) : (own_i u).toNatClampNeg = u := by
  have q := own_iv u h
  simp only [Int32.toNatClampNeg]
  omega
def own_it (h M : Int32) : Nat → Int32
  | 0 => h
  | u + 1 => (own_it h M u + (1 : Int32)) &&& M
theorem own_pig (F : List Nat) : ∀ (f : Nat → Nat), (∀ u v, u ≤ F.length → v ≤ F.length → f u = f v → u = v) → ∃ v, v ≤ F.length ∧ f v ∉ F := by
  induction F with
  | nil => intro f _; exact ⟨0, Nat.le_refl _, by simp⟩
  | cons a F ih =>
    intro f hf
    by_cases hw : ∃ w, w ≤ F.length + 1 ∧ f w = a
    · obtain ⟨w, hw1, hw2⟩ := hw
      obtain ⟨v, hv1, hv2⟩ := ih (fun u => if u < w then f u else f (u + 1)) (by
        intro u v hu hv
        simp only [List.length_cons] at hf
        by_cases h1 : u < w
        · by_cases h2 : v < w
          · simp only [h1, h2, if_true]; exact fun q => hf u v (by omega) (by omega) q
          · simp only [h1, h2, if_true, if_false]; intro q; have := hf u (v + 1) (by omega) (by omega) q; omega
        · by_cases h2 : v < w
          · simp only [h1, h2, if_true, if_false]; intro q; have := hf (u + 1) v (by omega) (by omega) q; omega
          · simp only [h1, h2, if_false]; intro q; have := hf (u + 1) (v + 1) (by omega) (by omega) q; omega)
      simp only [List.length_cons] at hf ⊢
      by_cases h1 : v < w
      · simp only [h1, if_true] at hv2
        refine ⟨v, by omega, ?_⟩
        rw [List.mem_cons]
        rintro (q | q)
        · have := hf v w (by omega) hw1 (q.trans hw2.symm); omega
        · exact hv2 q
      · simp only [h1, if_false] at hv2
        refine ⟨v + 1, by omega, ?_⟩
        rw [List.mem_cons]
        rintro (q | q)
        · have := hf (v + 1) w (by omega) hw1 (q.trans hw2.symm); omega
        · exact hv2 q
    · simp only [List.length_cons] at hf ⊢
      obtain ⟨v, hv1, hv2⟩ := ih f (fun u v hu hv q => hf u v (by omega) (by omega) q)
      refine ⟨v, by omega, ?_⟩
      rw [List.mem_cons]
      rintro (q | q)
      · exact hw ⟨v, by omega, q⟩
      · exact hv2 q
theorem own_least (Q : Nat → Prop) (n : Nat) (h : Q n) : ∃ t, t ≤ n ∧ Q t ∧ ∀ u, u < t → ¬ Q u := by
  induction n using Nat.strongRecOn with
  | _ n ih =>
    by_cases hu : ∃ u, u < n ∧ Q u
    · obtain ⟨u, h1, h2⟩ := hu
      obtain ⟨t, t1, t2, t3⟩ := ih u h1 h2
      exact ⟨t, by omega, t2, t3⟩
    · exact ⟨n, Nat.le_refl _, h, fun u h1 h2 => hu ⟨u, h1, h2⟩⟩
def Stop (R : Nat → Int32) (I : Nat → Int64) (p : Nat → Nat) (x : Int64) (t : Nat) : Prop := (∀ u, u < t → R (p u) ≠ (-1 : Int32) ∧ I (p u) ≠ x) ∧ (R (p t) = (-1 : Int32) ∨ I (p t) = x)
def updm (m : Int64 → Int32) (x : Int64) (r : Int32) : Int64 → Int32 := fun y => if y = x then r else m y
def Rep (N : Nat) (P : Int64 → Nat → Nat) (R : Nat → Int32) (I : Nat → Int64) (m : Int64 → Int32) (F : List Nat) : Prop :=
  (∀ i, i < N → R i ≠ (-1 : Int32) → i ∈ F) ∧ (∀ x, ∃ t, t < N ∧ Stop R I (P x) x t ∧ R (P x t) = m x) ∧ (∀ i, i < N → R i ≠ (-1 : Int32) → m (I i) = R i)
theorem rep_nil (N : Nat) (P : Int64 → Nat → Nat) (I : Nat → Int64) (hN : 0 < N) : Rep N P (fun _ => (-1 : Int32)) I (fun _ => (-1 : Int32)) [] :=
  ⟨fun i _ h => absurd rfl h, fun x => ⟨0, hN, ⟨fun u h => absurd h (Nat.not_lt_zero _), Or.inl rfl⟩, rfl⟩, fun i _ h => absurd rfl h⟩
theorem rep_add {N : Nat} {P : Int64 → Nat → Nat} {R : Nat → Int32} {I : Nat → Int64} {m : Int64 → Int32} {F : List Nat} (h : Rep N P R I m F) (hP : ∀ x u, P x u < N) (hI : ∀ x u v, u < N → v < N → P x u = P x v → u = v) (hF : F.length + 1 < N) {x : Int64} {r : Int32} (hr : r ≠ (-1 : Int32)) {t : Nat} (hs : Stop R I (P x) x t) (he : R (P x t) = (-1 : Int32)) (ht : t < N) (hm : m x = (-1 : Int32)) :
    Rep N P (upf R (P x t) r) (upf I (P x t) x) (updm m x r) (P x t :: F) := by
  obtain ⟨h1, h2, h3⟩ := h
  have k1 : ∀ i, i < N → upf R (P x t) r i ≠ (-1 : Int32) → i ∈ P x t :: F := by
    intro i hi hn
    by_cases e : i = P x t
    · rw [e]; exact List.mem_cons_self
    · rw [upf_ne _ _ _ _ e] at hn; exact List.mem_cons_of_mem _ (h1 i hi hn)
  have k3 : ∀ i, i < N → upf R (P x t) r i ≠ (-1 : Int32) → updm m x r (upf I (P x t) x i) = upf R (P x t) r i := by
    intro i hi hn
    by_cases e : i = P x t
    · rw [e, upf_same, upf_same]; simp [updm]
    · rw [upf_ne _ _ _ _ e] at hn ⊢
      rw [upf_ne _ _ _ _ e]
      have q := h3 i hi hn
      unfold updm
      split
      · rename_i ei
        rw [ei, hm] at q
        exact absurd q.symm hn
      · exact q
  refine ⟨k1, fun y => ?_, k3⟩
  obtain ⟨s, s1, s2, s3⟩ := h2 y
  have far : ∀ u, u < s → P y u ≠ P x t := fun u hu q => (s2.1 u hu).1 (by rw [q]; exact he)
  by_cases hy : y = x
  · subst hy
    refine ⟨t, ht, ⟨fun u hu => ?_, Or.inr (upf_same _ _ _)⟩, by rw [upf_same]; simp [updm]⟩
    have q : P y u ≠ P y t := fun q => (hs.1 u hu).1 (by rw [q]; exact he)
    rw [upf_ne _ _ _ _ q, upf_ne _ _ _ _ q]
    exact hs.1 u hu
  · have um : updm m x r y = m y := by simp [updm, hy]
    by_cases hq : P y s = P x t
    · have my : m y = (-1 : Int32) := by rw [← s3, hq]; exact he
      obtain ⟨v, v1, v2⟩ := own_pig (P x t :: F) (P y) (fun a b ha hb => hI y a b (by simp only [List.length_cons] at ha; omega) (by simp only [List.length_cons] at hb; omega))
      simp only [List.length_cons] at v1
      have ve : upf R (P x t) r (P y v) = (-1 : Int32) := by
        cases Decidable.em (upf R (P x t) r (P y v) = (-1 : Int32)) with
        | inl q => exact q
        | inr q => exact absurd (k1 _ (hP y v) q) v2
      obtain ⟨w, w1, w2, w3⟩ := own_least (fun u => upf R (P x t) r (P y u) = (-1 : Int32) ∨ upf I (P x t) x (P y u) = y) v (Or.inl ve)
      refine ⟨w, by omega, ⟨fun u hu => ⟨fun q => w3 u hu (Or.inl q), fun q => w3 u hu (Or.inr q)⟩, w2⟩, ?_⟩
      rw [um, my]
      cases Decidable.em (upf R (P x t) r (P y w) = (-1 : Int32)) with
      | inl q => exact q
      | inr q =>
        have z := k3 _ (hP y w) q
        rcases w2 with w2 | w2
        · exact absurd w2 q
        · rw [w2, um, my] at z
          exact absurd z.symm q
    · refine ⟨s, s1, ⟨fun u hu => ?_, ?_⟩, ?_⟩
      · rw [upf_ne _ _ _ _ (far u hu), upf_ne _ _ _ _ (far u hu)]
        exact s2.1 u hu
      · rw [upf_ne _ _ _ _ hq, upf_ne _ _ _ _ hq]
        exact s2.2
      · rw [upf_ne _ _ _ _ hq, um]
        exact s3
theorem own_fs {g : Nat → Int32} {u : Nat} {x : Int32} (h : ∀ j, j < u → g j = x) (hu : u < 1000) : ∀ j, j < u + 1 → upf g (own_i u).toNatClampNeg x j = x := by
  rw [own_in u hu]
  intro j hj
  by_cases e : j = u
  · rw [e, upf_same]
  · rw [upf_ne _ _ _ _ e]
    exact h j (by omega)
theorem Ia_cong {α : Type} {Z : State} {h : Heap} {a : Addr} {ty : FieldType} {n : Nat} {mk : α → Value} {f g : Nat → α} (F : Ia Z h a ty n mk f) (q : ∀ j, j < n → f j = g j) : Ia Z h a ty n mk g := by
  obtain ⟨c, A, s1, s2, s3⟩ := F
  exact ⟨c, A, s1, s2, fun j hj => by rw [← q j hj]; exact s3 j hj⟩
def own_hm8 (x : Int64) : Int32 := (((x * (-7046029254386353131 : Int64)).toUInt64 >>> ((61 : Int32) &&& 0x3f).toInt64.toUInt64).toInt64).toInt32
theorem own_hb8 (x : Int64) : 0 ≤ (own_hm8 x).toInt ∧ (own_hm8 x).toInt < 8 := by
  have h := c_lushr (x * (-7046029254386353131 : Int64)) 61 61 (by decide) (by decide)
  have r := rng64 (x * (-7046029254386353131 : Int64))
  unfold own_hm8
  have q := c_l2i (((x * (-7046029254386353131 : Int64)).toUInt64 >>> ((61 : Int32) &&& 0x3f).toInt64.toUInt64).toInt64)
  have r2 := rng32 ((((x * (-7046029254386353131 : Int64)).toUInt64 >>> ((61 : Int32) &&& 0x3f).toInt64.toUInt64).toInt64).toInt32)
  omega
theorem own_tv8 (h : Int32) (hb : 0 ≤ h.toInt ∧ h.toInt < 8) (u : Nat) : (own_it h ((8 : Int32) - (1 : Int32)) u).toInt = (h.toInt + u) % 8 := by
  have e1 : (1 : Int32).toInt = 1 := by decide
  have eM : ((8 : Int32) - (1 : Int32)) = (7 : Int32) := by decide
  rw [eM]
  induction u with
  | zero => show h.toInt = _; omega
  | succ u ih =>
    have a := c_mask (own_it h (7 : Int32) u + (1 : Int32)) 7 3 (by decide) (by decide)
    have b := c_iadd (own_it h (7 : Int32) u) 1
    show ((own_it h (7 : Int32) u + (1 : Int32)) &&& (7 : Int32)).toInt = _
    omega
theorem own_tb8 (x : Int64) (u : Nat) : 0 ≤ (own_it (own_hm8 x) ((8 : Int32) - (1 : Int32)) u).toInt ∧ (own_it (own_hm8 x) ((8 : Int32) - (1 : Int32)) u).toInt < ((8 : Nat) : Int) := by
  rw [own_tv8 _ (own_hb8 x)]
  omega
def own_P8 (x : Int64) (u : Nat) : Nat := (own_it (own_hm8 x) ((8 : Int32) - (1 : Int32)) u).toNatClampNeg
theorem own_Pl8 (x : Int64) (u : Nat) : own_P8 x u < 8 := at_of (own_tb8 x u)
theorem own_Pi8 (x : Int64) (u v : Nat) (hu : u < 8) (hv : v < 8) (q : own_P8 x u = own_P8 x v) : u = v := by
  have a := own_tv8 _ (own_hb8 x) u
  have b := own_tv8 _ (own_hb8 x) v
  have c := own_hb8 x
  unfold own_P8 at q
  simp only [Int32.toNatClampNeg] at q
  omega
def own_hm16 (x : Int64) : Int32 := (((x * (-7046029254386353131 : Int64)).toUInt64 >>> ((60 : Int32) &&& 0x3f).toInt64.toUInt64).toInt64).toInt32
theorem own_hb16 (x : Int64) : 0 ≤ (own_hm16 x).toInt ∧ (own_hm16 x).toInt < 16 := by
  have h := c_lushr (x * (-7046029254386353131 : Int64)) 60 60 (by decide) (by decide)
  have r := rng64 (x * (-7046029254386353131 : Int64))
  unfold own_hm16
  have q := c_l2i (((x * (-7046029254386353131 : Int64)).toUInt64 >>> ((60 : Int32) &&& 0x3f).toInt64.toUInt64).toInt64)
  have r2 := rng32 ((((x * (-7046029254386353131 : Int64)).toUInt64 >>> ((60 : Int32) &&& 0x3f).toInt64.toUInt64).toInt64).toInt32)
  omega
theorem own_tv16 (h : Int32) (hb : 0 ≤ h.toInt ∧ h.toInt < 16) (u : Nat) : (own_it h ((16 : Int32) - (1 : Int32)) u).toInt = (h.toInt + u) % 16 := by
  have e1 : (1 : Int32).toInt = 1 := by decide
  have eM : ((16 : Int32) - (1 : Int32)) = (15 : Int32) := by decide
  rw [eM]
  induction u with
  | zero => show h.toInt = _; omega
  | succ u ih =>
    have a := c_mask (own_it h (15 : Int32) u + (1 : Int32)) 15 4 (by decide) (by decide)
    have b := c_iadd (own_it h (15 : Int32) u) 1
    show ((own_it h (15 : Int32) u + (1 : Int32)) &&& (15 : Int32)).toInt = _
    omega
theorem own_tb16 (x : Int64) (u : Nat) : 0 ≤ (own_it (own_hm16 x) ((16 : Int32) - (1 : Int32)) u).toInt ∧ (own_it (own_hm16 x) ((16 : Int32) - (1 : Int32)) u).toInt < ((16 : Nat) : Int) := by
  rw [own_tv16 _ (own_hb16 x)]
  omega
def own_P16 (x : Int64) (u : Nat) : Nat := (own_it (own_hm16 x) ((16 : Int32) - (1 : Int32)) u).toNatClampNeg
theorem own_Pl16 (x : Int64) (u : Nat) : own_P16 x u < 16 := at_of (own_tb16 x u)
theorem own_Pi16 (x : Int64) (u v : Nat) (hu : u < 16) (hv : v < 16) (q : own_P16 x u = own_P16 x v) : u = v := by
  have a := own_tv16 _ (own_hb16 x) u
  have b := own_tv16 _ (own_hb16 x) v
  have c := own_hb16 x
  unfold own_P16 at q
  simp only [Int32.toNatClampNeg] at q
  omega
theorem own_row (x : Int32) : (x &&& (2147483647 : Int32)) ≠ (-1 : Int32) := fun q => by
  have h := c_mask x 2147483647 31 (by decide) (by decide)
  have e : (-1 : Int32).toInt = -1 := by decide
  rw [q] at h
  omega
theorem own_cap (x : Int32) : ((3 : Int32) + (x &&& (3 : Int32)) = (3 : Int32) ∨ (3 : Int32) + (x &&& (3 : Int32)) = (4 : Int32)) ∨ ((3 : Int32) + (x &&& (3 : Int32)) = (5 : Int32) ∨ (3 : Int32) + (x &&& (3 : Int32)) = (6 : Int32)) := by
  have h := c_mask x 3 2 (by decide) (by decide)
  have a := c_iadd 3 (x &&& (3 : Int32))
  have r := rng32 ((3 : Int32) + (x &&& (3 : Int32)))
  have e3 : (3 : Int32).toInt = 3 := by decide
  have e4 : (4 : Int32).toInt = 4 := by decide
  have e5 : (5 : Int32).toInt = 5 := by decide
  have e6 : (6 : Int32).toInt = 6 := by decide
  simp only [← Int32.toInt_inj]
  omega
theorem own_fin {a b c d : Int64} {r0 r1 r2 r3 : Int32} (k0 : r0 ≠ (-1 : Int32)) (k1 : r1 ≠ (-1 : Int32)) (k2 : r2 ≠ (-1 : Int32)) {m0 m1 m2 m3 m4 : Int64 → Int32} (hm0 : m0 = fun _ => (-1 : Int32)) (hm1 : m1 = (if m0 a = (-1 : Int32) then updm m0 a r0 else m0)) (hm2 : m2 = (if m1 b = (-1 : Int32) then updm m1 b r1 else m1)) (hm3 : m3 = (if m2 c = (-1 : Int32) then updm m2 c r2 else m2)) (hm4 : m4 = (if m3 a = (-1 : Int32) then updm m3 a r3 else m3)) :
    (if m0 a = (-1 : Int32) then (1 : Int32) else (0 : Int32)) = 1 ∧ (if m1 b = (-1 : Int32) then (1 : Int32) else (0 : Int32)) = (if b = a then 0 else 1) ∧ (if m2 c = (-1 : Int32) then (1 : Int32) else (0 : Int32)) = (if c = a then 0 else if c = b then 0 else 1) ∧ (if m3 a = (-1 : Int32) then (1 : Int32) else (0 : Int32)) = 0 ∧
    m4 a = r0 ∧ m4 b = (if b = a then r0 else r1) ∧ m4 c = (if c = a then r0 else if c = b then (if b = a then r0 else r1) else r2) ∧ m4 d = (if d = a then r0 else if d = b then (if b = a then r0 else r1) else if d = c then (if c = a then r0 else if c = b then (if b = a then r0 else r1) else r2) else (-1 : Int32)) := by
  have e1 : m1 = updm m0 a r0 := by rw [hm1]; exact if_pos (congrFun hm0 a)
  have z0 : ∀ y, m0 y = (-1 : Int32) := fun y => congrFun hm0 y
  have z1 : ∀ y, m1 y = if y = a then r0 else (-1 : Int32) := fun y => by rw [e1]; simp only [updm, z0]
  have z2 : ∀ y, m2 y = if y = a then r0 else if y = b then r1 else (-1 : Int32) := fun y => by
    rw [hm2]
    by_cases hb : b = a
    · subst hb
      rw [if_neg (by rw [z1]; simp [k0]), z1]
      split
      · rfl
      · rfl
    · rw [if_pos (by rw [z1]; simp [hb])]
      simp only [updm, z1]
      by_cases h1 : y = b
      · subst h1; simp [hb]
      · simp [h1]
  have z3 : ∀ y, m3 y = if y = a then r0 else if y = b then r1 else if y = c then r2 else (-1 : Int32) := fun y => by
    rw [hm3]
    by_cases hc : c = a
    · subst hc
      rw [if_neg (by rw [z2]; simp [k0]), z2]
      by_cases h1 : y = c <;> simp [h1]
    · by_cases hc2 : c = b
      · subst hc2
        rw [if_neg (by rw [z2]; simp [hc, k1]), z2]
        by_cases h1 : y = c <;> simp [h1]
      · rw [if_pos (by rw [z2]; simp [hc, hc2])]
        simp only [updm, z2]
        by_cases h1 : y = c
        · subst h1; simp [hc, hc2]
        · simp [h1]
  have e4 : m4 = m3 := by rw [hm4]; exact if_neg (by rw [z3]; simp [k0])
  refine ⟨by simp [z0], ?_, ?_, ?_, ?_, ?_, ?_, ?_⟩
  · rw [z1]
    by_cases hb : b = a <;> simp [hb, k0]
  · rw [z2]
    by_cases hc : c = a
    · simp [hc, k0]
    · by_cases hc2 : c = b
      · subst hc2; simp [hc, k1]
      · simp [hc, hc2]
  · rw [z3]; simp [k0]
  · rw [e4, z3]; simp
  · rw [e4, z3]; simp
  · rw [e4, z3]
    by_cases hc : c = a
    · simp [hc]
    · by_cases hc2 : c = b
      · subst hc2; simp [hc]
      · simp [hc, hc2]
  · rw [e4, z3]
    by_cases h1 : d = a
    · simp [h1]
    · by_cases h2 : d = b
      · subst h2; simp [h1]
      · by_cases h3 : d = c
        · subst h3; simp [h1, h2]
        · simp [h1, h2, h3]
theorem pd_0 : parseMethodDescriptor "(II)I" = some ⟨[.int, .int], some .int⟩ := by decide +kernel
theorem pd_1 : parseMethodDescriptor "(I)I" = some ⟨[.int], some .int⟩ := by decide +kernel
theorem pd_2 : parseMethodDescriptor "([II)V" = some ⟨[(.array .int), .int], none⟩ := by decide +kernel
theorem pd_3 : parseMethodDescriptor "(J)I" = some ⟨[.long], some .int⟩ := by decide +kernel
theorem pd_4 : parseMethodDescriptor "(Lcom/example/chatterbench/chatterbench/data/Entity;I)V" = some ⟨[(.object "com/example/chatterbench/chatterbench/data/Entity"), .int], none⟩ := by decide +kernel
theorem pd_5 : parseMethodDescriptor "(JI)Z" = some ⟨[.long, .int], some .boolean⟩ := by decide +kernel
theorem d3_0 : decode jdk_29_method_65_code 0 = .ok (.iload_n 0, 1) := by decide +kernel
theorem d3_1 : decode jdk_29_method_65_code 1 = .ok (.iload_n 1, 1) := by decide +kernel
theorem d3_2 : decode jdk_29_method_65_code 2 = .ok (.if_icmp .lt 7, 3) := by decide +kernel
theorem d3_5 : decode jdk_29_method_65_code 5 = .ok (.iload_n 0, 1) := by decide +kernel
theorem d3_6 : decode jdk_29_method_65_code 6 = .ok (.goto 4, 3) := by decide +kernel
theorem d3_9 : decode jdk_29_method_65_code 9 = .ok (.iload_n 1, 1) := by decide +kernel
theorem d3_10 : decode jdk_29_method_65_code 10 = .ok (.ireturn, 1) := by decide +kernel
theorem ef_3 (m : MethodId) (p0 : Int32) (p1 : Int32) : entryFrame m #[(.int p0), (.int p1)] 2 = mkF m 0 #[iv p0, iv p1] [] := by first | (simp [entryFrame, mkF, argsToLocals, Value.category, iv, rv, lv, un, sd]; done) | rfl
def Q3 (Z : State) (p0 : Int32) (p1 : Int32) (h0 : Heap) (n0 : Nat) (v : Option Value) (h : Heap) (L : List Loc) : Prop := v = some (.int (own_max p0 p1)) ∧ Fr n0 L ∧ h = h0
set_option maxRecDepth 65536 in
set_option maxHeartbeats 40000000 in
theorem rm3 (l : Launch) (Z : State) (a0 : Array Value) (hw : ∀ d ∈ tables_1, d.before a0 Z = true) (ws : List Jvm.Cond) (p0 : Int32) (p1 : Int32) (h0 : Heap) (n0 : Nat) (Z0 : n0 ≤ h0.size) :
    MetFree l (⟨"java/lang/Math", "max", "(II)I"⟩ : MethodName) (head1 (Jvm.Cond.code (⟨"java/lang/Math", "max", "(II)I"⟩ : MethodName) jdk_29_method_65_code 2 (some .int) :: ws) ({ frames := 0, cells := 0, slots := 0, locals := 0 } : Room)) (fun a U => a = #[(.int p0), (.int p1)] ∧ Z.Warmed39 U.vm ∧ U.heap = h0) (fun _ _ _ _ _ => True) (fun _ U o U' => ∃ v L, o = .returned v ∧ Q3 Z p0 p1 h0 n0 v U'.heap L ∧ FrameEnd U o U' L ({ frames := 0, cells := 0, slots := 0, locals := 0 } : Room).cells ({ frames := 0, cells := 0, slots := 0, locals := 0 } : Room).slots) := by
  refine MetFree.of_bodySF (Jvm.Free.JP.mathPlain rfl (by decide +kernel)) hisR ?_
  intro p e s m args below meth c s₁ Bd hml0 hP hK
  obtain ⟨rfl, hZ, hh⟩ := hP
  have hx := Bd.exec
  have hby := Bd.bytes
  have hml : c.maxLocals = 2 := hml0
  have hown : s.vm.findClass "java/lang/Math" = some m.cls := findClass_of_methodNamed Bd.named
  have hnm := (name_of_methodNamed Bd.named Bd.method).1
  have X0 : Stand p l e ({ frames := 0, cells := 0, slots := 0, locals := 0 } : Room) s m #[(.int p0), (.int p1)] below meth c s₁ [] 0 0 := Stand.of_body Bd
  have e0 : s₁.heap = h0 := by rw [← hh, Bd.state]; rfl
  have N0 := Fr.nil n0
  suffices HH : ∀ G : Outcome → State → Prop, (∀ v L U', Q3 Z p0 p1 h0 n0 v U'.heap L → FrameEnd s (.returned v) U' L ({ frames := 0, cells := 0, slots := 0, locals := 0 } : Room).cells ({ frames := 0, cells := 0, slots := 0, locals := 0 } : Room).slots → G (.returned v) U') → Go p.tables e below G (s₁.setTop (mkF m 0 #[iv p0, iv p1] [])) by
    obtain ⟨s2, o, h1, h2, h3, h4⟩ := HH (fun o U' => ∃ v L, o = .returned v ∧ Q3 Z p0 p1 h0 n0 v U'.heap L ∧ FrameEnd s o U' L ({ frames := 0, cells := 0, slots := 0, locals := 0 } : Room).cells ({ frames := 0, cells := 0, slots := 0, locals := 0 } : Room).slots) (fun v L U' q f => ⟨v, L, rfl, q, f⟩)
    exact ⟨s2, o, castTop (ef_3 m p0 p1) h1, h2, h3, h4⟩
  intro G hG
  show Go p.tables e below G (s₁.setTop (mkF m 0 #[iv p0, iv p1] []))
  refine Go.stp (fun t_ k_ => XS.iloadN X0.here hx rfl (hb hby d3_0) rfl k_) ?_
  show Go p.tables e below G (s₁.setTop (mkF m 1 #[iv p0, iv p1] [(.int p0)]))
  refine Go.stp (fun t_ k_ => XS.iloadN X0.here hx rfl (hb hby d3_1) rfl k_) ?_
  show Go p.tables e below G (s₁.setTop (mkF m 2 #[iv p0, iv p1] [(.int p1), (.int p0)]))
  by_cases hc2 : p0 < p1
  · refine Go.stp (fun t_ k_ => XS.icmpYes X0.here hx rfl (pc0 := 2) (pc' := 9) rfl (hb hby d3_2) rfl (tlt hc2).1 (by decide) (by decide) k_) ?_
    show Go p.tables e below G (s₁.setTop (mkF m 9 #[iv p0, iv p1] []))
    refine Go.stp (fun t_ k_ => XS.iloadN X0.here hx rfl (hb hby d3_9) rfl k_) ?_
    show Go p.tables e below G (s₁.setTop (mkF m 10 #[iv p0, iv p1] [(.int p1)]))
    obtain ⟨fs, hr, hrun, hended, hW, hsame⟩ := X0.leave (v := some (.int p1)) (fun h => by rw [Bd.returns] at h; cases h)
    refine ⟨_, _, retI X0 hx Bd.returns (hb hby d3_10) hr, hrun, hended, hG _ _ _ ?_ ⟨⟨_, rfl⟩, hW, hsame.mono (by decide) (by decide)⟩⟩
    show Q3 Z p0 p1 h0 n0 _ s₁.heap _
    rw [e0]
    exact ⟨by simp [own_max, hc2], N0, rfl⟩
  · refine Go.stp (fun t_ k_ => XS.icmpNo X0.here hx rfl (hb hby d3_2) rfl (flt hc2).1 k_) ?_
    show Go p.tables e below G (s₁.setTop (mkF m 5 #[iv p0, iv p1] []))
    refine Go.stp (fun t_ k_ => XS.iloadN X0.here hx rfl (hb hby d3_5) rfl k_) ?_
    show Go p.tables e below G (s₁.setTop (mkF m 6 #[iv p0, iv p1] [(.int p0)]))
    refine Go.stp (fun t_ k_ => XS.goto X0.here hx rfl (pc0 := 6) (pc' := 10) rfl (hb hby d3_6) (by decide) (by decide) k_) ?_
    show Go p.tables e below G (s₁.setTop (mkF m 10 #[iv p0, iv p1] [(.int p0)]))
    obtain ⟨fs, hr, hrun, hended, hW, hsame⟩ := X0.leave (v := some (.int p0)) (fun h => by rw [Bd.returns] at h; cases h)
    refine ⟨_, _, retI X0 hx Bd.returns (hb hby d3_10) hr, hrun, hended, hG _ _ _ ?_ ⟨⟨_, rfl⟩, hW, hsame.mono (by decide) (by decide)⟩⟩
    show Q3 Z p0 p1 h0 n0 _ s₁.heap _
    rw [e0]
    exact ⟨by simp [own_max, hc2], N0, rfl⟩
theorem pn_4 : plainName "java/lang/Integer" = true := by first | (simp [plainName, overriddenIn]; done) | decide +kernel
theorem d4_0 : decode jdk_33_method_47_code 0 = .ok (.iload_n 0, 1) := by decide +kernel
theorem d4_1 : decode jdk_33_method_47_code 1 = .ok (.ifCond .gt 14, 3) := by decide +kernel
theorem d4_15 : decode jdk_33_method_47_code 15 = .ok (.bipush 31, 2) := by decide +kernel
theorem d4_17 : decode jdk_33_method_47_code 17 = .ok (.istore_n 1, 1) := by decide +kernel
theorem d4_18 : decode jdk_33_method_47_code 18 = .ok (.iload_n 0, 1) := by decide +kernel
theorem d4_19 : decode jdk_33_method_47_code 19 = .ok (.ldc_w 264, 3) := by decide +kernel
theorem d4_22 : decode jdk_33_method_47_code 22 = .ok (.if_icmp .lt 11, 3) := by decide +kernel
theorem d4_33 : decode jdk_33_method_47_code 33 = .ok (.iload_n 0, 1) := by decide +kernel
theorem d4_34 : decode jdk_33_method_47_code 34 = .ok (.sipush 256, 3) := by decide +kernel
theorem d4_37 : decode jdk_33_method_47_code 37 = .ok (.if_icmp .lt 11, 3) := by decide +kernel
theorem d4_48 : decode jdk_33_method_47_code 48 = .ok (.iload_n 0, 1) := by decide +kernel
theorem d4_49 : decode jdk_33_method_47_code 49 = .ok (.bipush 16, 2) := by decide +kernel
theorem d4_51 : decode jdk_33_method_47_code 51 = .ok (.if_icmp .lt 10, 3) := by decide +kernel
theorem d4_61 : decode jdk_33_method_47_code 61 = .ok (.iload_n 0, 1) := by decide +kernel
theorem d4_62 : decode jdk_33_method_47_code 62 = .ok (.iconst 4, 1) := by decide +kernel
theorem d4_63 : decode jdk_33_method_47_code 63 = .ok (.if_icmp .lt 10, 3) := by decide +kernel
theorem d4_66 : decode jdk_33_method_47_code 66 = .ok (.iinc 1 (-2), 3) := by decide +kernel
theorem d4_69 : decode jdk_33_method_47_code 69 = .ok (.iload_n 0, 1) := by decide +kernel
theorem d4_70 : decode jdk_33_method_47_code 70 = .ok (.iconst 2, 1) := by decide +kernel
theorem d4_71 : decode jdk_33_method_47_code 71 = .ok (.iushr, 1) := by decide +kernel
theorem d4_72 : decode jdk_33_method_47_code 72 = .ok (.istore_n 0, 1) := by decide +kernel
theorem d4_73 : decode jdk_33_method_47_code 73 = .ok (.iload_n 1, 1) := by decide +kernel
theorem d4_74 : decode jdk_33_method_47_code 74 = .ok (.iload_n 0, 1) := by decide +kernel
theorem d4_75 : decode jdk_33_method_47_code 75 = .ok (.iconst 1, 1) := by decide +kernel
theorem d4_76 : decode jdk_33_method_47_code 76 = .ok (.iushr, 1) := by decide +kernel
theorem d4_77 : decode jdk_33_method_47_code 77 = .ok (.isub, 1) := by decide +kernel
theorem d4_78 : decode jdk_33_method_47_code 78 = .ok (.ireturn, 1) := by decide +kernel
theorem ef_4_5 (m : MethodId)  : entryFrame m #[(.int (5 : Int32))] 2 = mkF m 0 #[iv (5 : Int32), un] [] := by first | (simp [entryFrame, mkF, argsToLocals, Value.category, iv, rv, lv, un, sd]; done) | rfl
def Q4_5 (Z : State)  (h0 : Heap) (n0 : Nat) (v : Option Value) (h : Heap) (L : List Loc) : Prop := v = some (.int (29 : Int32)) ∧ Fr n0 L ∧ h = h0
set_option maxRecDepth 65536 in
set_option maxHeartbeats 40000000 in
theorem rm4_5 (l : Launch) (Z : State) (a0 : Array Value) (hw : ∀ d ∈ tables_1, d.before a0 Z = true) (ws : List Jvm.Cond)  (h0 : Heap) (n0 : Nat) (Z0 : n0 ≤ h0.size) :
    MetFree l (⟨"java/lang/Integer", "numberOfLeadingZeros", "(I)I"⟩ : MethodName) (head1 (Jvm.Cond.code (⟨"java/lang/Integer", "numberOfLeadingZeros", "(I)I"⟩ : MethodName) jdk_33_method_47_code 2 (some .int) :: ws) ({ frames := 0, cells := 0, slots := 0, locals := 0 } : Room)) (fun a U => a = #[(.int (5 : Int32))] ∧ Z.Warmed39 U.vm ∧ U.heap = h0) (fun _ _ _ _ _ => True) (fun _ U o U' => ∃ v L, o = .returned v ∧ Q4_5 Z  h0 n0 v U'.heap L ∧ FrameEnd U o U' L ({ frames := 0, cells := 0, slots := 0, locals := 0 } : Room).cells ({ frames := 0, cells := 0, slots := 0, locals := 0 } : Room).slots) := by
  refine MetFree.of_bodySF (plainFor_of_name pn_4) hisR ?_
  intro p e s m args below meth c s₁ Bd hml0 hP hK
  obtain ⟨rfl, hZ, hh⟩ := hP
  have hx := Bd.exec
  have hby := Bd.bytes
  have hml : c.maxLocals = 2 := hml0
  have hown : s.vm.findClass "java/lang/Integer" = some m.cls := findClass_of_methodNamed Bd.named
  have hnm := (name_of_methodNamed Bd.named Bd.method).1
  have X0 : Stand p l e ({ frames := 0, cells := 0, slots := 0, locals := 0 } : Room) s m #[(.int (5 : Int32))] below meth c s₁ [] 0 0 := Stand.of_body Bd
  have e0 : s₁.heap = h0 := by rw [← hh, Bd.state]; rfl
  have N0 := Fr.nil n0
  suffices HH : ∀ G : Outcome → State → Prop, (∀ v L U', Q4_5 Z  h0 n0 v U'.heap L → FrameEnd s (.returned v) U' L ({ frames := 0, cells := 0, slots := 0, locals := 0 } : Room).cells ({ frames := 0, cells := 0, slots := 0, locals := 0 } : Room).slots → G (.returned v) U') → Go p.tables e below G (s₁.setTop (mkF m 0 #[iv (5 : Int32), un] [])) by
    obtain ⟨s2, o, h1, h2, h3, h4⟩ := HH (fun o U' => ∃ v L, o = .returned v ∧ Q4_5 Z  h0 n0 v U'.heap L ∧ FrameEnd s o U' L ({ frames := 0, cells := 0, slots := 0, locals := 0 } : Room).cells ({ frames := 0, cells := 0, slots := 0, locals := 0 } : Room).slots) (fun v L U' q f => ⟨v, L, rfl, q, f⟩)
    exact ⟨s2, o, castTop (ef_4_5 m ) h1, h2, h3, h4⟩
  intro G hG
  show Go p.tables e below G (s₁.setTop (mkF m 0 #[iv (5 : Int32), un] []))
  refine Go.stp (fun t_ k_ => XS.iloadN X0.here hx rfl (hb hby d4_0) rfl k_) ?_
  show Go p.tables e below G (s₁.setTop (mkF m 1 #[iv (5 : Int32), un] [(.int (5 : Int32))]))
  refine Go.stp (fun t_ k_ => XS.ifYes X0.here hx rfl (pc0 := 1) (pc' := 15) rfl (hb hby d4_1) rfl ((if0 _ _).trans (tlt (by decide : (0 : Int32) < (5 : Int32))).2.2.1) (by decide) (by decide) k_) ?_
  show Go p.tables e below G (s₁.setTop (mkF m 15 #[iv (5 : Int32), un] []))
  refine Go.stp (fun t_ k_ => XS.bipush X0.here hx rfl (hb hby d4_15) k_) ?_
  show Go p.tables e below G (s₁.setTop (mkF m 17 #[iv (5 : Int32), un] [(.int (31 : Int32))]))
  refine Go.stp (fun t_ k_ => XS.istoreN X0.here hx rfl (hb hby d4_17) rfl (l' := #[iv (5 : Int32), iv (31 : Int32)]) rfl k_) ?_
  show Go p.tables e below G (s₁.setTop (mkF m 18 #[iv (5 : Int32), iv (31 : Int32)] []))
  refine Go.stp (fun t_ k_ => XS.iloadN X0.here hx rfl (hb hby d4_18) rfl k_) ?_
  show Go p.tables e below G (s₁.setTop (mkF m 19 #[iv (5 : Int32), iv (31 : Int32)] [(.int (5 : Int32))]))
  refine Go.stp (fun t_ k_ => X0.ldcwInt hx hown (mvT hZ (hw _ (List.mem_of_getElem? (i := 20) rfl))) (g := (mkF m 19 #[iv (5 : Int32), iv (31 : Int32)] [(.int (5 : Int32))])) rfl (hb hby d4_19) t_ k_) ?_
  show Go p.tables e below G (s₁.setTop (mkF m 22 #[iv (5 : Int32), iv (31 : Int32)] [(.int (65536 : Int32)), (.int (5 : Int32))]))
  refine Go.stp (fun t_ k_ => XS.icmpYes X0.here hx rfl (pc0 := 22) (pc' := 33) rfl (hb hby d4_22) rfl (tlt (by decide : (5 : Int32) < (65536 : Int32))).1 (by decide) (by decide) k_) ?_
  show Go p.tables e below G (s₁.setTop (mkF m 33 #[iv (5 : Int32), iv (31 : Int32)] []))
  refine Go.stp (fun t_ k_ => XS.iloadN X0.here hx rfl (hb hby d4_33) rfl k_) ?_
  show Go p.tables e below G (s₁.setTop (mkF m 34 #[iv (5 : Int32), iv (31 : Int32)] [(.int (5 : Int32))]))
  refine Go.stp (fun t_ k_ => XS.sipush X0.here hx rfl (hb hby d4_34) k_) ?_
  show Go p.tables e below G (s₁.setTop (mkF m 37 #[iv (5 : Int32), iv (31 : Int32)] [(.int (256 : Int32)), (.int (5 : Int32))]))
  refine Go.stp (fun t_ k_ => XS.icmpYes X0.here hx rfl (pc0 := 37) (pc' := 48) rfl (hb hby d4_37) rfl (tlt (by decide : (5 : Int32) < (256 : Int32))).1 (by decide) (by decide) k_) ?_
  show Go p.tables e below G (s₁.setTop (mkF m 48 #[iv (5 : Int32), iv (31 : Int32)] []))
  refine Go.stp (fun t_ k_ => XS.iloadN X0.here hx rfl (hb hby d4_48) rfl k_) ?_
  show Go p.tables e below G (s₁.setTop (mkF m 49 #[iv (5 : Int32), iv (31 : Int32)] [(.int (5 : Int32))]))
  refine Go.stp (fun t_ k_ => XS.bipush X0.here hx rfl (hb hby d4_49) k_) ?_
  show Go p.tables e below G (s₁.setTop (mkF m 51 #[iv (5 : Int32), iv (31 : Int32)] [(.int (16 : Int32)), (.int (5 : Int32))]))
  refine Go.stp (fun t_ k_ => XS.icmpYes X0.here hx rfl (pc0 := 51) (pc' := 61) rfl (hb hby d4_51) rfl (tlt (by decide : (5 : Int32) < (16 : Int32))).1 (by decide) (by decide) k_) ?_
  show Go p.tables e below G (s₁.setTop (mkF m 61 #[iv (5 : Int32), iv (31 : Int32)] []))
  refine Go.stp (fun t_ k_ => XS.iloadN X0.here hx rfl (hb hby d4_61) rfl k_) ?_
  show Go p.tables e below G (s₁.setTop (mkF m 62 #[iv (5 : Int32), iv (31 : Int32)] [(.int (5 : Int32))]))
  refine Go.stp (fun t_ k_ => XS.iconst X0.here hx rfl (hb hby d4_62) k_) ?_
  show Go p.tables e below G (s₁.setTop (mkF m 63 #[iv (5 : Int32), iv (31 : Int32)] [(.int (4 : Int32)), (.int (5 : Int32))]))
  refine Go.stp (fun t_ k_ => XS.icmpNo X0.here hx rfl (hb hby d4_63) rfl (flt (by decide : ¬ ((5 : Int32) < (4 : Int32)))).1 k_) ?_
  show Go p.tables e below G (s₁.setTop (mkF m 66 #[iv (5 : Int32), iv (31 : Int32)] []))
  refine Go.stp (fun t_ k_ => XS.iinc X0.here hx rfl (hb hby d4_66) rfl (l' := #[iv (5 : Int32), iv ((31 : Int32) + (-2 : Int32))]) rfl k_) ?_
  show Go p.tables e below G (s₁.setTop (mkF m 69 #[iv (5 : Int32), iv ((31 : Int32) + (-2 : Int32))] []))
  refine Go.stp (fun t_ k_ => XS.iloadN X0.here hx rfl (hb hby d4_69) rfl k_) ?_
  show Go p.tables e below G (s₁.setTop (mkF m 70 #[iv (5 : Int32), iv ((31 : Int32) + (-2 : Int32))] [(.int (5 : Int32))]))
  refine Go.stp (fun t_ k_ => XS.iconst X0.here hx rfl (hb hby d4_70) k_) ?_
  show Go p.tables e below G (s₁.setTop (mkF m 71 #[iv (5 : Int32), iv ((31 : Int32) + (-2 : Int32))] [(.int (2 : Int32)), (.int (5 : Int32))]))
  refine Go.stp (fun t_ k_ => XS.iushr X0.here hx rfl (hb hby d4_71) rfl k_) ?_
  show Go p.tables e below G (s₁.setTop (mkF m 72 #[iv (5 : Int32), iv ((31 : Int32) + (-2 : Int32))] [(.int (((5 : Int32).toUInt32 >>> ((2 : Int32) &&& 31).toUInt32).toInt32))]))
  refine Go.stp (fun t_ k_ => XS.istoreN X0.here hx rfl (hb hby d4_72) rfl (l' := #[iv (((5 : Int32).toUInt32 >>> ((2 : Int32) &&& 31).toUInt32).toInt32), iv ((31 : Int32) + (-2 : Int32))]) rfl k_) ?_
  show Go p.tables e below G (s₁.setTop (mkF m 73 #[iv (((5 : Int32).toUInt32 >>> ((2 : Int32) &&& 31).toUInt32).toInt32), iv ((31 : Int32) + (-2 : Int32))] []))
  refine Go.stp (fun t_ k_ => XS.iloadN X0.here hx rfl (hb hby d4_73) rfl k_) ?_
  show Go p.tables e below G (s₁.setTop (mkF m 74 #[iv (((5 : Int32).toUInt32 >>> ((2 : Int32) &&& 31).toUInt32).toInt32), iv ((31 : Int32) + (-2 : Int32))] [(.int ((31 : Int32) + (-2 : Int32)))]))
  refine Go.stp (fun t_ k_ => XS.iloadN X0.here hx rfl (hb hby d4_74) rfl k_) ?_
  show Go p.tables e below G (s₁.setTop (mkF m 75 #[iv (((5 : Int32).toUInt32 >>> ((2 : Int32) &&& 31).toUInt32).toInt32), iv ((31 : Int32) + (-2 : Int32))] [(.int (((5 : Int32).toUInt32 >>> ((2 : Int32) &&& 31).toUInt32).toInt32)), (.int ((31 : Int32) + (-2 : Int32)))]))
  refine Go.stp (fun t_ k_ => XS.iconst X0.here hx rfl (hb hby d4_75) k_) ?_
  show Go p.tables e below G (s₁.setTop (mkF m 76 #[iv (((5 : Int32).toUInt32 >>> ((2 : Int32) &&& 31).toUInt32).toInt32), iv ((31 : Int32) + (-2 : Int32))] [(.int (1 : Int32)), (.int (((5 : Int32).toUInt32 >>> ((2 : Int32) &&& 31).toUInt32).toInt32)), (.int ((31 : Int32) + (-2 : Int32)))]))
  refine Go.stp (fun t_ k_ => XS.iushr X0.here hx rfl (hb hby d4_76) rfl k_) ?_
  show Go p.tables e below G (s₁.setTop (mkF m 77 #[iv (((5 : Int32).toUInt32 >>> ((2 : Int32) &&& 31).toUInt32).toInt32), iv ((31 : Int32) + (-2 : Int32))] [(.int (((((5 : Int32).toUInt32 >>> ((2 : Int32) &&& 31).toUInt32).toInt32).toUInt32 >>> ((1 : Int32) &&& 31).toUInt32).toInt32)), (.int ((31 : Int32) + (-2 : Int32)))]))
  refine Go.stp (fun t_ k_ => XS.isub X0.here hx rfl (hb hby d4_77) rfl k_) ?_
  show Go p.tables e below G (s₁.setTop (mkF m 78 #[iv (((5 : Int32).toUInt32 >>> ((2 : Int32) &&& 31).toUInt32).toInt32), iv ((31 : Int32) + (-2 : Int32))] [(.int (((31 : Int32) + (-2 : Int32)) - (((((5 : Int32).toUInt32 >>> ((2 : Int32) &&& 31).toUInt32).toInt32).toUInt32 >>> ((1 : Int32) &&& 31).toUInt32).toInt32)))]))
  obtain ⟨fs, hr, hrun, hended, hW, hsame⟩ := X0.leave (v := some (.int (((31 : Int32) + (-2 : Int32)) - (((((5 : Int32).toUInt32 >>> ((2 : Int32) &&& 31).toUInt32).toInt32).toUInt32 >>> ((1 : Int32) &&& 31).toUInt32).toInt32)))) (fun h => by rw [Bd.returns] at h; cases h)
  refine ⟨_, _, retI X0 hx Bd.returns (hb hby d4_78) hr, hrun, hended, hG _ _ _ ?_ ⟨⟨_, rfl⟩, hW, hsame.mono (by decide) (by decide)⟩⟩
  show Q4_5 Z  h0 n0 _ s₁.heap _
  rw [e0]
  exact ⟨congrArg (fun z => some (Value.int z)) (by decide +kernel : (((31 : Int32) + (-2 : Int32)) - (((((5 : Int32).toUInt32 >>> ((2 : Int32) &&& 31).toUInt32).toInt32).toUInt32 >>> ((1 : Int32) &&& 31).toUInt32).toInt32)) = (29 : Int32)), N0, rfl⟩
theorem ef_4_7 (m : MethodId)  : entryFrame m #[(.int (7 : Int32))] 2 = mkF m 0 #[iv (7 : Int32), un] [] := by first | (simp [entryFrame, mkF, argsToLocals, Value.category, iv, rv, lv, un, sd]; done) | rfl
def Q4_7 (Z : State)  (h0 : Heap) (n0 : Nat) (v : Option Value) (h : Heap) (L : List Loc) : Prop := v = some (.int (29 : Int32)) ∧ Fr n0 L ∧ h = h0
set_option maxRecDepth 65536 in
set_option maxHeartbeats 40000000 in
theorem rm4_7 (l : Launch) (Z : State) (a0 : Array Value) (hw : ∀ d ∈ tables_1, d.before a0 Z = true) (ws : List Jvm.Cond)  (h0 : Heap) (n0 : Nat) (Z0 : n0 ≤ h0.size) :
    MetFree l (⟨"java/lang/Integer", "numberOfLeadingZeros", "(I)I"⟩ : MethodName) (head1 (Jvm.Cond.code (⟨"java/lang/Integer", "numberOfLeadingZeros", "(I)I"⟩ : MethodName) jdk_33_method_47_code 2 (some .int) :: ws) ({ frames := 0, cells := 0, slots := 0, locals := 0 } : Room)) (fun a U => a = #[(.int (7 : Int32))] ∧ Z.Warmed39 U.vm ∧ U.heap = h0) (fun _ _ _ _ _ => True) (fun _ U o U' => ∃ v L, o = .returned v ∧ Q4_7 Z  h0 n0 v U'.heap L ∧ FrameEnd U o U' L ({ frames := 0, cells := 0, slots := 0, locals := 0 } : Room).cells ({ frames := 0, cells := 0, slots := 0, locals := 0 } : Room).slots) := by
  refine MetFree.of_bodySF (plainFor_of_name pn_4) hisR ?_
  intro p e s m args below meth c s₁ Bd hml0 hP hK
  obtain ⟨rfl, hZ, hh⟩ := hP
  have hx := Bd.exec
  have hby := Bd.bytes
  have hml : c.maxLocals = 2 := hml0
  have hown : s.vm.findClass "java/lang/Integer" = some m.cls := findClass_of_methodNamed Bd.named
  have hnm := (name_of_methodNamed Bd.named Bd.method).1
  have X0 : Stand p l e ({ frames := 0, cells := 0, slots := 0, locals := 0 } : Room) s m #[(.int (7 : Int32))] below meth c s₁ [] 0 0 := Stand.of_body Bd
  have e0 : s₁.heap = h0 := by rw [← hh, Bd.state]; rfl
  have N0 := Fr.nil n0
  suffices HH : ∀ G : Outcome → State → Prop, (∀ v L U', Q4_7 Z  h0 n0 v U'.heap L → FrameEnd s (.returned v) U' L ({ frames := 0, cells := 0, slots := 0, locals := 0 } : Room).cells ({ frames := 0, cells := 0, slots := 0, locals := 0 } : Room).slots → G (.returned v) U') → Go p.tables e below G (s₁.setTop (mkF m 0 #[iv (7 : Int32), un] [])) by
    obtain ⟨s2, o, h1, h2, h3, h4⟩ := HH (fun o U' => ∃ v L, o = .returned v ∧ Q4_7 Z  h0 n0 v U'.heap L ∧ FrameEnd s o U' L ({ frames := 0, cells := 0, slots := 0, locals := 0 } : Room).cells ({ frames := 0, cells := 0, slots := 0, locals := 0 } : Room).slots) (fun v L U' q f => ⟨v, L, rfl, q, f⟩)
    exact ⟨s2, o, castTop (ef_4_7 m ) h1, h2, h3, h4⟩
  intro G hG
  show Go p.tables e below G (s₁.setTop (mkF m 0 #[iv (7 : Int32), un] []))
  refine Go.stp (fun t_ k_ => XS.iloadN X0.here hx rfl (hb hby d4_0) rfl k_) ?_
  show Go p.tables e below G (s₁.setTop (mkF m 1 #[iv (7 : Int32), un] [(.int (7 : Int32))]))
  refine Go.stp (fun t_ k_ => XS.ifYes X0.here hx rfl (pc0 := 1) (pc' := 15) rfl (hb hby d4_1) rfl ((if0 _ _).trans (tlt (by decide : (0 : Int32) < (7 : Int32))).2.2.1) (by decide) (by decide) k_) ?_
  show Go p.tables e below G (s₁.setTop (mkF m 15 #[iv (7 : Int32), un] []))
  refine Go.stp (fun t_ k_ => XS.bipush X0.here hx rfl (hb hby d4_15) k_) ?_
  show Go p.tables e below G (s₁.setTop (mkF m 17 #[iv (7 : Int32), un] [(.int (31 : Int32))]))
  refine Go.stp (fun t_ k_ => XS.istoreN X0.here hx rfl (hb hby d4_17) rfl (l' := #[iv (7 : Int32), iv (31 : Int32)]) rfl k_) ?_
  show Go p.tables e below G (s₁.setTop (mkF m 18 #[iv (7 : Int32), iv (31 : Int32)] []))
  refine Go.stp (fun t_ k_ => XS.iloadN X0.here hx rfl (hb hby d4_18) rfl k_) ?_
  show Go p.tables e below G (s₁.setTop (mkF m 19 #[iv (7 : Int32), iv (31 : Int32)] [(.int (7 : Int32))]))
  refine Go.stp (fun t_ k_ => X0.ldcwInt hx hown (mvT hZ (hw _ (List.mem_of_getElem? (i := 20) rfl))) (g := (mkF m 19 #[iv (7 : Int32), iv (31 : Int32)] [(.int (7 : Int32))])) rfl (hb hby d4_19) t_ k_) ?_
  show Go p.tables e below G (s₁.setTop (mkF m 22 #[iv (7 : Int32), iv (31 : Int32)] [(.int (65536 : Int32)), (.int (7 : Int32))]))
  refine Go.stp (fun t_ k_ => XS.icmpYes X0.here hx rfl (pc0 := 22) (pc' := 33) rfl (hb hby d4_22) rfl (tlt (by decide : (7 : Int32) < (65536 : Int32))).1 (by decide) (by decide) k_) ?_
  show Go p.tables e below G (s₁.setTop (mkF m 33 #[iv (7 : Int32), iv (31 : Int32)] []))
  refine Go.stp (fun t_ k_ => XS.iloadN X0.here hx rfl (hb hby d4_33) rfl k_) ?_
  show Go p.tables e below G (s₁.setTop (mkF m 34 #[iv (7 : Int32), iv (31 : Int32)] [(.int (7 : Int32))]))
  refine Go.stp (fun t_ k_ => XS.sipush X0.here hx rfl (hb hby d4_34) k_) ?_
  show Go p.tables e below G (s₁.setTop (mkF m 37 #[iv (7 : Int32), iv (31 : Int32)] [(.int (256 : Int32)), (.int (7 : Int32))]))
  refine Go.stp (fun t_ k_ => XS.icmpYes X0.here hx rfl (pc0 := 37) (pc' := 48) rfl (hb hby d4_37) rfl (tlt (by decide : (7 : Int32) < (256 : Int32))).1 (by decide) (by decide) k_) ?_
  show Go p.tables e below G (s₁.setTop (mkF m 48 #[iv (7 : Int32), iv (31 : Int32)] []))
  refine Go.stp (fun t_ k_ => XS.iloadN X0.here hx rfl (hb hby d4_48) rfl k_) ?_
  show Go p.tables e below G (s₁.setTop (mkF m 49 #[iv (7 : Int32), iv (31 : Int32)] [(.int (7 : Int32))]))
  refine Go.stp (fun t_ k_ => XS.bipush X0.here hx rfl (hb hby d4_49) k_) ?_
  show Go p.tables e below G (s₁.setTop (mkF m 51 #[iv (7 : Int32), iv (31 : Int32)] [(.int (16 : Int32)), (.int (7 : Int32))]))
  refine Go.stp (fun t_ k_ => XS.icmpYes X0.here hx rfl (pc0 := 51) (pc' := 61) rfl (hb hby d4_51) rfl (tlt (by decide : (7 : Int32) < (16 : Int32))).1 (by decide) (by decide) k_) ?_
  show Go p.tables e below G (s₁.setTop (mkF m 61 #[iv (7 : Int32), iv (31 : Int32)] []))
  refine Go.stp (fun t_ k_ => XS.iloadN X0.here hx rfl (hb hby d4_61) rfl k_) ?_
  show Go p.tables e below G (s₁.setTop (mkF m 62 #[iv (7 : Int32), iv (31 : Int32)] [(.int (7 : Int32))]))
  refine Go.stp (fun t_ k_ => XS.iconst X0.here hx rfl (hb hby d4_62) k_) ?_
  show Go p.tables e below G (s₁.setTop (mkF m 63 #[iv (7 : Int32), iv (31 : Int32)] [(.int (4 : Int32)), (.int (7 : Int32))]))
  refine Go.stp (fun t_ k_ => XS.icmpNo X0.here hx rfl (hb hby d4_63) rfl (flt (by decide : ¬ ((7 : Int32) < (4 : Int32)))).1 k_) ?_
  show Go p.tables e below G (s₁.setTop (mkF m 66 #[iv (7 : Int32), iv (31 : Int32)] []))
  refine Go.stp (fun t_ k_ => XS.iinc X0.here hx rfl (hb hby d4_66) rfl (l' := #[iv (7 : Int32), iv ((31 : Int32) + (-2 : Int32))]) rfl k_) ?_
  show Go p.tables e below G (s₁.setTop (mkF m 69 #[iv (7 : Int32), iv ((31 : Int32) + (-2 : Int32))] []))
  refine Go.stp (fun t_ k_ => XS.iloadN X0.here hx rfl (hb hby d4_69) rfl k_) ?_
  show Go p.tables e below G (s₁.setTop (mkF m 70 #[iv (7 : Int32), iv ((31 : Int32) + (-2 : Int32))] [(.int (7 : Int32))]))
  refine Go.stp (fun t_ k_ => XS.iconst X0.here hx rfl (hb hby d4_70) k_) ?_
  show Go p.tables e below G (s₁.setTop (mkF m 71 #[iv (7 : Int32), iv ((31 : Int32) + (-2 : Int32))] [(.int (2 : Int32)), (.int (7 : Int32))]))
  refine Go.stp (fun t_ k_ => XS.iushr X0.here hx rfl (hb hby d4_71) rfl k_) ?_
  show Go p.tables e below G (s₁.setTop (mkF m 72 #[iv (7 : Int32), iv ((31 : Int32) + (-2 : Int32))] [(.int (((7 : Int32).toUInt32 >>> ((2 : Int32) &&& 31).toUInt32).toInt32))]))
  refine Go.stp (fun t_ k_ => XS.istoreN X0.here hx rfl (hb hby d4_72) rfl (l' := #[iv (((7 : Int32).toUInt32 >>> ((2 : Int32) &&& 31).toUInt32).toInt32), iv ((31 : Int32) + (-2 : Int32))]) rfl k_) ?_
  show Go p.tables e below G (s₁.setTop (mkF m 73 #[iv (((7 : Int32).toUInt32 >>> ((2 : Int32) &&& 31).toUInt32).toInt32), iv ((31 : Int32) + (-2 : Int32))] []))
  refine Go.stp (fun t_ k_ => XS.iloadN X0.here hx rfl (hb hby d4_73) rfl k_) ?_
  show Go p.tables e below G (s₁.setTop (mkF m 74 #[iv (((7 : Int32).toUInt32 >>> ((2 : Int32) &&& 31).toUInt32).toInt32), iv ((31 : Int32) + (-2 : Int32))] [(.int ((31 : Int32) + (-2 : Int32)))]))
  refine Go.stp (fun t_ k_ => XS.iloadN X0.here hx rfl (hb hby d4_74) rfl k_) ?_
  show Go p.tables e below G (s₁.setTop (mkF m 75 #[iv (((7 : Int32).toUInt32 >>> ((2 : Int32) &&& 31).toUInt32).toInt32), iv ((31 : Int32) + (-2 : Int32))] [(.int (((7 : Int32).toUInt32 >>> ((2 : Int32) &&& 31).toUInt32).toInt32)), (.int ((31 : Int32) + (-2 : Int32)))]))
  refine Go.stp (fun t_ k_ => XS.iconst X0.here hx rfl (hb hby d4_75) k_) ?_
  show Go p.tables e below G (s₁.setTop (mkF m 76 #[iv (((7 : Int32).toUInt32 >>> ((2 : Int32) &&& 31).toUInt32).toInt32), iv ((31 : Int32) + (-2 : Int32))] [(.int (1 : Int32)), (.int (((7 : Int32).toUInt32 >>> ((2 : Int32) &&& 31).toUInt32).toInt32)), (.int ((31 : Int32) + (-2 : Int32)))]))
  refine Go.stp (fun t_ k_ => XS.iushr X0.here hx rfl (hb hby d4_76) rfl k_) ?_
  show Go p.tables e below G (s₁.setTop (mkF m 77 #[iv (((7 : Int32).toUInt32 >>> ((2 : Int32) &&& 31).toUInt32).toInt32), iv ((31 : Int32) + (-2 : Int32))] [(.int (((((7 : Int32).toUInt32 >>> ((2 : Int32) &&& 31).toUInt32).toInt32).toUInt32 >>> ((1 : Int32) &&& 31).toUInt32).toInt32)), (.int ((31 : Int32) + (-2 : Int32)))]))
  refine Go.stp (fun t_ k_ => XS.isub X0.here hx rfl (hb hby d4_77) rfl k_) ?_
  show Go p.tables e below G (s₁.setTop (mkF m 78 #[iv (((7 : Int32).toUInt32 >>> ((2 : Int32) &&& 31).toUInt32).toInt32), iv ((31 : Int32) + (-2 : Int32))] [(.int (((31 : Int32) + (-2 : Int32)) - (((((7 : Int32).toUInt32 >>> ((2 : Int32) &&& 31).toUInt32).toInt32).toUInt32 >>> ((1 : Int32) &&& 31).toUInt32).toInt32)))]))
  obtain ⟨fs, hr, hrun, hended, hW, hsame⟩ := X0.leave (v := some (.int (((31 : Int32) + (-2 : Int32)) - (((((7 : Int32).toUInt32 >>> ((2 : Int32) &&& 31).toUInt32).toInt32).toUInt32 >>> ((1 : Int32) &&& 31).toUInt32).toInt32)))) (fun h => by rw [Bd.returns] at h; cases h)
  refine ⟨_, _, retI X0 hx Bd.returns (hb hby d4_78) hr, hrun, hended, hG _ _ _ ?_ ⟨⟨_, rfl⟩, hW, hsame.mono (by decide) (by decide)⟩⟩
  show Q4_7 Z  h0 n0 _ s₁.heap _
  rw [e0]
  exact ⟨congrArg (fun z => some (Value.int z)) (by decide +kernel : (((31 : Int32) + (-2 : Int32)) - (((((7 : Int32).toUInt32 >>> ((2 : Int32) &&& 31).toUInt32).toInt32).toUInt32 >>> ((1 : Int32) &&& 31).toUInt32).toInt32)) = (29 : Int32)), N0, rfl⟩
theorem ef_4_9 (m : MethodId)  : entryFrame m #[(.int (9 : Int32))] 2 = mkF m 0 #[iv (9 : Int32), un] [] := by first | (simp [entryFrame, mkF, argsToLocals, Value.category, iv, rv, lv, un, sd]; done) | rfl
def Q4_9 (Z : State)  (h0 : Heap) (n0 : Nat) (v : Option Value) (h : Heap) (L : List Loc) : Prop := v = some (.int (28 : Int32)) ∧ Fr n0 L ∧ h = h0
set_option maxRecDepth 65536 in
set_option maxHeartbeats 40000000 in
theorem rm4_9 (l : Launch) (Z : State) (a0 : Array Value) (hw : ∀ d ∈ tables_1, d.before a0 Z = true) (ws : List Jvm.Cond)  (h0 : Heap) (n0 : Nat) (Z0 : n0 ≤ h0.size) :
    MetFree l (⟨"java/lang/Integer", "numberOfLeadingZeros", "(I)I"⟩ : MethodName) (head1 (Jvm.Cond.code (⟨"java/lang/Integer", "numberOfLeadingZeros", "(I)I"⟩ : MethodName) jdk_33_method_47_code 2 (some .int) :: ws) ({ frames := 0, cells := 0, slots := 0, locals := 0 } : Room)) (fun a U => a = #[(.int (9 : Int32))] ∧ Z.Warmed39 U.vm ∧ U.heap = h0) (fun _ _ _ _ _ => True) (fun _ U o U' => ∃ v L, o = .returned v ∧ Q4_9 Z  h0 n0 v U'.heap L ∧ FrameEnd U o U' L ({ frames := 0, cells := 0, slots := 0, locals := 0 } : Room).cells ({ frames := 0, cells := 0, slots := 0, locals := 0 } : Room).slots) := by
  refine MetFree.of_bodySF (plainFor_of_name pn_4) hisR ?_
  intro p e s m args below meth c s₁ Bd hml0 hP hK
  obtain ⟨rfl, hZ, hh⟩ := hP
  have hx := Bd.exec
  have hby := Bd.bytes
  have hml : c.maxLocals = 2 := hml0
  have hown : s.vm.findClass "java/lang/Integer" = some m.cls := findClass_of_methodNamed Bd.named
  have hnm := (name_of_methodNamed Bd.named Bd.method).1
  have X0 : Stand p l e ({ frames := 0, cells := 0, slots := 0, locals := 0 } : Room) s m #[(.int (9 : Int32))] below meth c s₁ [] 0 0 := Stand.of_body Bd
  have e0 : s₁.heap = h0 := by rw [← hh, Bd.state]; rfl
  have N0 := Fr.nil n0
  suffices HH : ∀ G : Outcome → State → Prop, (∀ v L U', Q4_9 Z  h0 n0 v U'.heap L → FrameEnd s (.returned v) U' L ({ frames := 0, cells := 0, slots := 0, locals := 0 } : Room).cells ({ frames := 0, cells := 0, slots := 0, locals := 0 } : Room).slots → G (.returned v) U') → Go p.tables e below G (s₁.setTop (mkF m 0 #[iv (9 : Int32), un] [])) by
    obtain ⟨s2, o, h1, h2, h3, h4⟩ := HH (fun o U' => ∃ v L, o = .returned v ∧ Q4_9 Z  h0 n0 v U'.heap L ∧ FrameEnd s o U' L ({ frames := 0, cells := 0, slots := 0, locals := 0 } : Room).cells ({ frames := 0, cells := 0, slots := 0, locals := 0 } : Room).slots) (fun v L U' q f => ⟨v, L, rfl, q, f⟩)
    exact ⟨s2, o, castTop (ef_4_9 m ) h1, h2, h3, h4⟩
  intro G hG
  show Go p.tables e below G (s₁.setTop (mkF m 0 #[iv (9 : Int32), un] []))
  refine Go.stp (fun t_ k_ => XS.iloadN X0.here hx rfl (hb hby d4_0) rfl k_) ?_
  show Go p.tables e below G (s₁.setTop (mkF m 1 #[iv (9 : Int32), un] [(.int (9 : Int32))]))
  refine Go.stp (fun t_ k_ => XS.ifYes X0.here hx rfl (pc0 := 1) (pc' := 15) rfl (hb hby d4_1) rfl ((if0 _ _).trans (tlt (by decide : (0 : Int32) < (9 : Int32))).2.2.1) (by decide) (by decide) k_) ?_
  show Go p.tables e below G (s₁.setTop (mkF m 15 #[iv (9 : Int32), un] []))
  refine Go.stp (fun t_ k_ => XS.bipush X0.here hx rfl (hb hby d4_15) k_) ?_
  show Go p.tables e below G (s₁.setTop (mkF m 17 #[iv (9 : Int32), un] [(.int (31 : Int32))]))
  refine Go.stp (fun t_ k_ => XS.istoreN X0.here hx rfl (hb hby d4_17) rfl (l' := #[iv (9 : Int32), iv (31 : Int32)]) rfl k_) ?_
  show Go p.tables e below G (s₁.setTop (mkF m 18 #[iv (9 : Int32), iv (31 : Int32)] []))
  refine Go.stp (fun t_ k_ => XS.iloadN X0.here hx rfl (hb hby d4_18) rfl k_) ?_
  show Go p.tables e below G (s₁.setTop (mkF m 19 #[iv (9 : Int32), iv (31 : Int32)] [(.int (9 : Int32))]))
  refine Go.stp (fun t_ k_ => X0.ldcwInt hx hown (mvT hZ (hw _ (List.mem_of_getElem? (i := 20) rfl))) (g := (mkF m 19 #[iv (9 : Int32), iv (31 : Int32)] [(.int (9 : Int32))])) rfl (hb hby d4_19) t_ k_) ?_
  show Go p.tables e below G (s₁.setTop (mkF m 22 #[iv (9 : Int32), iv (31 : Int32)] [(.int (65536 : Int32)), (.int (9 : Int32))]))
  refine Go.stp (fun t_ k_ => XS.icmpYes X0.here hx rfl (pc0 := 22) (pc' := 33) rfl (hb hby d4_22) rfl (tlt (by decide : (9 : Int32) < (65536 : Int32))).1 (by decide) (by decide) k_) ?_
  show Go p.tables e below G (s₁.setTop (mkF m 33 #[iv (9 : Int32), iv (31 : Int32)] []))
  refine Go.stp (fun t_ k_ => XS.iloadN X0.here hx rfl (hb hby d4_33) rfl k_) ?_
  show Go p.tables e below G (s₁.setTop (mkF m 34 #[iv (9 : Int32), iv (31 : Int32)] [(.int (9 : Int32))]))
  refine Go.stp (fun t_ k_ => XS.sipush X0.here hx rfl (hb hby d4_34) k_) ?_
  show Go p.tables e below G (s₁.setTop (mkF m 37 #[iv (9 : Int32), iv (31 : Int32)] [(.int (256 : Int32)), (.int (9 : Int32))]))
  refine Go.stp (fun t_ k_ => XS.icmpYes X0.here hx rfl (pc0 := 37) (pc' := 48) rfl (hb hby d4_37) rfl (tlt (by decide : (9 : Int32) < (256 : Int32))).1 (by decide) (by decide) k_) ?_
  show Go p.tables e below G (s₁.setTop (mkF m 48 #[iv (9 : Int32), iv (31 : Int32)] []))
  refine Go.stp (fun t_ k_ => XS.iloadN X0.here hx rfl (hb hby d4_48) rfl k_) ?_
  show Go p.tables e below G (s₁.setTop (mkF m 49 #[iv (9 : Int32), iv (31 : Int32)] [(.int (9 : Int32))]))
  refine Go.stp (fun t_ k_ => XS.bipush X0.here hx rfl (hb hby d4_49) k_) ?_
  show Go p.tables e below G (s₁.setTop (mkF m 51 #[iv (9 : Int32), iv (31 : Int32)] [(.int (16 : Int32)), (.int (9 : Int32))]))
  refine Go.stp (fun t_ k_ => XS.icmpYes X0.here hx rfl (pc0 := 51) (pc' := 61) rfl (hb hby d4_51) rfl (tlt (by decide : (9 : Int32) < (16 : Int32))).1 (by decide) (by decide) k_) ?_
  show Go p.tables e below G (s₁.setTop (mkF m 61 #[iv (9 : Int32), iv (31 : Int32)] []))
  refine Go.stp (fun t_ k_ => XS.iloadN X0.here hx rfl (hb hby d4_61) rfl k_) ?_
  show Go p.tables e below G (s₁.setTop (mkF m 62 #[iv (9 : Int32), iv (31 : Int32)] [(.int (9 : Int32))]))
  refine Go.stp (fun t_ k_ => XS.iconst X0.here hx rfl (hb hby d4_62) k_) ?_
  show Go p.tables e below G (s₁.setTop (mkF m 63 #[iv (9 : Int32), iv (31 : Int32)] [(.int (4 : Int32)), (.int (9 : Int32))]))
  refine Go.stp (fun t_ k_ => XS.icmpNo X0.here hx rfl (hb hby d4_63) rfl (flt (by decide : ¬ ((9 : Int32) < (4 : Int32)))).1 k_) ?_
  show Go p.tables e below G (s₁.setTop (mkF m 66 #[iv (9 : Int32), iv (31 : Int32)] []))
  refine Go.stp (fun t_ k_ => XS.iinc X0.here hx rfl (hb hby d4_66) rfl (l' := #[iv (9 : Int32), iv ((31 : Int32) + (-2 : Int32))]) rfl k_) ?_
  show Go p.tables e below G (s₁.setTop (mkF m 69 #[iv (9 : Int32), iv ((31 : Int32) + (-2 : Int32))] []))
  refine Go.stp (fun t_ k_ => XS.iloadN X0.here hx rfl (hb hby d4_69) rfl k_) ?_
  show Go p.tables e below G (s₁.setTop (mkF m 70 #[iv (9 : Int32), iv ((31 : Int32) + (-2 : Int32))] [(.int (9 : Int32))]))
  refine Go.stp (fun t_ k_ => XS.iconst X0.here hx rfl (hb hby d4_70) k_) ?_
  show Go p.tables e below G (s₁.setTop (mkF m 71 #[iv (9 : Int32), iv ((31 : Int32) + (-2 : Int32))] [(.int (2 : Int32)), (.int (9 : Int32))]))
  refine Go.stp (fun t_ k_ => XS.iushr X0.here hx rfl (hb hby d4_71) rfl k_) ?_
  show Go p.tables e below G (s₁.setTop (mkF m 72 #[iv (9 : Int32), iv ((31 : Int32) + (-2 : Int32))] [(.int (((9 : Int32).toUInt32 >>> ((2 : Int32) &&& 31).toUInt32).toInt32))]))
  refine Go.stp (fun t_ k_ => XS.istoreN X0.here hx rfl (hb hby d4_72) rfl (l' := #[iv (((9 : Int32).toUInt32 >>> ((2 : Int32) &&& 31).toUInt32).toInt32), iv ((31 : Int32) + (-2 : Int32))]) rfl k_) ?_
  show Go p.tables e below G (s₁.setTop (mkF m 73 #[iv (((9 : Int32).toUInt32 >>> ((2 : Int32) &&& 31).toUInt32).toInt32), iv ((31 : Int32) + (-2 : Int32))] []))
  refine Go.stp (fun t_ k_ => XS.iloadN X0.here hx rfl (hb hby d4_73) rfl k_) ?_
  show Go p.tables e below G (s₁.setTop (mkF m 74 #[iv (((9 : Int32).toUInt32 >>> ((2 : Int32) &&& 31).toUInt32).toInt32), iv ((31 : Int32) + (-2 : Int32))] [(.int ((31 : Int32) + (-2 : Int32)))]))
  refine Go.stp (fun t_ k_ => XS.iloadN X0.here hx rfl (hb hby d4_74) rfl k_) ?_
  show Go p.tables e below G (s₁.setTop (mkF m 75 #[iv (((9 : Int32).toUInt32 >>> ((2 : Int32) &&& 31).toUInt32).toInt32), iv ((31 : Int32) + (-2 : Int32))] [(.int (((9 : Int32).toUInt32 >>> ((2 : Int32) &&& 31).toUInt32).toInt32)), (.int ((31 : Int32) + (-2 : Int32)))]))
  refine Go.stp (fun t_ k_ => XS.iconst X0.here hx rfl (hb hby d4_75) k_) ?_
  show Go p.tables e below G (s₁.setTop (mkF m 76 #[iv (((9 : Int32).toUInt32 >>> ((2 : Int32) &&& 31).toUInt32).toInt32), iv ((31 : Int32) + (-2 : Int32))] [(.int (1 : Int32)), (.int (((9 : Int32).toUInt32 >>> ((2 : Int32) &&& 31).toUInt32).toInt32)), (.int ((31 : Int32) + (-2 : Int32)))]))
  refine Go.stp (fun t_ k_ => XS.iushr X0.here hx rfl (hb hby d4_76) rfl k_) ?_
  show Go p.tables e below G (s₁.setTop (mkF m 77 #[iv (((9 : Int32).toUInt32 >>> ((2 : Int32) &&& 31).toUInt32).toInt32), iv ((31 : Int32) + (-2 : Int32))] [(.int (((((9 : Int32).toUInt32 >>> ((2 : Int32) &&& 31).toUInt32).toInt32).toUInt32 >>> ((1 : Int32) &&& 31).toUInt32).toInt32)), (.int ((31 : Int32) + (-2 : Int32)))]))
  refine Go.stp (fun t_ k_ => XS.isub X0.here hx rfl (hb hby d4_77) rfl k_) ?_
  show Go p.tables e below G (s₁.setTop (mkF m 78 #[iv (((9 : Int32).toUInt32 >>> ((2 : Int32) &&& 31).toUInt32).toInt32), iv ((31 : Int32) + (-2 : Int32))] [(.int (((31 : Int32) + (-2 : Int32)) - (((((9 : Int32).toUInt32 >>> ((2 : Int32) &&& 31).toUInt32).toInt32).toUInt32 >>> ((1 : Int32) &&& 31).toUInt32).toInt32)))]))
  obtain ⟨fs, hr, hrun, hended, hW, hsame⟩ := X0.leave (v := some (.int (((31 : Int32) + (-2 : Int32)) - (((((9 : Int32).toUInt32 >>> ((2 : Int32) &&& 31).toUInt32).toInt32).toUInt32 >>> ((1 : Int32) &&& 31).toUInt32).toInt32)))) (fun h => by rw [Bd.returns] at h; cases h)
  refine ⟨_, _, retI X0 hx Bd.returns (hb hby d4_78) hr, hrun, hended, hG _ _ _ ?_ ⟨⟨_, rfl⟩, hW, hsame.mono (by decide) (by decide)⟩⟩
  show Q4_9 Z  h0 n0 _ s₁.heap _
  rw [e0]
  exact ⟨congrArg (fun z => some (Value.int z)) (by decide +kernel : (((31 : Int32) + (-2 : Int32)) - (((((9 : Int32).toUInt32 >>> ((2 : Int32) &&& 31).toUInt32).toInt32).toUInt32 >>> ((1 : Int32) &&& 31).toUInt32).toInt32)) = (28 : Int32)), N0, rfl⟩
theorem ef_4_11 (m : MethodId)  : entryFrame m #[(.int (11 : Int32))] 2 = mkF m 0 #[iv (11 : Int32), un] [] := by first | (simp [entryFrame, mkF, argsToLocals, Value.category, iv, rv, lv, un, sd]; done) | rfl
def Q4_11 (Z : State)  (h0 : Heap) (n0 : Nat) (v : Option Value) (h : Heap) (L : List Loc) : Prop := v = some (.int (28 : Int32)) ∧ Fr n0 L ∧ h = h0
set_option maxRecDepth 65536 in
set_option maxHeartbeats 40000000 in
theorem rm4_11 (l : Launch) (Z : State) (a0 : Array Value) (hw : ∀ d ∈ tables_1, d.before a0 Z = true) (ws : List Jvm.Cond)  (h0 : Heap) (n0 : Nat) (Z0 : n0 ≤ h0.size) :
    MetFree l (⟨"java/lang/Integer", "numberOfLeadingZeros", "(I)I"⟩ : MethodName) (head1 (Jvm.Cond.code (⟨"java/lang/Integer", "numberOfLeadingZeros", "(I)I"⟩ : MethodName) jdk_33_method_47_code 2 (some .int) :: ws) ({ frames := 0, cells := 0, slots := 0, locals := 0 } : Room)) (fun a U => a = #[(.int (11 : Int32))] ∧ Z.Warmed39 U.vm ∧ U.heap = h0) (fun _ _ _ _ _ => True) (fun _ U o U' => ∃ v L, o = .returned v ∧ Q4_11 Z  h0 n0 v U'.heap L ∧ FrameEnd U o U' L ({ frames := 0, cells := 0, slots := 0, locals := 0 } : Room).cells ({ frames := 0, cells := 0, slots := 0, locals := 0 } : Room).slots) := by
  refine MetFree.of_bodySF (plainFor_of_name pn_4) hisR ?_
  intro p e s m args below meth c s₁ Bd hml0 hP hK
  obtain ⟨rfl, hZ, hh⟩ := hP
  have hx := Bd.exec
  have hby := Bd.bytes
  have hml : c.maxLocals = 2 := hml0
  have hown : s.vm.findClass "java/lang/Integer" = some m.cls := findClass_of_methodNamed Bd.named
  have hnm := (name_of_methodNamed Bd.named Bd.method).1
  have X0 : Stand p l e ({ frames := 0, cells := 0, slots := 0, locals := 0 } : Room) s m #[(.int (11 : Int32))] below meth c s₁ [] 0 0 := Stand.of_body Bd
  have e0 : s₁.heap = h0 := by rw [← hh, Bd.state]; rfl
  have N0 := Fr.nil n0
  suffices HH : ∀ G : Outcome → State → Prop, (∀ v L U', Q4_11 Z  h0 n0 v U'.heap L → FrameEnd s (.returned v) U' L ({ frames := 0, cells := 0, slots := 0, locals := 0 } : Room).cells ({ frames := 0, cells := 0, slots := 0, locals := 0 } : Room).slots → G (.returned v) U') → Go p.tables e below G (s₁.setTop (mkF m 0 #[iv (11 : Int32), un] [])) by
    obtain ⟨s2, o, h1, h2, h3, h4⟩ := HH (fun o U' => ∃ v L, o = .returned v ∧ Q4_11 Z  h0 n0 v U'.heap L ∧ FrameEnd s o U' L ({ frames := 0, cells := 0, slots := 0, locals := 0 } : Room).cells ({ frames := 0, cells := 0, slots := 0, locals := 0 } : Room).slots) (fun v L U' q f => ⟨v, L, rfl, q, f⟩)
    exact ⟨s2, o, castTop (ef_4_11 m ) h1, h2, h3, h4⟩
  intro G hG
  show Go p.tables e below G (s₁.setTop (mkF m 0 #[iv (11 : Int32), un] []))
  refine Go.stp (fun t_ k_ => XS.iloadN X0.here hx rfl (hb hby d4_0) rfl k_) ?_
  show Go p.tables e below G (s₁.setTop (mkF m 1 #[iv (11 : Int32), un] [(.int (11 : Int32))]))
  refine Go.stp (fun t_ k_ => XS.ifYes X0.here hx rfl (pc0 := 1) (pc' := 15) rfl (hb hby d4_1) rfl ((if0 _ _).trans (tlt (by decide : (0 : Int32) < (11 : Int32))).2.2.1) (by decide) (by decide) k_) ?_
  show Go p.tables e below G (s₁.setTop (mkF m 15 #[iv (11 : Int32), un] []))
  refine Go.stp (fun t_ k_ => XS.bipush X0.here hx rfl (hb hby d4_15) k_) ?_
  show Go p.tables e below G (s₁.setTop (mkF m 17 #[iv (11 : Int32), un] [(.int (31 : Int32))]))
  refine Go.stp (fun t_ k_ => XS.istoreN X0.here hx rfl (hb hby d4_17) rfl (l' := #[iv (11 : Int32), iv (31 : Int32)]) rfl k_) ?_
  show Go p.tables e below G (s₁.setTop (mkF m 18 #[iv (11 : Int32), iv (31 : Int32)] []))
  refine Go.stp (fun t_ k_ => XS.iloadN X0.here hx rfl (hb hby d4_18) rfl k_) ?_
  show Go p.tables e below G (s₁.setTop (mkF m 19 #[iv (11 : Int32), iv (31 : Int32)] [(.int (11 : Int32))]))
  refine Go.stp (fun t_ k_ => X0.ldcwInt hx hown (mvT hZ (hw _ (List.mem_of_getElem? (i := 20) rfl))) (g := (mkF m 19 #[iv (11 : Int32), iv (31 : Int32)] [(.int (11 : Int32))])) rfl (hb hby d4_19) t_ k_) ?_
  show Go p.tables e below G (s₁.setTop (mkF m 22 #[iv (11 : Int32), iv (31 : Int32)] [(.int (65536 : Int32)), (.int (11 : Int32))]))
  refine Go.stp (fun t_ k_ => XS.icmpYes X0.here hx rfl (pc0 := 22) (pc' := 33) rfl (hb hby d4_22) rfl (tlt (by decide : (11 : Int32) < (65536 : Int32))).1 (by decide) (by decide) k_) ?_
  show Go p.tables e below G (s₁.setTop (mkF m 33 #[iv (11 : Int32), iv (31 : Int32)] []))
  refine Go.stp (fun t_ k_ => XS.iloadN X0.here hx rfl (hb hby d4_33) rfl k_) ?_
  show Go p.tables e below G (s₁.setTop (mkF m 34 #[iv (11 : Int32), iv (31 : Int32)] [(.int (11 : Int32))]))
  refine Go.stp (fun t_ k_ => XS.sipush X0.here hx rfl (hb hby d4_34) k_) ?_
  show Go p.tables e below G (s₁.setTop (mkF m 37 #[iv (11 : Int32), iv (31 : Int32)] [(.int (256 : Int32)), (.int (11 : Int32))]))
  refine Go.stp (fun t_ k_ => XS.icmpYes X0.here hx rfl (pc0 := 37) (pc' := 48) rfl (hb hby d4_37) rfl (tlt (by decide : (11 : Int32) < (256 : Int32))).1 (by decide) (by decide) k_) ?_
  show Go p.tables e below G (s₁.setTop (mkF m 48 #[iv (11 : Int32), iv (31 : Int32)] []))
  refine Go.stp (fun t_ k_ => XS.iloadN X0.here hx rfl (hb hby d4_48) rfl k_) ?_
  show Go p.tables e below G (s₁.setTop (mkF m 49 #[iv (11 : Int32), iv (31 : Int32)] [(.int (11 : Int32))]))
  refine Go.stp (fun t_ k_ => XS.bipush X0.here hx rfl (hb hby d4_49) k_) ?_
  show Go p.tables e below G (s₁.setTop (mkF m 51 #[iv (11 : Int32), iv (31 : Int32)] [(.int (16 : Int32)), (.int (11 : Int32))]))
  refine Go.stp (fun t_ k_ => XS.icmpYes X0.here hx rfl (pc0 := 51) (pc' := 61) rfl (hb hby d4_51) rfl (tlt (by decide : (11 : Int32) < (16 : Int32))).1 (by decide) (by decide) k_) ?_
  show Go p.tables e below G (s₁.setTop (mkF m 61 #[iv (11 : Int32), iv (31 : Int32)] []))
  refine Go.stp (fun t_ k_ => XS.iloadN X0.here hx rfl (hb hby d4_61) rfl k_) ?_
  show Go p.tables e below G (s₁.setTop (mkF m 62 #[iv (11 : Int32), iv (31 : Int32)] [(.int (11 : Int32))]))
  refine Go.stp (fun t_ k_ => XS.iconst X0.here hx rfl (hb hby d4_62) k_) ?_
  show Go p.tables e below G (s₁.setTop (mkF m 63 #[iv (11 : Int32), iv (31 : Int32)] [(.int (4 : Int32)), (.int (11 : Int32))]))
  refine Go.stp (fun t_ k_ => XS.icmpNo X0.here hx rfl (hb hby d4_63) rfl (flt (by decide : ¬ ((11 : Int32) < (4 : Int32)))).1 k_) ?_
  show Go p.tables e below G (s₁.setTop (mkF m 66 #[iv (11 : Int32), iv (31 : Int32)] []))
  refine Go.stp (fun t_ k_ => XS.iinc X0.here hx rfl (hb hby d4_66) rfl (l' := #[iv (11 : Int32), iv ((31 : Int32) + (-2 : Int32))]) rfl k_) ?_
  show Go p.tables e below G (s₁.setTop (mkF m 69 #[iv (11 : Int32), iv ((31 : Int32) + (-2 : Int32))] []))
  refine Go.stp (fun t_ k_ => XS.iloadN X0.here hx rfl (hb hby d4_69) rfl k_) ?_
  show Go p.tables e below G (s₁.setTop (mkF m 70 #[iv (11 : Int32), iv ((31 : Int32) + (-2 : Int32))] [(.int (11 : Int32))]))
  refine Go.stp (fun t_ k_ => XS.iconst X0.here hx rfl (hb hby d4_70) k_) ?_
  show Go p.tables e below G (s₁.setTop (mkF m 71 #[iv (11 : Int32), iv ((31 : Int32) + (-2 : Int32))] [(.int (2 : Int32)), (.int (11 : Int32))]))
  refine Go.stp (fun t_ k_ => XS.iushr X0.here hx rfl (hb hby d4_71) rfl k_) ?_
  show Go p.tables e below G (s₁.setTop (mkF m 72 #[iv (11 : Int32), iv ((31 : Int32) + (-2 : Int32))] [(.int (((11 : Int32).toUInt32 >>> ((2 : Int32) &&& 31).toUInt32).toInt32))]))
  refine Go.stp (fun t_ k_ => XS.istoreN X0.here hx rfl (hb hby d4_72) rfl (l' := #[iv (((11 : Int32).toUInt32 >>> ((2 : Int32) &&& 31).toUInt32).toInt32), iv ((31 : Int32) + (-2 : Int32))]) rfl k_) ?_
  show Go p.tables e below G (s₁.setTop (mkF m 73 #[iv (((11 : Int32).toUInt32 >>> ((2 : Int32) &&& 31).toUInt32).toInt32), iv ((31 : Int32) + (-2 : Int32))] []))
  refine Go.stp (fun t_ k_ => XS.iloadN X0.here hx rfl (hb hby d4_73) rfl k_) ?_
  show Go p.tables e below G (s₁.setTop (mkF m 74 #[iv (((11 : Int32).toUInt32 >>> ((2 : Int32) &&& 31).toUInt32).toInt32), iv ((31 : Int32) + (-2 : Int32))] [(.int ((31 : Int32) + (-2 : Int32)))]))
  refine Go.stp (fun t_ k_ => XS.iloadN X0.here hx rfl (hb hby d4_74) rfl k_) ?_
  show Go p.tables e below G (s₁.setTop (mkF m 75 #[iv (((11 : Int32).toUInt32 >>> ((2 : Int32) &&& 31).toUInt32).toInt32), iv ((31 : Int32) + (-2 : Int32))] [(.int (((11 : Int32).toUInt32 >>> ((2 : Int32) &&& 31).toUInt32).toInt32)), (.int ((31 : Int32) + (-2 : Int32)))]))
  refine Go.stp (fun t_ k_ => XS.iconst X0.here hx rfl (hb hby d4_75) k_) ?_
  show Go p.tables e below G (s₁.setTop (mkF m 76 #[iv (((11 : Int32).toUInt32 >>> ((2 : Int32) &&& 31).toUInt32).toInt32), iv ((31 : Int32) + (-2 : Int32))] [(.int (1 : Int32)), (.int (((11 : Int32).toUInt32 >>> ((2 : Int32) &&& 31).toUInt32).toInt32)), (.int ((31 : Int32) + (-2 : Int32)))]))
  refine Go.stp (fun t_ k_ => XS.iushr X0.here hx rfl (hb hby d4_76) rfl k_) ?_
  show Go p.tables e below G (s₁.setTop (mkF m 77 #[iv (((11 : Int32).toUInt32 >>> ((2 : Int32) &&& 31).toUInt32).toInt32), iv ((31 : Int32) + (-2 : Int32))] [(.int (((((11 : Int32).toUInt32 >>> ((2 : Int32) &&& 31).toUInt32).toInt32).toUInt32 >>> ((1 : Int32) &&& 31).toUInt32).toInt32)), (.int ((31 : Int32) + (-2 : Int32)))]))
  refine Go.stp (fun t_ k_ => XS.isub X0.here hx rfl (hb hby d4_77) rfl k_) ?_
  show Go p.tables e below G (s₁.setTop (mkF m 78 #[iv (((11 : Int32).toUInt32 >>> ((2 : Int32) &&& 31).toUInt32).toInt32), iv ((31 : Int32) + (-2 : Int32))] [(.int (((31 : Int32) + (-2 : Int32)) - (((((11 : Int32).toUInt32 >>> ((2 : Int32) &&& 31).toUInt32).toInt32).toUInt32 >>> ((1 : Int32) &&& 31).toUInt32).toInt32)))]))
  obtain ⟨fs, hr, hrun, hended, hW, hsame⟩ := X0.leave (v := some (.int (((31 : Int32) + (-2 : Int32)) - (((((11 : Int32).toUInt32 >>> ((2 : Int32) &&& 31).toUInt32).toInt32).toUInt32 >>> ((1 : Int32) &&& 31).toUInt32).toInt32)))) (fun h => by rw [Bd.returns] at h; cases h)
  refine ⟨_, _, retI X0 hx Bd.returns (hb hby d4_78) hr, hrun, hended, hG _ _ _ ?_ ⟨⟨_, rfl⟩, hW, hsame.mono (by decide) (by decide)⟩⟩
  show Q4_11 Z  h0 n0 _ s₁.heap _
  rw [e0]
  exact ⟨congrArg (fun z => some (Value.int z)) (by decide +kernel : (((31 : Int32) + (-2 : Int32)) - (((((11 : Int32).toUInt32 >>> ((2 : Int32) &&& 31).toUInt32).toInt32).toUInt32 >>> ((1 : Int32) &&& 31).toUInt32).toInt32)) = (28 : Int32)), N0, rfl⟩
theorem pn_5 : plainName "java/util/Arrays" = true := by first | (simp [plainName, overriddenIn]; done) | decide +kernel
theorem d5_0 : decode jdk_65_method_103_code 0 = .ok (.iconst 0, 1) := by decide +kernel
theorem d5_1 : decode jdk_65_method_103_code 1 = .ok (.istore_n 2, 1) := by decide +kernel
theorem d5_2 : decode jdk_65_method_103_code 2 = .ok (.aload_n 0, 1) := by decide +kernel
theorem d5_3 : decode jdk_65_method_103_code 3 = .ok (.arraylength, 1) := by decide +kernel
theorem d5_4 : decode jdk_65_method_103_code 4 = .ok (.istore_n 3, 1) := by decide +kernel
theorem d5_5 : decode jdk_65_method_103_code 5 = .ok (.iload_n 2, 1) := by decide +kernel
theorem d5_6 : decode jdk_65_method_103_code 6 = .ok (.iload_n 3, 1) := by decide +kernel
theorem d5_7 : decode jdk_65_method_103_code 7 = .ok (.if_icmp .ge 13, 3) := by decide +kernel
theorem d5_10 : decode jdk_65_method_103_code 10 = .ok (.aload_n 0, 1) := by decide +kernel
theorem d5_11 : decode jdk_65_method_103_code 11 = .ok (.iload_n 2, 1) := by decide +kernel
theorem d5_12 : decode jdk_65_method_103_code 12 = .ok (.iload_n 1, 1) := by decide +kernel
theorem d5_13 : decode jdk_65_method_103_code 13 = .ok (.iastore, 1) := by decide +kernel
theorem d5_14 : decode jdk_65_method_103_code 14 = .ok (.iinc 2 1, 3) := by decide +kernel
theorem d5_17 : decode jdk_65_method_103_code 17 = .ok (.goto (-12), 3) := by decide +kernel
theorem d5_20 : decode jdk_65_method_103_code 20 = .ok (.return_, 1) := by decide +kernel
theorem ef_5_8 (m : MethodId) (r0 : Addr) (p1 : Int32) : entryFrame m #[(.ref r0), (.int p1)] 4 = mkF m 0 #[rv r0, iv p1, un, un] [] := by first | (simp [entryFrame, mkF, argsToLocals, Value.category, iv, rv, lv, un, sd]; done) | rfl
def Q5_8 (Z : State) (r0 : Addr) (p1 : Int32) (f : Nat → Int32) (h0 : Heap) (n0 : Nat) (v : Option Value) (h : Heap) (L : List Loc) : Prop := v = none ∧ Fr n0 L ∧ Keep h0 h [r0] ∧ Ia Z h r0 .int 8 Value.int (fun _ => p1)
set_option maxRecDepth 65536 in
set_option maxHeartbeats 40000000 in
theorem rm5_8 (l : Launch) (Z : State) (a0 : Array Value) (hw : ∀ d ∈ tables_1, d.before a0 Z = true) (ws : List Jvm.Cond) (r0 : Addr) (p1 : Int32) (f : Nat → Int32) (h0 : Heap) (n0 : Nat) (Z0 : n0 ≤ h0.size) (I_r0 : Ia Z h0 r0 .int 8 Value.int f) (g_r0 : n0 ≤ r0) :
    MetFree l (⟨"java/util/Arrays", "fill", "([II)V"⟩ : MethodName) (head1 (Jvm.Cond.code (⟨"java/util/Arrays", "fill", "([II)V"⟩ : MethodName) jdk_65_method_103_code 4 none :: ws) ({ frames := 0, cells := 0, slots := 0, locals := 0 } : Room)) (fun a U => a = #[(.ref r0), (.int p1)] ∧ Z.Warmed39 U.vm ∧ U.heap = h0) (fun _ _ _ _ _ => True) (fun _ U o U' => ∃ v L, o = .returned v ∧ Q5_8 Z r0 p1 f h0 n0 v U'.heap L ∧ FrameEnd U o U' L ({ frames := 0, cells := 0, slots := 0, locals := 0 } : Room).cells ({ frames := 0, cells := 0, slots := 0, locals := 0 } : Room).slots) := by
  refine MetFree.of_bodySF (plainFor_of_name pn_5) hisR ?_
  intro p e s m args below meth c s₁ Bd hml0 hP hK
  obtain ⟨rfl, hZ, hh⟩ := hP
  have hx := Bd.exec
  have hby := Bd.bytes
  have hml : c.maxLocals = 4 := hml0
  have hown : s.vm.findClass "java/util/Arrays" = some m.cls := findClass_of_methodNamed Bd.named
  have hnm := (name_of_methodNamed Bd.named Bd.method).1
  have X0 : Stand p l e ({ frames := 0, cells := 0, slots := 0, locals := 0 } : Room) s m #[(.ref r0), (.int p1)] below meth c s₁ [] 0 0 := Stand.of_body Bd
  have e0 : s₁.heap = h0 := by rw [← hh, Bd.state]; rfl
  have N0 := Fr.nil n0
  suffices HH : ∀ G : Outcome → State → Prop, (∀ v L U', Q5_8 Z r0 p1 f h0 n0 v U'.heap L → FrameEnd s (.returned v) U' L ({ frames := 0, cells := 0, slots := 0, locals := 0 } : Room).cells ({ frames := 0, cells := 0, slots := 0, locals := 0 } : Room).slots → G (.returned v) U') → Go p.tables e below G (s₁.setTop (mkF m 0 #[rv r0, iv p1, un, un] [])) by
    obtain ⟨s2, o, h1, h2, h3, h4⟩ := HH (fun o U' => ∃ v L, o = .returned v ∧ Q5_8 Z r0 p1 f h0 n0 v U'.heap L ∧ FrameEnd s o U' L ({ frames := 0, cells := 0, slots := 0, locals := 0 } : Room).cells ({ frames := 0, cells := 0, slots := 0, locals := 0 } : Room).slots) (fun v L U' q f => ⟨v, L, rfl, q, f⟩)
    exact ⟨s2, o, castTop (ef_5_8 m r0 p1) h1, h2, h3, h4⟩
  intro G hG
  have K0 := Keep.refl h0 [r0]
  show Go p.tables e below G (s₁.setTop (mkF m 0 #[rv r0, iv p1, un, un] []))
  refine Go.stp (fun t_ k_ => XS.iconst X0.here hx rfl (hb hby d5_0) k_) ?_
  show Go p.tables e below G (s₁.setTop (mkF m 1 #[rv r0, iv p1, un, un] [(.int (0 : Int32))]))
  refine Go.stp (fun t_ k_ => XS.istoreN X0.here hx rfl (hb hby d5_1) rfl (l' := #[rv r0, iv p1, iv (0 : Int32), un]) rfl k_) ?_
  show Go p.tables e below G (s₁.setTop (mkF m 2 #[rv r0, iv p1, iv (0 : Int32), un] []))
  refine Go.stp (fun t_ k_ => XS.aloadN X0.here hx rfl (hb hby d5_2) rfl rfl k_) ?_
  show Go p.tables e below G (s₁.setTop (mkF m 3 #[rv r0, iv p1, iv (0 : Int32), un] [(.ref r0)]))
  obtain ⟨cl1, Ar1, Sz1, -, -⟩ := id I_r0
  refine Go.stp (fun t_ k_ => X0.arraylength hx (by rw [e0]; exact Ar1.1) (State.isArrayOf_alike hZ.alike Ar1.2.1) (g := (mkF m 3 #[rv r0, iv p1, iv (0 : Int32), un] [(.ref r0)])) rfl rfl (hb hby d5_3) t_ k_) ?_
  rw [Sz1]
  show Go p.tables e below G (s₁.setTop (mkF m 4 #[rv r0, iv p1, iv (0 : Int32), un] [(.int (8 : Int32))]))
  refine Go.stp (fun t_ k_ => XS.istoreN X0.here hx rfl (hb hby d5_4) rfl (l' := #[rv r0, iv p1, iv (0 : Int32), iv (8 : Int32)]) rfl k_) ?_
  show Go p.tables e below G (s₁.setTop (mkF m 5 #[rv r0, iv p1, iv (0 : Int32), iv (8 : Int32)] []))
  suffices LP : ∀ (k : Nat) (T : State) (locs : List Loc) (h : Heap) (u : Nat) (g : Nat → Int32), Stand p l e ({ frames := 0, cells := 0, slots := 0, locals := 0 } : Room) s m #[(.ref r0), (.int p1)] below meth c T locs 0 0 → Fr n0 locs → T.heap = h → n0 ≤ h.size → Keep h0 h [r0] → Ia Z h r0 .int 8 Value.int g → (u + k = 8) → (∀ j, j < u → g j = p1) → Go p.tables e below G (T.setTop (mkF m 5 #[rv r0, iv p1, iv (own_i u), iv (8 : Int32)] [])) from LP (8) _ _ _ (0) (f) X0 N0 e0 Z0 K0 I_r0 rfl (fun j hj => absurd hj (Nat.not_lt_zero _))
  intro k
  induction k with
  | zero =>
    intro T locs h u g X N E Zh Kh fx0 hu hg
    obtain rfl : u = 8 := by omega
    show Go p.tables e below G (T.setTop (mkF m 5 #[rv r0, iv p1, iv (own_i 8), iv (8 : Int32)] []))
    refine Go.stp (fun t_ k_ => XS.iloadN X.here hx rfl (hb hby d5_5) rfl k_) ?_
    show Go p.tables e below G (T.setTop (mkF m 6 #[rv r0, iv p1, iv (own_i 8), iv (8 : Int32)] [(.int (own_i 8))]))
    refine Go.stp (fun t_ k_ => XS.iloadN X.here hx rfl (hb hby d5_6) rfl k_) ?_
    show Go p.tables e below G (T.setTop (mkF m 7 #[rv r0, iv p1, iv (own_i 8), iv (8 : Int32)] [(.int (8 : Int32)), (.int (own_i 8))]))
    have hd7 : ¬ ((own_i 8) < (8 : Int32)) := (by decide)
    refine Go.stp (fun t_ k_ => XS.icmpYes X.here hx rfl (pc0 := 7) (pc' := 20) rfl (hb hby d5_7) rfl (flt hd7).2.1 (by decide) (by decide) k_) ?_
    show Go p.tables e below G (T.setTop (mkF m 20 #[rv r0, iv p1, iv (own_i 8), iv (8 : Int32)] []))
    obtain ⟨fs, hr, hrun, hended, hW, hsame⟩ := X.leave (v := none) (fun _ => rfl)
    refine ⟨_, _, X.returnOut hx Bd.returns (hb hby d5_20) hr, hrun, hended, hG _ _ _ ?_ ⟨⟨_, rfl⟩, hW, hsame.mono (by decide) (by decide)⟩⟩
    show Q5_8 Z r0 p1 f h0 n0 _ T.heap _
    rw [E]
    exact ⟨rfl, N, Kh, Ia_cong fx0 hg⟩
  | succ k ih =>
    intro T locs h u g X N E Zh Kh fx0 hu hg
    show Go p.tables e below G (T.setTop (mkF m 5 #[rv r0, iv p1, iv (own_i u), iv (8 : Int32)] []))
    refine Go.stp (fun t_ k_ => XS.iloadN X.here hx rfl (hb hby d5_5) rfl k_) ?_
    show Go p.tables e below G (T.setTop (mkF m 6 #[rv r0, iv p1, iv (own_i u), iv (8 : Int32)] [(.int (own_i u))]))
    refine Go.stp (fun t_ k_ => XS.iloadN X.here hx rfl (hb hby d5_6) rfl k_) ?_
    show Go p.tables e below G (T.setTop (mkF m 7 #[rv r0, iv p1, iv (own_i u), iv (8 : Int32)] [(.int (8 : Int32)), (.int (own_i u))]))
    have hd7 : (own_i u) < (8 : Int32) := (by rw [Int32.lt_iff_toInt_lt, own_iv u (by omega), show (8 : Int32).toInt = 8 by decide]; omega)
    refine Go.stp (fun t_ k_ => XS.icmpNo X.here hx rfl (hb hby d5_7) rfl (tlt hd7).2.1 k_) ?_
    show Go p.tables e below G (T.setTop (mkF m 10 #[rv r0, iv p1, iv (own_i u), iv (8 : Int32)] []))
    refine Go.stp (fun t_ k_ => XS.aloadN X.here hx rfl (hb hby d5_10) rfl rfl k_) ?_
    show Go p.tables e below G (T.setTop (mkF m 11 #[rv r0, iv p1, iv (own_i u), iv (8 : Int32)] [(.ref r0)]))
    refine Go.stp (fun t_ k_ => XS.iloadN X.here hx rfl (hb hby d5_11) rfl k_) ?_
    show Go p.tables e below G (T.setTop (mkF m 12 #[rv r0, iv p1, iv (own_i u), iv (8 : Int32)] [(.int (own_i u)), (.ref r0)]))
    refine Go.stp (fun t_ k_ => XS.iloadN X.here hx rfl (hb hby d5_12) rfl k_) ?_
    show Go p.tables e below G (T.setTop (mkF m 13 #[rv r0, iv p1, iv (own_i u), iv (8 : Int32)] [(.int p1), (.int (own_i u)), (.ref r0)]))
    have ib2 : 0 ≤ ((own_i u)).toInt ∧ ((own_i u)).toInt < ((8 : Nat) : Int) := (by rw [own_iv u (by omega)]; omega)
    obtain ⟨cl2, Ar2, Sz2, -, -⟩ := id fx0
    obtain ⟨T2, h2, X2, e2, W2, st2⟩ := stI X hx hZ E Ar2 (j := (own_i u)) (in_of Sz2 ib2) (g := (mkF m 13 #[rv r0, iv p1, iv (own_i u), iv (8 : Int32)] [(.int p1), (.int (own_i u)), (.ref r0)])) rfl rfl (hb hby d5_13)
    have f3 : Ia Z h2 r0 .int 8 Value.int (upf g ((own_i u)).toNatClampNeg p1) := fx0.set W2 rfl
    have N2 := Fr.snoc X2 N g_r0
    have K2 := Kh.wr W2 (Or.inl (List.mem_of_getElem? (i := 0) rfl))
    have Z2 : n0 ≤ h2.size := Nat.le_trans Zh (Keep.of_wr W2).1
    refine Go.stp (fun t_ k_ => st2 t_ k_) ?_
    show Go p.tables e below G (T2.setTop (mkF m 14 #[rv r0, iv p1, iv (own_i u), iv (8 : Int32)] []))
    refine Go.stp (fun t_ k_ => XS.iinc X2.here hx rfl (hb hby d5_14) rfl (l' := #[rv r0, iv p1, iv ((own_i u) + (1 : Int32)), iv (8 : Int32)]) rfl k_) ?_
    show Go p.tables e below G (T2.setTop (mkF m 17 #[rv r0, iv p1, iv ((own_i u) + (1 : Int32)), iv (8 : Int32)] []))
    refine Go.stp (fun t_ k_ => XS.goto X2.here hx rfl (pc0 := 17) (pc' := 5) rfl (hb hby d5_17) (by decide) (by decide) k_) ?_
    show Go p.tables e below G (T2.setTop (mkF m 5 #[rv r0, iv p1, iv ((own_i u) + (1 : Int32)), iv (8 : Int32)] []))
    exact ih _ _ _ (u + 1) _ X2 N2 e2 Z2 K2 f3 (by omega) (own_fs hg (by omega))
theorem ef_5_16 (m : MethodId) (r0 : Addr) (p1 : Int32) : entryFrame m #[(.ref r0), (.int p1)] 4 = mkF m 0 #[rv r0, iv p1, un, un] [] := by first | (simp [entryFrame, mkF, argsToLocals, Value.category, iv, rv, lv, un, sd]; done) | rfl
def Q5_16 (Z : State) (r0 : Addr) (p1 : Int32) (f : Nat → Int32) (h0 : Heap) (n0 : Nat) (v : Option Value) (h : Heap) (L : List Loc) : Prop := v = none ∧ Fr n0 L ∧ Keep h0 h [r0] ∧ Ia Z h r0 .int 16 Value.int (fun _ => p1)
set_option maxRecDepth 65536 in
set_option maxHeartbeats 40000000 in
theorem rm5_16 (l : Launch) (Z : State) (a0 : Array Value) (hw : ∀ d ∈ tables_1, d.before a0 Z = true) (ws : List Jvm.Cond) (r0 : Addr) (p1 : Int32) (f : Nat → Int32) (h0 : Heap) (n0 : Nat) (Z0 : n0 ≤ h0.size) (I_r0 : Ia Z h0 r0 .int 16 Value.int f) (g_r0 : n0 ≤ r0) :
    MetFree l (⟨"java/util/Arrays", "fill", "([II)V"⟩ : MethodName) (head1 (Jvm.Cond.code (⟨"java/util/Arrays", "fill", "([II)V"⟩ : MethodName) jdk_65_method_103_code 4 none :: ws) ({ frames := 0, cells := 0, slots := 0, locals := 0 } : Room)) (fun a U => a = #[(.ref r0), (.int p1)] ∧ Z.Warmed39 U.vm ∧ U.heap = h0) (fun _ _ _ _ _ => True) (fun _ U o U' => ∃ v L, o = .returned v ∧ Q5_16 Z r0 p1 f h0 n0 v U'.heap L ∧ FrameEnd U o U' L ({ frames := 0, cells := 0, slots := 0, locals := 0 } : Room).cells ({ frames := 0, cells := 0, slots := 0, locals := 0 } : Room).slots) := by
  refine MetFree.of_bodySF (plainFor_of_name pn_5) hisR ?_
  intro p e s m args below meth c s₁ Bd hml0 hP hK
  obtain ⟨rfl, hZ, hh⟩ := hP
  have hx := Bd.exec
  have hby := Bd.bytes
  have hml : c.maxLocals = 4 := hml0
  have hown : s.vm.findClass "java/util/Arrays" = some m.cls := findClass_of_methodNamed Bd.named
  have hnm := (name_of_methodNamed Bd.named Bd.method).1
  have X0 : Stand p l e ({ frames := 0, cells := 0, slots := 0, locals := 0 } : Room) s m #[(.ref r0), (.int p1)] below meth c s₁ [] 0 0 := Stand.of_body Bd
  have e0 : s₁.heap = h0 := by rw [← hh, Bd.state]; rfl
  have N0 := Fr.nil n0
  suffices HH : ∀ G : Outcome → State → Prop, (∀ v L U', Q5_16 Z r0 p1 f h0 n0 v U'.heap L → FrameEnd s (.returned v) U' L ({ frames := 0, cells := 0, slots := 0, locals := 0 } : Room).cells ({ frames := 0, cells := 0, slots := 0, locals := 0 } : Room).slots → G (.returned v) U') → Go p.tables e below G (s₁.setTop (mkF m 0 #[rv r0, iv p1, un, un] [])) by
    obtain ⟨s2, o, h1, h2, h3, h4⟩ := HH (fun o U' => ∃ v L, o = .returned v ∧ Q5_16 Z r0 p1 f h0 n0 v U'.heap L ∧ FrameEnd s o U' L ({ frames := 0, cells := 0, slots := 0, locals := 0 } : Room).cells ({ frames := 0, cells := 0, slots := 0, locals := 0 } : Room).slots) (fun v L U' q f => ⟨v, L, rfl, q, f⟩)
    exact ⟨s2, o, castTop (ef_5_16 m r0 p1) h1, h2, h3, h4⟩
  intro G hG
  have K0 := Keep.refl h0 [r0]
  show Go p.tables e below G (s₁.setTop (mkF m 0 #[rv r0, iv p1, un, un] []))
  refine Go.stp (fun t_ k_ => XS.iconst X0.here hx rfl (hb hby d5_0) k_) ?_
  show Go p.tables e below G (s₁.setTop (mkF m 1 #[rv r0, iv p1, un, un] [(.int (0 : Int32))]))
  refine Go.stp (fun t_ k_ => XS.istoreN X0.here hx rfl (hb hby d5_1) rfl (l' := #[rv r0, iv p1, iv (0 : Int32), un]) rfl k_) ?_
  show Go p.tables e below G (s₁.setTop (mkF m 2 #[rv r0, iv p1, iv (0 : Int32), un] []))
  refine Go.stp (fun t_ k_ => XS.aloadN X0.here hx rfl (hb hby d5_2) rfl rfl k_) ?_
  show Go p.tables e below G (s₁.setTop (mkF m 3 #[rv r0, iv p1, iv (0 : Int32), un] [(.ref r0)]))
  obtain ⟨cl1, Ar1, Sz1, -, -⟩ := id I_r0
  refine Go.stp (fun t_ k_ => X0.arraylength hx (by rw [e0]; exact Ar1.1) (State.isArrayOf_alike hZ.alike Ar1.2.1) (g := (mkF m 3 #[rv r0, iv p1, iv (0 : Int32), un] [(.ref r0)])) rfl rfl (hb hby d5_3) t_ k_) ?_
  rw [Sz1]
  show Go p.tables e below G (s₁.setTop (mkF m 4 #[rv r0, iv p1, iv (0 : Int32), un] [(.int (16 : Int32))]))
  refine Go.stp (fun t_ k_ => XS.istoreN X0.here hx rfl (hb hby d5_4) rfl (l' := #[rv r0, iv p1, iv (0 : Int32), iv (16 : Int32)]) rfl k_) ?_
  show Go p.tables e below G (s₁.setTop (mkF m 5 #[rv r0, iv p1, iv (0 : Int32), iv (16 : Int32)] []))
  suffices LP : ∀ (k : Nat) (T : State) (locs : List Loc) (h : Heap) (u : Nat) (g : Nat → Int32), Stand p l e ({ frames := 0, cells := 0, slots := 0, locals := 0 } : Room) s m #[(.ref r0), (.int p1)] below meth c T locs 0 0 → Fr n0 locs → T.heap = h → n0 ≤ h.size → Keep h0 h [r0] → Ia Z h r0 .int 16 Value.int g → (u + k = 16) → (∀ j, j < u → g j = p1) → Go p.tables e below G (T.setTop (mkF m 5 #[rv r0, iv p1, iv (own_i u), iv (16 : Int32)] [])) from LP (16) _ _ _ (0) (f) X0 N0 e0 Z0 K0 I_r0 rfl (fun j hj => absurd hj (Nat.not_lt_zero _))
  intro k
  induction k with
  | zero =>
    intro T locs h u g X N E Zh Kh fx0 hu hg
    obtain rfl : u = 16 := by omega
    show Go p.tables e below G (T.setTop (mkF m 5 #[rv r0, iv p1, iv (own_i 16), iv (16 : Int32)] []))
    refine Go.stp (fun t_ k_ => XS.iloadN X.here hx rfl (hb hby d5_5) rfl k_) ?_
    show Go p.tables e below G (T.setTop (mkF m 6 #[rv r0, iv p1, iv (own_i 16), iv (16 : Int32)] [(.int (own_i 16))]))
    refine Go.stp (fun t_ k_ => XS.iloadN X.here hx rfl (hb hby d5_6) rfl k_) ?_
    show Go p.tables e below G (T.setTop (mkF m 7 #[rv r0, iv p1, iv (own_i 16), iv (16 : Int32)] [(.int (16 : Int32)), (.int (own_i 16))]))
    have hd7 : ¬ ((own_i 16) < (16 : Int32)) := (by decide)
    refine Go.stp (fun t_ k_ => XS.icmpYes X.here hx rfl (pc0 := 7) (pc' := 20) rfl (hb hby d5_7) rfl (flt hd7).2.1 (by decide) (by decide) k_) ?_
    show Go p.tables e below G (T.setTop (mkF m 20 #[rv r0, iv p1, iv (own_i 16), iv (16 : Int32)] []))
    obtain ⟨fs, hr, hrun, hended, hW, hsame⟩ := X.leave (v := none) (fun _ => rfl)
    refine ⟨_, _, X.returnOut hx Bd.returns (hb hby d5_20) hr, hrun, hended, hG _ _ _ ?_ ⟨⟨_, rfl⟩, hW, hsame.mono (by decide) (by decide)⟩⟩
    show Q5_16 Z r0 p1 f h0 n0 _ T.heap _
    rw [E]
    exact ⟨rfl, N, Kh, Ia_cong fx0 hg⟩
  | succ k ih =>
    intro T locs h u g X N E Zh Kh fx0 hu hg
    show Go p.tables e below G (T.setTop (mkF m 5 #[rv r0, iv p1, iv (own_i u), iv (16 : Int32)] []))
    refine Go.stp (fun t_ k_ => XS.iloadN X.here hx rfl (hb hby d5_5) rfl k_) ?_
    show Go p.tables e below G (T.setTop (mkF m 6 #[rv r0, iv p1, iv (own_i u), iv (16 : Int32)] [(.int (own_i u))]))
    refine Go.stp (fun t_ k_ => XS.iloadN X.here hx rfl (hb hby d5_6) rfl k_) ?_
    show Go p.tables e below G (T.setTop (mkF m 7 #[rv r0, iv p1, iv (own_i u), iv (16 : Int32)] [(.int (16 : Int32)), (.int (own_i u))]))
    have hd7 : (own_i u) < (16 : Int32) := (by rw [Int32.lt_iff_toInt_lt, own_iv u (by omega), show (16 : Int32).toInt = 16 by decide]; omega)
    refine Go.stp (fun t_ k_ => XS.icmpNo X.here hx rfl (hb hby d5_7) rfl (tlt hd7).2.1 k_) ?_
    show Go p.tables e below G (T.setTop (mkF m 10 #[rv r0, iv p1, iv (own_i u), iv (16 : Int32)] []))
    refine Go.stp (fun t_ k_ => XS.aloadN X.here hx rfl (hb hby d5_10) rfl rfl k_) ?_
    show Go p.tables e below G (T.setTop (mkF m 11 #[rv r0, iv p1, iv (own_i u), iv (16 : Int32)] [(.ref r0)]))
    refine Go.stp (fun t_ k_ => XS.iloadN X.here hx rfl (hb hby d5_11) rfl k_) ?_
    show Go p.tables e below G (T.setTop (mkF m 12 #[rv r0, iv p1, iv (own_i u), iv (16 : Int32)] [(.int (own_i u)), (.ref r0)]))
    refine Go.stp (fun t_ k_ => XS.iloadN X.here hx rfl (hb hby d5_12) rfl k_) ?_
    show Go p.tables e below G (T.setTop (mkF m 13 #[rv r0, iv p1, iv (own_i u), iv (16 : Int32)] [(.int p1), (.int (own_i u)), (.ref r0)]))
    have ib2 : 0 ≤ ((own_i u)).toInt ∧ ((own_i u)).toInt < ((16 : Nat) : Int) := (by rw [own_iv u (by omega)]; omega)
    obtain ⟨cl2, Ar2, Sz2, -, -⟩ := id fx0
    obtain ⟨T2, h2, X2, e2, W2, st2⟩ := stI X hx hZ E Ar2 (j := (own_i u)) (in_of Sz2 ib2) (g := (mkF m 13 #[rv r0, iv p1, iv (own_i u), iv (16 : Int32)] [(.int p1), (.int (own_i u)), (.ref r0)])) rfl rfl (hb hby d5_13)
    have f3 : Ia Z h2 r0 .int 16 Value.int (upf g ((own_i u)).toNatClampNeg p1) := fx0.set W2 rfl
    have N2 := Fr.snoc X2 N g_r0
    have K2 := Kh.wr W2 (Or.inl (List.mem_of_getElem? (i := 0) rfl))
    have Z2 : n0 ≤ h2.size := Nat.le_trans Zh (Keep.of_wr W2).1
    refine Go.stp (fun t_ k_ => st2 t_ k_) ?_
    show Go p.tables e below G (T2.setTop (mkF m 14 #[rv r0, iv p1, iv (own_i u), iv (16 : Int32)] []))
    refine Go.stp (fun t_ k_ => XS.iinc X2.here hx rfl (hb hby d5_14) rfl (l' := #[rv r0, iv p1, iv ((own_i u) + (1 : Int32)), iv (16 : Int32)]) rfl k_) ?_
    show Go p.tables e below G (T2.setTop (mkF m 17 #[rv r0, iv p1, iv ((own_i u) + (1 : Int32)), iv (16 : Int32)] []))
    refine Go.stp (fun t_ k_ => XS.goto X2.here hx rfl (pc0 := 17) (pc' := 5) rfl (hb hby d5_17) (by decide) (by decide) k_) ?_
    show Go p.tables e below G (T2.setTop (mkF m 5 #[rv r0, iv p1, iv ((own_i u) + (1 : Int32)), iv (16 : Int32)] []))
    exact ih _ _ _ (u + 1) _ X2 N2 e2 Z2 K2 f3 (by omega) (own_fs hg (by omega))
theorem pn_1 : plainName "com/example/chatterbench/chatterbench/data/IdIndex" = true := by first | (simp [plainName, overriddenIn]; done) | decide +kernel
theorem d1_0 : decode prog_10_method_1_code 0 = .ok (.aload_n 0, 1) := by decide +kernel
theorem d1_1 : decode prog_10_method_1_code 1 = .ok (.invokespecial 1, 3) := by decide +kernel
theorem d1_4 : decode prog_10_method_1_code 4 = .ok (.aload_n 0, 1) := by decide +kernel
theorem d1_5 : decode prog_10_method_1_code 5 = .ok (.aload_n 1, 1) := by decide +kernel
theorem d1_6 : decode prog_10_method_1_code 6 = .ok (.putfield 7, 3) := by decide +kernel
theorem d1_9 : decode prog_10_method_1_code 9 = .ok (.bipush 32, 2) := by decide +kernel
theorem d1_11 : decode prog_10_method_1_code 11 = .ok (.iconst 1, 1) := by decide +kernel
theorem d1_12 : decode prog_10_method_1_code 12 = .ok (.iconst 2, 1) := by decide +kernel
theorem d1_13 : decode prog_10_method_1_code 13 = .ok (.iload_n 2, 1) := by decide +kernel
theorem d1_14 : decode prog_10_method_1_code 14 = .ok (.imul, 1) := by decide +kernel
theorem d1_15 : decode prog_10_method_1_code 15 = .ok (.iconst 1, 1) := by decide +kernel
theorem d1_16 : decode prog_10_method_1_code 16 = .ok (.isub, 1) := by decide +kernel
theorem d1_17 : decode prog_10_method_1_code 17 = .ok (.invokestatic 15, 3) := by decide +kernel
theorem d1_20 : decode prog_10_method_1_code 20 = .ok (.invokestatic 21, 3) := by decide +kernel
theorem d1_23 : decode prog_10_method_1_code 23 = .ok (.isub, 1) := by decide +kernel
theorem d1_24 : decode prog_10_method_1_code 24 = .ok (.istore_n 3, 1) := by decide +kernel
theorem d1_25 : decode prog_10_method_1_code 25 = .ok (.aload_n 0, 1) := by decide +kernel
theorem d1_26 : decode prog_10_method_1_code 26 = .ok (.iconst 1, 1) := by decide +kernel
theorem d1_27 : decode prog_10_method_1_code 27 = .ok (.iload_n 3, 1) := by decide +kernel
theorem d1_28 : decode prog_10_method_1_code 28 = .ok (.ishl, 1) := by decide +kernel
theorem d1_29 : decode prog_10_method_1_code 29 = .ok (.newarray .long, 2) := by decide +kernel
theorem d1_31 : decode prog_10_method_1_code 31 = .ok (.putfield 25, 3) := by decide +kernel
theorem d1_34 : decode prog_10_method_1_code 34 = .ok (.aload_n 0, 1) := by decide +kernel
theorem d1_35 : decode prog_10_method_1_code 35 = .ok (.iconst 1, 1) := by decide +kernel
theorem d1_36 : decode prog_10_method_1_code 36 = .ok (.iload_n 3, 1) := by decide +kernel
theorem d1_37 : decode prog_10_method_1_code 37 = .ok (.ishl, 1) := by decide +kernel
theorem d1_38 : decode prog_10_method_1_code 38 = .ok (.newarray .int, 2) := by decide +kernel
theorem d1_40 : decode prog_10_method_1_code 40 = .ok (.putfield 29, 3) := by decide +kernel
theorem d1_43 : decode prog_10_method_1_code 43 = .ok (.aload_n 0, 1) := by decide +kernel
theorem d1_44 : decode prog_10_method_1_code 44 = .ok (.getfield 29, 3) := by decide +kernel
theorem d1_47 : decode prog_10_method_1_code 47 = .ok (.iconst (-1), 1) := by decide +kernel
theorem d1_48 : decode prog_10_method_1_code 48 = .ok (.invokestatic 33, 3) := by decide +kernel
theorem d1_51 : decode prog_10_method_1_code 51 = .ok (.aload_n 0, 1) := by decide +kernel
theorem d1_52 : decode prog_10_method_1_code 52 = .ok (.bipush 64, 2) := by decide +kernel
theorem d1_54 : decode prog_10_method_1_code 54 = .ok (.iload_n 3, 1) := by decide +kernel
theorem d1_55 : decode prog_10_method_1_code 55 = .ok (.isub, 1) := by decide +kernel
theorem d1_56 : decode prog_10_method_1_code 56 = .ok (.putfield 41, 3) := by decide +kernel
theorem d1_59 : decode prog_10_method_1_code 59 = .ok (.return_, 1) := by decide +kernel
theorem ef_1_c3 (m : MethodId) (r0 : Addr) : entryFrame m #[(.ref r0), .null, (.int (3 : Int32))] 4 = mkF m 0 #[rv r0, .val .null, iv (3 : Int32), un] [] := by first | (simp [entryFrame, mkF, argsToLocals, Value.category, iv, rv, lv, un, sd]; done) | rfl
def Q1_N8 (Z : State) (r0 : Addr) (h0 : Heap) (n0 : Nat) (v : Option Value) (h : Heap) (L : List Loc) : Prop := v = none ∧ Fr n0 L ∧ Keep h0 h [r0] ∧ ∃ ra ia : Addr, n0 ≤ ra ∧ n0 ≤ ia ∧ ra ≠ ia ∧ r0 ≠ ra ∧ r0 ≠ ia ∧ Exa Z h r0 "com/example/chatterbench/chatterbench/data/IdIndex" ∧ Fld Z h r0 "com/example/chatterbench/chatterbench/data/IdIndex" "rows" "[I" (.ref ra) ∧ Fld Z h r0 "com/example/chatterbench/chatterbench/data/IdIndex" "ids" "[J" (.ref ia) ∧ Fld Z h r0 "com/example/chatterbench/chatterbench/data/IdIndex" "shift" "I" (.int (61 : Int32)) ∧ Ia Z h ra .int 8 Value.int (fun _ => (-1 : Int32)) ∧ Ia Z h ia .long 8 Value.long (fun _ => (0 : Int64))
set_option maxRecDepth 65536 in
set_option maxHeartbeats 40000000 in
theorem rm1_c3 (l : Launch) (Z : State) (a0 : Array Value) (hw : ∀ d ∈ tables_1, d.before a0 Z = true) (ws : List Jvm.Cond) (r0 : Addr) (h0 : Heap) (n0 : Nat) (Z0 : n0 ≤ h0.size) (E_r0 : Exa Z h0 r0 "com/example/chatterbench/chatterbench/data/IdIndex") (F_entity : Fld Z h0 r0 "com/example/chatterbench/chatterbench/data/IdIndex" "entity" "Lcom/example/chatterbench/chatterbench/data/Entity;" .null) (F_ids : Fld Z h0 r0 "com/example/chatterbench/chatterbench/data/IdIndex" "ids" "[J" .null) (F_rows : Fld Z h0 r0 "com/example/chatterbench/chatterbench/data/IdIndex" "rows" "[I" .null) (F_shift : Fld Z h0 r0 "com/example/chatterbench/chatterbench/data/IdIndex" "shift" "I" (.int (0 : Int32))) (g_r0 : n0 ≤ r0) :
    MetFree l (⟨"com/example/chatterbench/chatterbench/data/IdIndex", "<init>", "(Lcom/example/chatterbench/chatterbench/data/Entity;I)V"⟩ : MethodName) (head1 (Jvm.Cond.code (⟨"com/example/chatterbench/chatterbench/data/IdIndex", "<init>", "(Lcom/example/chatterbench/chatterbench/data/Entity;I)V"⟩ : MethodName) prog_10_method_1_code 4 none :: ws) ({ frames := 1, cells := 2, slots := 16, locals := 16 } : Room)) (fun a U => a = #[(.ref r0), .null, (.int (3 : Int32))] ∧ Z.Warmed39 U.vm ∧ U.heap = h0) (fun _ _ _ _ _ => True) (fun _ U o U' => ∃ v L, o = .returned v ∧ Q1_N8 Z r0 h0 n0 v U'.heap L ∧ FrameEnd U o U' L ({ frames := 1, cells := 2, slots := 16, locals := 16 } : Room).cells ({ frames := 1, cells := 2, slots := 16, locals := 16 } : Room).slots) := by
  refine MetFree.of_bodySF (plainFor_of_name pn_1) hisR ?_
  intro p e s m args below meth c s₁ Bd hml0 hP hK
  obtain ⟨rfl, hZ, hh⟩ := hP
  have hx := Bd.exec
  have hby := Bd.bytes
  have hml : c.maxLocals = 4 := hml0
  have hown : s.vm.findClass "com/example/chatterbench/chatterbench/data/IdIndex" = some m.cls := findClass_of_methodNamed Bd.named
  have hnm := (name_of_methodNamed Bd.named Bd.method).1
  have X0 : Stand p l e ({ frames := 1, cells := 2, slots := 16, locals := 16 } : Room) s m #[(.ref r0), .null, (.int (3 : Int32))] below meth c s₁ [] 0 0 := Stand.of_body Bd
  have e0 : s₁.heap = h0 := by rw [← hh, Bd.state]; rfl
  have N0 := Fr.nil n0
  suffices HH : ∀ G : Outcome → State → Prop, (∀ v L U', Q1_N8 Z r0 h0 n0 v U'.heap L → FrameEnd s (.returned v) U' L ({ frames := 1, cells := 2, slots := 16, locals := 16 } : Room).cells ({ frames := 1, cells := 2, slots := 16, locals := 16 } : Room).slots → G (.returned v) U') → Go p.tables e below G (s₁.setTop (mkF m 0 #[rv r0, .val .null, iv (3 : Int32), un] [])) by
    obtain ⟨s2, o, h1, h2, h3, h4⟩ := HH (fun o U' => ∃ v L, o = .returned v ∧ Q1_N8 Z r0 h0 n0 v U'.heap L ∧ FrameEnd s o U' L ({ frames := 1, cells := 2, slots := 16, locals := 16 } : Room).cells ({ frames := 1, cells := 2, slots := 16, locals := 16 } : Room).slots) (fun v L U' q f => ⟨v, L, rfl, q, f⟩)
    exact ⟨s2, o, castTop (ef_1_c3 m r0) h1, h2, h3, h4⟩
  intro G hG
  have K0 := Keep.refl h0 [r0]
  show Go p.tables e below G (s₁.setTop (mkF m 0 #[rv r0, .val .null, iv (3 : Int32), un] []))
  refine Go.stp (fun t_ k_ => XS.aloadN X0.here hx rfl (hb hby d1_0) rfl rfl k_) ?_
  show Go p.tables e below G (s₁.setTop (mkF m 1 #[rv r0, .val .null, iv (3 : Int32), un] [(.ref r0)]))
  obtain ⟨T1, X1, e1, st1⟩ := initO X0 hx hZ hown (hw _ (List.mem_of_getElem? (i := 7) rfl)) (hw _ (List.mem_of_getElem? (i := 8) rfl)) (hw _ (List.mem_of_getElem? (i := 9) rfl)) e0 (g := (mkF m 1 #[rv r0, .val .null, iv (3 : Int32), un] [(.ref r0)])) rfl (by rw [hml]; rfl) rfl (hb hby d1_1) (by decide) (W := 0) (by show 2 * 0 + _ ≤ _; exact Nat.le_of_eq rfl) (by decide)
  refine Go.stp (fun t_ k_ => st1 t_ k_) ?_
  show Go p.tables e below G (T1.setTop (mkF m 4 #[rv r0, .val .null, iv (3 : Int32), un] []))
  refine Go.stp (fun t_ k_ => XS.aloadN X1.here hx rfl (hb hby d1_4) rfl rfl k_) ?_
  show Go p.tables e below G (T1.setTop (mkF m 5 #[rv r0, .val .null, iv (3 : Int32), un] [(.ref r0)]))
  refine Go.stp (fun t_ k_ => XS.aloadN X1.here hx rfl (hb hby d1_5) rfl rfl k_) ?_
  show Go p.tables e below G (T1.setTop (mkF m 6 #[rv r0, .val .null, iv (3 : Int32), un] [.null, (.ref r0)]))
  obtain ⟨T2, h2, X2, e2, W2, st2⟩ := putF X1 hx hZ hown (host := "") (Or.inl (hw _ (List.mem_of_getElem? (i := 10) rfl))) Via.refl e1 F_entity E_r0 (Or.inr ⟨(hw _ (List.mem_of_getElem? (i := 11) rfl)), rfl, hnm⟩) (hw _ (List.mem_of_getElem? (i := 2) rfl)) (ty := (.object "com/example/chatterbench/chatterbench/data/Entity")) (by decide) rfl rfl (g := (mkF m 6 #[rv r0, .val .null, iv (3 : Int32), un] [.null, (.ref r0)])) rfl rfl (hb hby d1_6)
  have f3 : Fld Z h2 r0 "com/example/chatterbench/chatterbench/data/IdIndex" "entity" "Lcom/example/chatterbench/chatterbench/data/Entity;" .null := F_entity.same W2
  have f4 : Exa Z h2 r0 "com/example/chatterbench/chatterbench/data/IdIndex" := E_r0.wr W2
  have f5 : Fld Z h2 r0 "com/example/chatterbench/chatterbench/data/IdIndex" "ids" "[J" .null := F_ids.other W2 (Or.inr (slot_ne (Or.inr (hw _ (List.mem_of_getElem? (i := 23) rfl))) (Or.inr (hw _ (List.mem_of_getElem? (i := 11) rfl))) (by decide) (t := (.array .long)) (t' := (.object "com/example/chatterbench/chatterbench/data/Entity")) (by decide) (by decide)))
  have f6 : Fld Z h2 r0 "com/example/chatterbench/chatterbench/data/IdIndex" "rows" "[I" .null := F_rows.other W2 (Or.inr (slot_ne (Or.inr (hw _ (List.mem_of_getElem? (i := 26) rfl))) (Or.inr (hw _ (List.mem_of_getElem? (i := 11) rfl))) (by decide) (t := (.array .int)) (t' := (.object "com/example/chatterbench/chatterbench/data/Entity")) (by decide) (by decide)))
  have f7 : Fld Z h2 r0 "com/example/chatterbench/chatterbench/data/IdIndex" "shift" "I" (.int (0 : Int32)) := F_shift.other W2 (Or.inr (slot_ne (Or.inr (hw _ (List.mem_of_getElem? (i := 32) rfl))) (Or.inr (hw _ (List.mem_of_getElem? (i := 11) rfl))) (by decide) (t := .int) (t' := (.object "com/example/chatterbench/chatterbench/data/Entity")) (by decide) (by decide)))
  have N2 := Fr.snoc X2 N0 g_r0
  have K2 := K0.wr W2 (Or.inl (List.mem_of_getElem? (i := 0) rfl))
  have Z2 : n0 ≤ h2.size := Nat.le_trans Z0 (Keep.of_wr W2).1
  refine Go.stp (fun t_ k_ => st2 t_ k_) ?_
  show Go p.tables e below G (T2.setTop (mkF m 9 #[rv r0, .val .null, iv (3 : Int32), un] []))
  refine Go.stp (fun t_ k_ => XS.bipush X2.here hx rfl (hb hby d1_9) k_) ?_
  show Go p.tables e below G (T2.setTop (mkF m 11 #[rv r0, .val .null, iv (3 : Int32), un] [(.int (32 : Int32))]))
  refine Go.stp (fun t_ k_ => XS.iconst X2.here hx rfl (hb hby d1_11) k_) ?_
  show Go p.tables e below G (T2.setTop (mkF m 12 #[rv r0, .val .null, iv (3 : Int32), un] [(.int (1 : Int32)), (.int (32 : Int32))]))
  refine Go.stp (fun t_ k_ => XS.iconst X2.here hx rfl (hb hby d1_12) k_) ?_
  show Go p.tables e below G (T2.setTop (mkF m 13 #[rv r0, .val .null, iv (3 : Int32), un] [(.int (2 : Int32)), (.int (1 : Int32)), (.int (32 : Int32))]))
  refine Go.stp (fun t_ k_ => XS.iloadN X2.here hx rfl (hb hby d1_13) rfl k_) ?_
  show Go p.tables e below G (T2.setTop (mkF m 14 #[rv r0, .val .null, iv (3 : Int32), un] [(.int (3 : Int32)), (.int (2 : Int32)), (.int (1 : Int32)), (.int (32 : Int32))]))
  refine Go.stp (fun t_ k_ => XS.imul X2.here hx rfl (hb hby d1_14) rfl k_) ?_
  show Go p.tables e below G (T2.setTop (mkF m 15 #[rv r0, .val .null, iv (3 : Int32), un] [(.int ((2 : Int32) * (3 : Int32))), (.int (1 : Int32)), (.int (32 : Int32))]))
  refine Go.stp (fun t_ k_ => XS.iconst X2.here hx rfl (hb hby d1_15) k_) ?_
  show Go p.tables e below G (T2.setTop (mkF m 16 #[rv r0, .val .null, iv (3 : Int32), un] [(.int (1 : Int32)), (.int ((2 : Int32) * (3 : Int32))), (.int (1 : Int32)), (.int (32 : Int32))]))
  refine Go.stp (fun t_ k_ => XS.isub X2.here hx rfl (hb hby d1_16) rfl k_) ?_
  show Go p.tables e below G (T2.setTop (mkF m 17 #[rv r0, .val .null, iv (3 : Int32), un] [(.int (((2 : Int32) * (3 : Int32)) - (1 : Int32))), (.int (1 : Int32)), (.int (32 : Int32))]))
  obtain ⟨_, _, ⟨T8, L8, k8, n8⟩, -, X8, ⟨Lc8, hQ8, l8, y8, z8⟩, st8⟩ := Jvm.LawKit.callS X2 hx (y := (⟨"java/lang/Math", "max", "(II)I"⟩ : MethodName)) hown (mvT hZ (hw _ (List.mem_of_getElem? (i := 12) rfl))) (mvT hZ (hw _ (List.mem_of_getElem? (i := 13) rfl))) (mvT hZ (hw _ (List.mem_of_getElem? (i := 14) rfl))) (mvT hZ (hw _ (List.mem_of_getElem? (i := 15) rfl))) (by decide) (backOf (W := 1) (rm3 l Z a0 hw [] (1 : Int32) (((2 : Int32) * (3 : Int32)) - (1 : Int32)) h2 n0 Z2) hZ (hw _ (List.mem_of_getElem? (i := 15) rfl)) (hw _ (List.mem_of_getElem? (i := 14) rfl)) (by decide) (by decide)) (g := (mkF m 17 #[rv r0, .val .null, iv (3 : Int32), un] [(.int (((2 : Int32) * (3 : Int32)) - (1 : Int32))), (.int (1 : Int32)), (.int (32 : Int32))])) rfl (by rw [hml]; rfl) (argsL := [(.int (1 : Int32)), (.int (((2 : Int32) * (3 : Int32)) - (1 : Int32)))]) (rest := [(.int (32 : Int32))]) (lenOf pd_0 rfl) rfl (by show 2 * 0 + _ ≤ _; exact Nat.le_of_eq rfl) (hb hby d1_17) (fun _ _ => ⟨rfl, e2, (by decide : 0 + 0 ≤ _), (by decide : 0 + 0 ≤ _)⟩)
  dsimp only [Pt.U, Pt.locs, Pt.cells, Pt.slots] at X8 l8 y8 z8 st8 hQ8
  subst l8 y8 z8
  obtain ⟨rfl, Nq8, e8⟩ := hQ8
  have N8 := Fr.app N2 Nq8
  have pp8 : own_max (1 : Int32) (((2 : Int32) * (3 : Int32)) - (1 : Int32)) = (5 : Int32) := by decide
  rw [pp8] at st8
  refine Go.stp (fun t_ k_ => st8 t_ k_) ?_
  show Go p.tables e below G (T8.setTop (mkF m 20 #[rv r0, .val .null, iv (3 : Int32), un] [(.int (5 : Int32)), (.int (32 : Int32))]))
  obtain ⟨_, _, ⟨T9, L9, k9, n9⟩, -, X9, ⟨Lc9, hQ9, l9, y9, z9⟩, st9⟩ := Jvm.LawKit.callS X8 hx (y := (⟨"java/lang/Integer", "numberOfLeadingZeros", "(I)I"⟩ : MethodName)) hown (mvT hZ (hw _ (List.mem_of_getElem? (i := 16) rfl))) (mvT hZ (hw _ (List.mem_of_getElem? (i := 17) rfl))) (mvT hZ (hw _ (List.mem_of_getElem? (i := 18) rfl))) (mvT hZ (hw _ (List.mem_of_getElem? (i := 19) rfl))) (by decide) (backOf (W := 1) (rm4_5 l Z a0 hw [] h2 n0 Z2) hZ (hw _ (List.mem_of_getElem? (i := 19) rfl)) (hw _ (List.mem_of_getElem? (i := 18) rfl)) (by decide) (by decide)) (g := (mkF m 20 #[rv r0, .val .null, iv (3 : Int32), un] [(.int (5 : Int32)), (.int (32 : Int32))])) rfl (by rw [hml]; rfl) (argsL := [(.int (5 : Int32))]) (rest := [(.int (32 : Int32))]) (lenOf pd_1 rfl) rfl (by show 2 * 0 + _ ≤ _; exact Nat.le_of_eq rfl) (hb hby d1_20) (fun _ _ => ⟨rfl, e8, (by decide : 0 + 0 ≤ _), (by decide : 0 + 0 ≤ _)⟩)
  dsimp only [Pt.U, Pt.locs, Pt.cells, Pt.slots] at X9 l9 y9 z9 st9 hQ9
  subst l9 y9 z9
  obtain ⟨rfl, Nq9, e9⟩ := hQ9
  have N9 := Fr.app N8 Nq9
  refine Go.stp (fun t_ k_ => st9 t_ k_) ?_
  show Go p.tables e below G (T9.setTop (mkF m 23 #[rv r0, .val .null, iv (3 : Int32), un] [(.int (29 : Int32)), (.int (32 : Int32))]))
  refine Go.stp (fun t_ k_ => XS.isub X9.here hx rfl (hb hby d1_23) rfl k_) ?_
  show Go p.tables e below G (T9.setTop (mkF m 24 #[rv r0, .val .null, iv (3 : Int32), un] [(.int ((32 : Int32) - (29 : Int32)))]))
  refine Go.stp (fun t_ k_ => XS.istoreN X9.here hx rfl (hb hby d1_24) rfl (l' := #[rv r0, .val .null, iv (3 : Int32), iv ((32 : Int32) - (29 : Int32))]) rfl k_) ?_
  show Go p.tables e below G (T9.setTop (mkF m 25 #[rv r0, .val .null, iv (3 : Int32), iv ((32 : Int32) - (29 : Int32))] []))
  refine Go.stp (fun t_ k_ => XS.aloadN X9.here hx rfl (hb hby d1_25) rfl rfl k_) ?_
  show Go p.tables e below G (T9.setTop (mkF m 26 #[rv r0, .val .null, iv (3 : Int32), iv ((32 : Int32) - (29 : Int32))] [(.ref r0)]))
  refine Go.stp (fun t_ k_ => XS.iconst X9.here hx rfl (hb hby d1_26) k_) ?_
  show Go p.tables e below G (T9.setTop (mkF m 27 #[rv r0, .val .null, iv (3 : Int32), iv ((32 : Int32) - (29 : Int32))] [(.int (1 : Int32)), (.ref r0)]))
  refine Go.stp (fun t_ k_ => XS.iloadN X9.here hx rfl (hb hby d1_27) rfl k_) ?_
  show Go p.tables e below G (T9.setTop (mkF m 28 #[rv r0, .val .null, iv (3 : Int32), iv ((32 : Int32) - (29 : Int32))] [(.int ((32 : Int32) - (29 : Int32))), (.int (1 : Int32)), (.ref r0)]))
  refine Go.stp (fun t_ k_ => XS.ishl X9.here hx rfl (hb hby d1_28) rfl k_) ?_
  show Go p.tables e below G (T9.setTop (mkF m 29 #[rv r0, .val .null, iv (3 : Int32), iv ((32 : Int32) - (29 : Int32))] [(.int ((1 : Int32) <<< (((32 : Int32) - (29 : Int32)) &&& 31))), (.ref r0)]))
  obtain ⟨T10, h10, k10, X10, e10, E10, A10, st10⟩ := newP X9 hx hZ (hw _ (List.mem_of_getElem? (i := 21) rfl)) e9 (g := (mkF m 29 #[rv r0, .val .null, iv (3 : Int32), iv ((32 : Int32) - (29 : Int32))] [(.int ((1 : Int32) <<< (((32 : Int32) - (29 : Int32)) &&& 31))), (.ref r0)])) rfl (hb hby d1_29) rfl (by decide) (cap := 8) (by decide) (by decide) (by decide) (by decide)
  obtain ⟨b10, g10⟩ : ∃ z, z = h2.size := ⟨_, rfl⟩
  rw [← g10] at A10 st10
  have u11 : r0 ≠ b10 := Nat.ne_of_lt (Nat.lt_of_lt_of_le f4.lt (Nat.le_of_eq g10.symm))
  have g_b10 : n0 ≤ b10 := Nat.le_trans Z2 (Nat.le_of_eq g10.symm)
  have sz_b10 : h0.size ≤ b10 := Nat.le_trans K2.1 (Nat.le_of_eq g10.symm)
  have f12 : Exa Z h10 r0 "com/example/chatterbench/chatterbench/data/IdIndex" := f4.ext E10
  have f13 : Fld Z h10 r0 "com/example/chatterbench/chatterbench/data/IdIndex" "ids" "[J" .null := f5.ext E10
  have f14 : Fld Z h10 r0 "com/example/chatterbench/chatterbench/data/IdIndex" "rows" "[I" .null := f6.ext E10
  have f15 : Fld Z h10 r0 "com/example/chatterbench/chatterbench/data/IdIndex" "shift" "I" (.int (0 : Int32)) := f7.ext E10
  have f16 : Fld Z h10 r0 "com/example/chatterbench/chatterbench/data/IdIndex" "entity" "Lcom/example/chatterbench/chatterbench/data/Entity;" .null := f3.ext E10
  have Z10 : n0 ≤ h10.size := Nat.le_trans Z2 E10.1
  have K10 := K2.ext E10
  have f17 : Ia Z h10 b10 .long 8 Value.long (fun _ => (0 : Int64)) := Ia.new A10 (by decide) (by decide) rfl
  refine Go.stp (fun t_ k_ => st10 t_ k_) ?_
  show Go p.tables e below G (T10.setTop (mkF m 31 #[rv r0, .val .null, iv (3 : Int32), iv ((32 : Int32) - (29 : Int32))] [(.ref b10), (.ref r0)]))
  obtain ⟨T18, h18, X18, e18, W18, st18⟩ := putF X10 hx hZ hown (host := "") (Or.inl (hw _ (List.mem_of_getElem? (i := 22) rfl))) Via.refl e10 f13 f12 (Or.inr ⟨(hw _ (List.mem_of_getElem? (i := 23) rfl)), rfl, hnm⟩) (hw _ (List.mem_of_getElem? (i := 2) rfl)) (ty := (.array .long)) (by decide) rfl rfl (g := (mkF m 31 #[rv r0, .val .null, iv (3 : Int32), iv ((32 : Int32) - (29 : Int32))] [(.ref b10), (.ref r0)])) rfl rfl (hb hby d1_31)
  have f19 : Fld Z h18 r0 "com/example/chatterbench/chatterbench/data/IdIndex" "ids" "[J" (.ref b10) := f13.same W18
  have f20 : Exa Z h18 r0 "com/example/chatterbench/chatterbench/data/IdIndex" := f12.wr W18
  have f21 : Fld Z h18 r0 "com/example/chatterbench/chatterbench/data/IdIndex" "rows" "[I" .null := f14.other W18 (Or.inr (slot_ne (Or.inr (hw _ (List.mem_of_getElem? (i := 26) rfl))) (Or.inr (hw _ (List.mem_of_getElem? (i := 23) rfl))) (by decide) (t := (.array .int)) (t' := (.array .long)) (by decide) (by decide)))
  have f22 : Fld Z h18 r0 "com/example/chatterbench/chatterbench/data/IdIndex" "shift" "I" (.int (0 : Int32)) := f15.other W18 (Or.inr (slot_ne (Or.inr (hw _ (List.mem_of_getElem? (i := 32) rfl))) (Or.inr (hw _ (List.mem_of_getElem? (i := 23) rfl))) (by decide) (t := .int) (t' := (.array .long)) (by decide) (by decide)))
  have f23 : Fld Z h18 r0 "com/example/chatterbench/chatterbench/data/IdIndex" "entity" "Lcom/example/chatterbench/chatterbench/data/Entity;" .null := f16.other W18 (Or.inr (slot_ne (Or.inr (hw _ (List.mem_of_getElem? (i := 11) rfl))) (Or.inr (hw _ (List.mem_of_getElem? (i := 23) rfl))) (by decide) (t := (.object "com/example/chatterbench/chatterbench/data/Entity")) (t' := (.array .long)) (by decide) (by decide)))
  have f24 : Ia Z h18 b10 .long 8 Value.long (fun _ => (0 : Int64)) := f17.other W18 (Ne.symm u11)
  have N18 := Fr.snoc X18 N9 g_r0
  have K18 := K10.wr W18 (Or.inl (List.mem_of_getElem? (i := 0) rfl))
  have Z18 : n0 ≤ h18.size := Nat.le_trans Z10 (Keep.of_wr W18).1
  refine Go.stp (fun t_ k_ => st18 t_ k_) ?_
  show Go p.tables e below G (T18.setTop (mkF m 34 #[rv r0, .val .null, iv (3 : Int32), iv ((32 : Int32) - (29 : Int32))] []))
  refine Go.stp (fun t_ k_ => XS.aloadN X18.here hx rfl (hb hby d1_34) rfl rfl k_) ?_
  show Go p.tables e below G (T18.setTop (mkF m 35 #[rv r0, .val .null, iv (3 : Int32), iv ((32 : Int32) - (29 : Int32))] [(.ref r0)]))
  refine Go.stp (fun t_ k_ => XS.iconst X18.here hx rfl (hb hby d1_35) k_) ?_
  show Go p.tables e below G (T18.setTop (mkF m 36 #[rv r0, .val .null, iv (3 : Int32), iv ((32 : Int32) - (29 : Int32))] [(.int (1 : Int32)), (.ref r0)]))
  refine Go.stp (fun t_ k_ => XS.iloadN X18.here hx rfl (hb hby d1_36) rfl k_) ?_
  show Go p.tables e below G (T18.setTop (mkF m 37 #[rv r0, .val .null, iv (3 : Int32), iv ((32 : Int32) - (29 : Int32))] [(.int ((32 : Int32) - (29 : Int32))), (.int (1 : Int32)), (.ref r0)]))
  refine Go.stp (fun t_ k_ => XS.ishl X18.here hx rfl (hb hby d1_37) rfl k_) ?_
  show Go p.tables e below G (T18.setTop (mkF m 38 #[rv r0, .val .null, iv (3 : Int32), iv ((32 : Int32) - (29 : Int32))] [(.int ((1 : Int32) <<< (((32 : Int32) - (29 : Int32)) &&& 31))), (.ref r0)]))
  obtain ⟨T25, h25, k25, X25, e25, E25, A25, st25⟩ := newP X18 hx hZ (hw _ (List.mem_of_getElem? (i := 24) rfl)) e18 (g := (mkF m 38 #[rv r0, .val .null, iv (3 : Int32), iv ((32 : Int32) - (29 : Int32))] [(.int ((1 : Int32) <<< (((32 : Int32) - (29 : Int32)) &&& 31))), (.ref r0)])) rfl (hb hby d1_38) rfl (by decide) (cap := 8) (by decide) (by decide) (by decide) (by decide)
  obtain ⟨b25, g25⟩ : ∃ z, z = h18.size := ⟨_, rfl⟩
  rw [← g25] at A25 st25
  have u26 : r0 ≠ b25 := Nat.ne_of_lt (Nat.lt_of_lt_of_le f20.lt (Nat.le_of_eq g25.symm))
  have u27 : b10 ≠ b25 := Nat.ne_of_lt (Nat.lt_of_lt_of_le f24.lt (Nat.le_of_eq g25.symm))
  have g_b25 : n0 ≤ b25 := Nat.le_trans Z18 (Nat.le_of_eq g25.symm)
  have sz_b25 : h0.size ≤ b25 := Nat.le_trans K18.1 (Nat.le_of_eq g25.symm)
  have f28 : Exa Z h25 r0 "com/example/chatterbench/chatterbench/data/IdIndex" := f20.ext E25
  have f29 : Fld Z h25 r0 "com/example/chatterbench/chatterbench/data/IdIndex" "rows" "[I" .null := f21.ext E25
  have f30 : Fld Z h25 r0 "com/example/chatterbench/chatterbench/data/IdIndex" "shift" "I" (.int (0 : Int32)) := f22.ext E25
  have f31 : Fld Z h25 r0 "com/example/chatterbench/chatterbench/data/IdIndex" "entity" "Lcom/example/chatterbench/chatterbench/data/Entity;" .null := f23.ext E25
  have f32 : Ia Z h25 b10 .long 8 Value.long (fun _ => (0 : Int64)) := f24.ext E25
  have f33 : Fld Z h25 r0 "com/example/chatterbench/chatterbench/data/IdIndex" "ids" "[J" (.ref b10) := f19.ext E25
  have Z25 : n0 ≤ h25.size := Nat.le_trans Z18 E25.1
  have K25 := K18.ext E25
  have f34 : Ia Z h25 b25 .int 8 Value.int (fun _ => (0 : Int32)) := Ia.new A25 (by decide) (by decide) rfl
  refine Go.stp (fun t_ k_ => st25 t_ k_) ?_
  show Go p.tables e below G (T25.setTop (mkF m 40 #[rv r0, .val .null, iv (3 : Int32), iv ((32 : Int32) - (29 : Int32))] [(.ref b25), (.ref r0)]))
  obtain ⟨T35, h35, X35, e35, W35, st35⟩ := putF X25 hx hZ hown (host := "") (Or.inl (hw _ (List.mem_of_getElem? (i := 25) rfl))) Via.refl e25 f29 f28 (Or.inr ⟨(hw _ (List.mem_of_getElem? (i := 26) rfl)), rfl, hnm⟩) (hw _ (List.mem_of_getElem? (i := 2) rfl)) (ty := (.array .int)) (by decide) rfl rfl (g := (mkF m 40 #[rv r0, .val .null, iv (3 : Int32), iv ((32 : Int32) - (29 : Int32))] [(.ref b25), (.ref r0)])) rfl rfl (hb hby d1_40)
  have f36 : Fld Z h35 r0 "com/example/chatterbench/chatterbench/data/IdIndex" "rows" "[I" (.ref b25) := f29.same W35
  have f37 : Exa Z h35 r0 "com/example/chatterbench/chatterbench/data/IdIndex" := f28.wr W35
  have f38 : Fld Z h35 r0 "com/example/chatterbench/chatterbench/data/IdIndex" "shift" "I" (.int (0 : Int32)) := f30.other W35 (Or.inr (slot_ne (Or.inr (hw _ (List.mem_of_getElem? (i := 32) rfl))) (Or.inr (hw _ (List.mem_of_getElem? (i := 26) rfl))) (by decide) (t := .int) (t' := (.array .int)) (by decide) (by decide)))
  have f39 : Fld Z h35 r0 "com/example/chatterbench/chatterbench/data/IdIndex" "entity" "Lcom/example/chatterbench/chatterbench/data/Entity;" .null := f31.other W35 (Or.inr (slot_ne (Or.inr (hw _ (List.mem_of_getElem? (i := 11) rfl))) (Or.inr (hw _ (List.mem_of_getElem? (i := 26) rfl))) (by decide) (t := (.object "com/example/chatterbench/chatterbench/data/Entity")) (t' := (.array .int)) (by decide) (by decide)))
  have f40 : Ia Z h35 b10 .long 8 Value.long (fun _ => (0 : Int64)) := f32.other W35 (Ne.symm u11)
  have f41 : Fld Z h35 r0 "com/example/chatterbench/chatterbench/data/IdIndex" "ids" "[J" (.ref b10) := f33.other W35 (Or.inr (slot_ne (Or.inr (hw _ (List.mem_of_getElem? (i := 23) rfl))) (Or.inr (hw _ (List.mem_of_getElem? (i := 26) rfl))) (by decide) (t := (.array .long)) (t' := (.array .int)) (by decide) (by decide)))
  have f42 : Ia Z h35 b25 .int 8 Value.int (fun _ => (0 : Int32)) := f34.other W35 (Ne.symm u26)
  have N35 := Fr.snoc X35 N18 g_r0
  have K35 := K25.wr W35 (Or.inl (List.mem_of_getElem? (i := 0) rfl))
  have Z35 : n0 ≤ h35.size := Nat.le_trans Z25 (Keep.of_wr W35).1
  refine Go.stp (fun t_ k_ => st35 t_ k_) ?_
  show Go p.tables e below G (T35.setTop (mkF m 43 #[rv r0, .val .null, iv (3 : Int32), iv ((32 : Int32) - (29 : Int32))] []))
  refine Go.stp (fun t_ k_ => XS.aloadN X35.here hx rfl (hb hby d1_43) rfl rfl k_) ?_
  show Go p.tables e below G (T35.setTop (mkF m 44 #[rv r0, .val .null, iv (3 : Int32), iv ((32 : Int32) - (29 : Int32))] [(.ref r0)]))
  obtain ⟨T43, X43, e43, st43⟩ := getF X35 hx hZ hown (host := "") (Or.inl (hw _ (List.mem_of_getElem? (i := 25) rfl))) Via.refl e35 f36 (g := (mkF m 44 #[rv r0, .val .null, iv (3 : Int32), iv ((32 : Int32) - (29 : Int32))] [(.ref r0)])) rfl rfl (hb hby d1_44)
  refine Go.stp (fun t_ k_ => st43 t_ k_) ?_
  show Go p.tables e below G (T43.setTop (mkF m 47 #[rv r0, .val .null, iv (3 : Int32), iv ((32 : Int32) - (29 : Int32))] [(.ref b25)]))
  refine Go.stp (fun t_ k_ => XS.iconst X43.here hx rfl (hb hby d1_47) k_) ?_
  show Go p.tables e below G (T43.setTop (mkF m 48 #[rv r0, .val .null, iv (3 : Int32), iv ((32 : Int32) - (29 : Int32))] [(.int (-1 : Int32)), (.ref b25)]))
  obtain ⟨_, _, ⟨T44, L44, k44, n44⟩, -, X44, ⟨Lc44, hQ44, l44, y44, z44⟩, st44⟩ := Jvm.LawKit.callS X43 hx (y := (⟨"java/util/Arrays", "fill", "([II)V"⟩ : MethodName)) hown (mvT hZ (hw _ (List.mem_of_getElem? (i := 27) rfl))) (mvT hZ (hw _ (List.mem_of_getElem? (i := 28) rfl))) (mvT hZ (hw _ (List.mem_of_getElem? (i := 29) rfl))) (mvT hZ (hw _ (List.mem_of_getElem? (i := 30) rfl))) (by decide) (backOf (W := 0) (rm5_8 l Z a0 hw [] b25 (-1 : Int32) (fun _ => (0 : Int32)) h35 n0 Z35 f42 g_b25) hZ (hw _ (List.mem_of_getElem? (i := 30) rfl)) (hw _ (List.mem_of_getElem? (i := 29) rfl)) (by decide) (by decide)) (g := (mkF m 48 #[rv r0, .val .null, iv (3 : Int32), iv ((32 : Int32) - (29 : Int32))] [(.int (-1 : Int32)), (.ref b25)])) rfl (by rw [hml]; rfl) (argsL := [(.ref b25), (.int (-1 : Int32))]) (rest := []) (lenOf pd_2 rfl) rfl (by show 2 * 0 + _ ≤ _; exact Nat.le_of_eq rfl) (hb hby d1_48) (fun _ _ => ⟨rfl, e43, (by decide : 2 + 0 ≤ _), (by decide : 16 + 0 ≤ _)⟩)
  dsimp only [Pt.U, Pt.locs, Pt.cells, Pt.slots] at X44 l44 y44 z44 st44 hQ44
  subst l44 y44 z44
  obtain ⟨rfl, Nq44, Kc44, Iq44⟩ := hQ44
  have N44 := Fr.app N35 Nq44
  have f45 : Exa Z T44.heap r0 "com/example/chatterbench/chatterbench/data/IdIndex" := f37.keep Kc44
  have f46 : Fld Z T44.heap r0 "com/example/chatterbench/chatterbench/data/IdIndex" "shift" "I" (.int (0 : Int32)) := f38.keep Kc44 (fun q => by simp only [List.mem_cons, List.not_mem_nil, or_false] at q; exact u26 q)
  have f47 : Fld Z T44.heap r0 "com/example/chatterbench/chatterbench/data/IdIndex" "entity" "Lcom/example/chatterbench/chatterbench/data/Entity;" .null := f39.keep Kc44 (fun q => by simp only [List.mem_cons, List.not_mem_nil, or_false] at q; exact u26 q)
  have f48 : Ia Z T44.heap b10 .long 8 Value.long (fun _ => (0 : Int64)) := f40.keep Kc44 (fun q => by simp only [List.mem_cons, List.not_mem_nil, or_false] at q; exact u27 q)
  have f49 : Fld Z T44.heap r0 "com/example/chatterbench/chatterbench/data/IdIndex" "ids" "[J" (.ref b10) := f41.keep Kc44 (fun q => by simp only [List.mem_cons, List.not_mem_nil, or_false] at q; exact u26 q)
  have f50 : Fld Z T44.heap r0 "com/example/chatterbench/chatterbench/data/IdIndex" "rows" "[I" (.ref b25) := f36.keep Kc44 (fun q => by simp only [List.mem_cons, List.not_mem_nil, or_false] at q; exact u26 q)
  have Z44 : n0 ≤ T44.heap.size := Nat.le_trans Z35 Kc44.1
  have K44 := K35.trans Kc44 (fun x q => by
      simp only [List.mem_cons, List.not_mem_nil, or_false] at q
      rw [q]; exact (Or.inr sz_b25))
  refine Go.stp (fun t_ k_ => st44 t_ k_) ?_
  show Go p.tables e below G (T44.setTop (mkF m 51 #[rv r0, .val .null, iv (3 : Int32), iv ((32 : Int32) - (29 : Int32))] []))
  refine Go.stp (fun t_ k_ => XS.aloadN X44.here hx rfl (hb hby d1_51) rfl rfl k_) ?_
  show Go p.tables e below G (T44.setTop (mkF m 52 #[rv r0, .val .null, iv (3 : Int32), iv ((32 : Int32) - (29 : Int32))] [(.ref r0)]))
  refine Go.stp (fun t_ k_ => XS.bipush X44.here hx rfl (hb hby d1_52) k_) ?_
  show Go p.tables e below G (T44.setTop (mkF m 54 #[rv r0, .val .null, iv (3 : Int32), iv ((32 : Int32) - (29 : Int32))] [(.int (64 : Int32)), (.ref r0)]))
  refine Go.stp (fun t_ k_ => XS.iloadN X44.here hx rfl (hb hby d1_54) rfl k_) ?_
  show Go p.tables e below G (T44.setTop (mkF m 55 #[rv r0, .val .null, iv (3 : Int32), iv ((32 : Int32) - (29 : Int32))] [(.int ((32 : Int32) - (29 : Int32))), (.int (64 : Int32)), (.ref r0)]))
  refine Go.stp (fun t_ k_ => XS.isub X44.here hx rfl (hb hby d1_55) rfl k_) ?_
  show Go p.tables e below G (T44.setTop (mkF m 56 #[rv r0, .val .null, iv (3 : Int32), iv ((32 : Int32) - (29 : Int32))] [(.int ((64 : Int32) - ((32 : Int32) - (29 : Int32)))), (.ref r0)]))
  obtain ⟨T51, h51, X51, e51, W51, st51⟩ := putF X44 hx hZ hown (host := "") (Or.inl (hw _ (List.mem_of_getElem? (i := 31) rfl))) Via.refl rfl f46 f45 (Or.inr ⟨(hw _ (List.mem_of_getElem? (i := 32) rfl)), rfl, hnm⟩) (hw _ (List.mem_of_getElem? (i := 2) rfl)) (ty := .int) (by decide) rfl rfl (g := (mkF m 56 #[rv r0, .val .null, iv (3 : Int32), iv ((32 : Int32) - (29 : Int32))] [(.int ((64 : Int32) - ((32 : Int32) - (29 : Int32)))), (.ref r0)])) rfl rfl (hb hby d1_56)
  have f52 : Fld Z h51 r0 "com/example/chatterbench/chatterbench/data/IdIndex" "shift" "I" (.int ((64 : Int32) - ((32 : Int32) - (29 : Int32)))) := f46.same W51
  have f53 : Exa Z h51 r0 "com/example/chatterbench/chatterbench/data/IdIndex" := f45.wr W51
  have f54 : Fld Z h51 r0 "com/example/chatterbench/chatterbench/data/IdIndex" "entity" "Lcom/example/chatterbench/chatterbench/data/Entity;" .null := f47.other W51 (Or.inr (slot_ne (Or.inr (hw _ (List.mem_of_getElem? (i := 11) rfl))) (Or.inr (hw _ (List.mem_of_getElem? (i := 32) rfl))) (by decide) (t := (.object "com/example/chatterbench/chatterbench/data/Entity")) (t' := .int) (by decide) (by decide)))
  have f55 : Ia Z h51 b10 .long 8 Value.long (fun _ => (0 : Int64)) := f48.other W51 (Ne.symm u11)
  have f56 : Fld Z h51 r0 "com/example/chatterbench/chatterbench/data/IdIndex" "ids" "[J" (.ref b10) := f49.other W51 (Or.inr (slot_ne (Or.inr (hw _ (List.mem_of_getElem? (i := 23) rfl))) (Or.inr (hw _ (List.mem_of_getElem? (i := 32) rfl))) (by decide) (t := (.array .long)) (t' := .int) (by decide) (by decide)))
  have f57 : Fld Z h51 r0 "com/example/chatterbench/chatterbench/data/IdIndex" "rows" "[I" (.ref b25) := f50.other W51 (Or.inr (slot_ne (Or.inr (hw _ (List.mem_of_getElem? (i := 26) rfl))) (Or.inr (hw _ (List.mem_of_getElem? (i := 32) rfl))) (by decide) (t := (.array .int)) (t' := .int) (by decide) (by decide)))
  have f58 : Ia Z h51 b25 .int 8 Value.int (fun _ => (-1 : Int32)) := Iq44.other W51 (Ne.symm u26)
  have N51 := Fr.snoc X51 N44 g_r0
  have K51 := K44.wr W51 (Or.inl (List.mem_of_getElem? (i := 0) rfl))
  have Z51 : n0 ≤ h51.size := Nat.le_trans Z44 (Keep.of_wr W51).1
  refine Go.stp (fun t_ k_ => st51 t_ k_) ?_
  show Go p.tables e below G (T51.setTop (mkF m 59 #[rv r0, .val .null, iv (3 : Int32), iv ((32 : Int32) - (29 : Int32))] []))
  obtain ⟨fs, hr, hrun, hended, hW, hsame⟩ := X51.leave (v := none) (fun _ => rfl)
  refine ⟨_, _, X51.returnOut hx Bd.returns (hb hby d1_59) hr, hrun, hended, hG _ _ _ ?_ ⟨⟨_, rfl⟩, hW, hsame.mono (by decide) (by decide)⟩⟩
  show Q1_N8 Z r0 h0 n0 _ T51.heap _
  rw [e51]
  have Fs : Fld Z h51 r0 "com/example/chatterbench/chatterbench/data/IdIndex" "shift" "I" (.int (61 : Int32)) := by
    have q := f52
    rw [show ((64 : Int32) - ((32 : Int32) - (29 : Int32))) = (61 : Int32) by decide] at q
    exact q
  exact ⟨rfl, N51, K51, b25, b10, g_b25, g_b10, (Ne.symm u27), u26, u11, f53, f57, f56, Fs, f58, f55⟩
theorem ef_1_c4 (m : MethodId) (r0 : Addr) : entryFrame m #[(.ref r0), .null, (.int (4 : Int32))] 4 = mkF m 0 #[rv r0, .val .null, iv (4 : Int32), un] [] := by first | (simp [entryFrame, mkF, argsToLocals, Value.category, iv, rv, lv, un, sd]; done) | rfl
set_option maxRecDepth 65536 in
set_option maxHeartbeats 40000000 in
theorem rm1_c4 (l : Launch) (Z : State) (a0 : Array Value) (hw : ∀ d ∈ tables_1, d.before a0 Z = true) (ws : List Jvm.Cond) (r0 : Addr) (h0 : Heap) (n0 : Nat) (Z0 : n0 ≤ h0.size) (E_r0 : Exa Z h0 r0 "com/example/chatterbench/chatterbench/data/IdIndex") (F_entity : Fld Z h0 r0 "com/example/chatterbench/chatterbench/data/IdIndex" "entity" "Lcom/example/chatterbench/chatterbench/data/Entity;" .null) (F_ids : Fld Z h0 r0 "com/example/chatterbench/chatterbench/data/IdIndex" "ids" "[J" .null) (F_rows : Fld Z h0 r0 "com/example/chatterbench/chatterbench/data/IdIndex" "rows" "[I" .null) (F_shift : Fld Z h0 r0 "com/example/chatterbench/chatterbench/data/IdIndex" "shift" "I" (.int (0 : Int32))) (g_r0 : n0 ≤ r0) :
    MetFree l (⟨"com/example/chatterbench/chatterbench/data/IdIndex", "<init>", "(Lcom/example/chatterbench/chatterbench/data/Entity;I)V"⟩ : MethodName) (head1 (Jvm.Cond.code (⟨"com/example/chatterbench/chatterbench/data/IdIndex", "<init>", "(Lcom/example/chatterbench/chatterbench/data/Entity;I)V"⟩ : MethodName) prog_10_method_1_code 4 none :: ws) ({ frames := 1, cells := 2, slots := 16, locals := 16 } : Room)) (fun a U => a = #[(.ref r0), .null, (.int (4 : Int32))] ∧ Z.Warmed39 U.vm ∧ U.heap = h0) (fun _ _ _ _ _ => True) (fun _ U o U' => ∃ v L, o = .returned v ∧ Q1_N8 Z r0 h0 n0 v U'.heap L ∧ FrameEnd U o U' L ({ frames := 1, cells := 2, slots := 16, locals := 16 } : Room).cells ({ frames := 1, cells := 2, slots := 16, locals := 16 } : Room).slots) := by
  refine MetFree.of_bodySF (plainFor_of_name pn_1) hisR ?_
  intro p e s m args below meth c s₁ Bd hml0 hP hK
  obtain ⟨rfl, hZ, hh⟩ := hP
  have hx := Bd.exec
  have hby := Bd.bytes
  have hml : c.maxLocals = 4 := hml0
  have hown : s.vm.findClass "com/example/chatterbench/chatterbench/data/IdIndex" = some m.cls := findClass_of_methodNamed Bd.named
  have hnm := (name_of_methodNamed Bd.named Bd.method).1
  have X0 : Stand p l e ({ frames := 1, cells := 2, slots := 16, locals := 16 } : Room) s m #[(.ref r0), .null, (.int (4 : Int32))] below meth c s₁ [] 0 0 := Stand.of_body Bd
  have e0 : s₁.heap = h0 := by rw [← hh, Bd.state]; rfl
  have N0 := Fr.nil n0
  suffices HH : ∀ G : Outcome → State → Prop, (∀ v L U', Q1_N8 Z r0 h0 n0 v U'.heap L → FrameEnd s (.returned v) U' L ({ frames := 1, cells := 2, slots := 16, locals := 16 } : Room).cells ({ frames := 1, cells := 2, slots := 16, locals := 16 } : Room).slots → G (.returned v) U') → Go p.tables e below G (s₁.setTop (mkF m 0 #[rv r0, .val .null, iv (4 : Int32), un] [])) by
    obtain ⟨s2, o, h1, h2, h3, h4⟩ := HH (fun o U' => ∃ v L, o = .returned v ∧ Q1_N8 Z r0 h0 n0 v U'.heap L ∧ FrameEnd s o U' L ({ frames := 1, cells := 2, slots := 16, locals := 16 } : Room).cells ({ frames := 1, cells := 2, slots := 16, locals := 16 } : Room).slots) (fun v L U' q f => ⟨v, L, rfl, q, f⟩)
    exact ⟨s2, o, castTop (ef_1_c4 m r0) h1, h2, h3, h4⟩
  intro G hG
  have K0 := Keep.refl h0 [r0]
  show Go p.tables e below G (s₁.setTop (mkF m 0 #[rv r0, .val .null, iv (4 : Int32), un] []))
  refine Go.stp (fun t_ k_ => XS.aloadN X0.here hx rfl (hb hby d1_0) rfl rfl k_) ?_
  show Go p.tables e below G (s₁.setTop (mkF m 1 #[rv r0, .val .null, iv (4 : Int32), un] [(.ref r0)]))
  obtain ⟨T1, X1, e1, st1⟩ := initO X0 hx hZ hown (hw _ (List.mem_of_getElem? (i := 7) rfl)) (hw _ (List.mem_of_getElem? (i := 8) rfl)) (hw _ (List.mem_of_getElem? (i := 9) rfl)) e0 (g := (mkF m 1 #[rv r0, .val .null, iv (4 : Int32), un] [(.ref r0)])) rfl (by rw [hml]; rfl) rfl (hb hby d1_1) (by decide) (W := 0) (by show 2 * 0 + _ ≤ _; exact Nat.le_of_eq rfl) (by decide)
  refine Go.stp (fun t_ k_ => st1 t_ k_) ?_
  show Go p.tables e below G (T1.setTop (mkF m 4 #[rv r0, .val .null, iv (4 : Int32), un] []))
  refine Go.stp (fun t_ k_ => XS.aloadN X1.here hx rfl (hb hby d1_4) rfl rfl k_) ?_
  show Go p.tables e below G (T1.setTop (mkF m 5 #[rv r0, .val .null, iv (4 : Int32), un] [(.ref r0)]))
  refine Go.stp (fun t_ k_ => XS.aloadN X1.here hx rfl (hb hby d1_5) rfl rfl k_) ?_
  show Go p.tables e below G (T1.setTop (mkF m 6 #[rv r0, .val .null, iv (4 : Int32), un] [.null, (.ref r0)]))
  obtain ⟨T2, h2, X2, e2, W2, st2⟩ := putF X1 hx hZ hown (host := "") (Or.inl (hw _ (List.mem_of_getElem? (i := 10) rfl))) Via.refl e1 F_entity E_r0 (Or.inr ⟨(hw _ (List.mem_of_getElem? (i := 11) rfl)), rfl, hnm⟩) (hw _ (List.mem_of_getElem? (i := 2) rfl)) (ty := (.object "com/example/chatterbench/chatterbench/data/Entity")) (by decide) rfl rfl (g := (mkF m 6 #[rv r0, .val .null, iv (4 : Int32), un] [.null, (.ref r0)])) rfl rfl (hb hby d1_6)
  have f3 : Fld Z h2 r0 "com/example/chatterbench/chatterbench/data/IdIndex" "entity" "Lcom/example/chatterbench/chatterbench/data/Entity;" .null := F_entity.same W2
  have f4 : Exa Z h2 r0 "com/example/chatterbench/chatterbench/data/IdIndex" := E_r0.wr W2
  have f5 : Fld Z h2 r0 "com/example/chatterbench/chatterbench/data/IdIndex" "ids" "[J" .null := F_ids.other W2 (Or.inr (slot_ne (Or.inr (hw _ (List.mem_of_getElem? (i := 23) rfl))) (Or.inr (hw _ (List.mem_of_getElem? (i := 11) rfl))) (by decide) (t := (.array .long)) (t' := (.object "com/example/chatterbench/chatterbench/data/Entity")) (by decide) (by decide)))
  have f6 : Fld Z h2 r0 "com/example/chatterbench/chatterbench/data/IdIndex" "rows" "[I" .null := F_rows.other W2 (Or.inr (slot_ne (Or.inr (hw _ (List.mem_of_getElem? (i := 26) rfl))) (Or.inr (hw _ (List.mem_of_getElem? (i := 11) rfl))) (by decide) (t := (.array .int)) (t' := (.object "com/example/chatterbench/chatterbench/data/Entity")) (by decide) (by decide)))
  have f7 : Fld Z h2 r0 "com/example/chatterbench/chatterbench/data/IdIndex" "shift" "I" (.int (0 : Int32)) := F_shift.other W2 (Or.inr (slot_ne (Or.inr (hw _ (List.mem_of_getElem? (i := 32) rfl))) (Or.inr (hw _ (List.mem_of_getElem? (i := 11) rfl))) (by decide) (t := .int) (t' := (.object "com/example/chatterbench/chatterbench/data/Entity")) (by decide) (by decide)))
  have N2 := Fr.snoc X2 N0 g_r0
  have K2 := K0.wr W2 (Or.inl (List.mem_of_getElem? (i := 0) rfl))
  have Z2 : n0 ≤ h2.size := Nat.le_trans Z0 (Keep.of_wr W2).1
  refine Go.stp (fun t_ k_ => st2 t_ k_) ?_
  show Go p.tables e below G (T2.setTop (mkF m 9 #[rv r0, .val .null, iv (4 : Int32), un] []))
  refine Go.stp (fun t_ k_ => XS.bipush X2.here hx rfl (hb hby d1_9) k_) ?_
  show Go p.tables e below G (T2.setTop (mkF m 11 #[rv r0, .val .null, iv (4 : Int32), un] [(.int (32 : Int32))]))
  refine Go.stp (fun t_ k_ => XS.iconst X2.here hx rfl (hb hby d1_11) k_) ?_
  show Go p.tables e below G (T2.setTop (mkF m 12 #[rv r0, .val .null, iv (4 : Int32), un] [(.int (1 : Int32)), (.int (32 : Int32))]))
  refine Go.stp (fun t_ k_ => XS.iconst X2.here hx rfl (hb hby d1_12) k_) ?_
  show Go p.tables e below G (T2.setTop (mkF m 13 #[rv r0, .val .null, iv (4 : Int32), un] [(.int (2 : Int32)), (.int (1 : Int32)), (.int (32 : Int32))]))
  refine Go.stp (fun t_ k_ => XS.iloadN X2.here hx rfl (hb hby d1_13) rfl k_) ?_
  show Go p.tables e below G (T2.setTop (mkF m 14 #[rv r0, .val .null, iv (4 : Int32), un] [(.int (4 : Int32)), (.int (2 : Int32)), (.int (1 : Int32)), (.int (32 : Int32))]))
  refine Go.stp (fun t_ k_ => XS.imul X2.here hx rfl (hb hby d1_14) rfl k_) ?_
  show Go p.tables e below G (T2.setTop (mkF m 15 #[rv r0, .val .null, iv (4 : Int32), un] [(.int ((2 : Int32) * (4 : Int32))), (.int (1 : Int32)), (.int (32 : Int32))]))
  refine Go.stp (fun t_ k_ => XS.iconst X2.here hx rfl (hb hby d1_15) k_) ?_
  show Go p.tables e below G (T2.setTop (mkF m 16 #[rv r0, .val .null, iv (4 : Int32), un] [(.int (1 : Int32)), (.int ((2 : Int32) * (4 : Int32))), (.int (1 : Int32)), (.int (32 : Int32))]))
  refine Go.stp (fun t_ k_ => XS.isub X2.here hx rfl (hb hby d1_16) rfl k_) ?_
  show Go p.tables e below G (T2.setTop (mkF m 17 #[rv r0, .val .null, iv (4 : Int32), un] [(.int (((2 : Int32) * (4 : Int32)) - (1 : Int32))), (.int (1 : Int32)), (.int (32 : Int32))]))
  obtain ⟨_, _, ⟨T8, L8, k8, n8⟩, -, X8, ⟨Lc8, hQ8, l8, y8, z8⟩, st8⟩ := Jvm.LawKit.callS X2 hx (y := (⟨"java/lang/Math", "max", "(II)I"⟩ : MethodName)) hown (mvT hZ (hw _ (List.mem_of_getElem? (i := 12) rfl))) (mvT hZ (hw _ (List.mem_of_getElem? (i := 13) rfl))) (mvT hZ (hw _ (List.mem_of_getElem? (i := 14) rfl))) (mvT hZ (hw _ (List.mem_of_getElem? (i := 15) rfl))) (by decide) (backOf (W := 1) (rm3 l Z a0 hw [] (1 : Int32) (((2 : Int32) * (4 : Int32)) - (1 : Int32)) h2 n0 Z2) hZ (hw _ (List.mem_of_getElem? (i := 15) rfl)) (hw _ (List.mem_of_getElem? (i := 14) rfl)) (by decide) (by decide)) (g := (mkF m 17 #[rv r0, .val .null, iv (4 : Int32), un] [(.int (((2 : Int32) * (4 : Int32)) - (1 : Int32))), (.int (1 : Int32)), (.int (32 : Int32))])) rfl (by rw [hml]; rfl) (argsL := [(.int (1 : Int32)), (.int (((2 : Int32) * (4 : Int32)) - (1 : Int32)))]) (rest := [(.int (32 : Int32))]) (lenOf pd_0 rfl) rfl (by show 2 * 0 + _ ≤ _; exact Nat.le_of_eq rfl) (hb hby d1_17) (fun _ _ => ⟨rfl, e2, (by decide : 0 + 0 ≤ _), (by decide : 0 + 0 ≤ _)⟩)
  dsimp only [Pt.U, Pt.locs, Pt.cells, Pt.slots] at X8 l8 y8 z8 st8 hQ8
  subst l8 y8 z8
  obtain ⟨rfl, Nq8, e8⟩ := hQ8
  have N8 := Fr.app N2 Nq8
  have pp8 : own_max (1 : Int32) (((2 : Int32) * (4 : Int32)) - (1 : Int32)) = (7 : Int32) := by decide
  rw [pp8] at st8
  refine Go.stp (fun t_ k_ => st8 t_ k_) ?_
  show Go p.tables e below G (T8.setTop (mkF m 20 #[rv r0, .val .null, iv (4 : Int32), un] [(.int (7 : Int32)), (.int (32 : Int32))]))
  obtain ⟨_, _, ⟨T9, L9, k9, n9⟩, -, X9, ⟨Lc9, hQ9, l9, y9, z9⟩, st9⟩ := Jvm.LawKit.callS X8 hx (y := (⟨"java/lang/Integer", "numberOfLeadingZeros", "(I)I"⟩ : MethodName)) hown (mvT hZ (hw _ (List.mem_of_getElem? (i := 16) rfl))) (mvT hZ (hw _ (List.mem_of_getElem? (i := 17) rfl))) (mvT hZ (hw _ (List.mem_of_getElem? (i := 18) rfl))) (mvT hZ (hw _ (List.mem_of_getElem? (i := 19) rfl))) (by decide) (backOf (W := 1) (rm4_7 l Z a0 hw [] h2 n0 Z2) hZ (hw _ (List.mem_of_getElem? (i := 19) rfl)) (hw _ (List.mem_of_getElem? (i := 18) rfl)) (by decide) (by decide)) (g := (mkF m 20 #[rv r0, .val .null, iv (4 : Int32), un] [(.int (7 : Int32)), (.int (32 : Int32))])) rfl (by rw [hml]; rfl) (argsL := [(.int (7 : Int32))]) (rest := [(.int (32 : Int32))]) (lenOf pd_1 rfl) rfl (by show 2 * 0 + _ ≤ _; exact Nat.le_of_eq rfl) (hb hby d1_20) (fun _ _ => ⟨rfl, e8, (by decide : 0 + 0 ≤ _), (by decide : 0 + 0 ≤ _)⟩)
  dsimp only [Pt.U, Pt.locs, Pt.cells, Pt.slots] at X9 l9 y9 z9 st9 hQ9
  subst l9 y9 z9
  obtain ⟨rfl, Nq9, e9⟩ := hQ9
  have N9 := Fr.app N8 Nq9
  refine Go.stp (fun t_ k_ => st9 t_ k_) ?_
  show Go p.tables e below G (T9.setTop (mkF m 23 #[rv r0, .val .null, iv (4 : Int32), un] [(.int (29 : Int32)), (.int (32 : Int32))]))
  refine Go.stp (fun t_ k_ => XS.isub X9.here hx rfl (hb hby d1_23) rfl k_) ?_
  show Go p.tables e below G (T9.setTop (mkF m 24 #[rv r0, .val .null, iv (4 : Int32), un] [(.int ((32 : Int32) - (29 : Int32)))]))
  refine Go.stp (fun t_ k_ => XS.istoreN X9.here hx rfl (hb hby d1_24) rfl (l' := #[rv r0, .val .null, iv (4 : Int32), iv ((32 : Int32) - (29 : Int32))]) rfl k_) ?_
  show Go p.tables e below G (T9.setTop (mkF m 25 #[rv r0, .val .null, iv (4 : Int32), iv ((32 : Int32) - (29 : Int32))] []))
  refine Go.stp (fun t_ k_ => XS.aloadN X9.here hx rfl (hb hby d1_25) rfl rfl k_) ?_
  show Go p.tables e below G (T9.setTop (mkF m 26 #[rv r0, .val .null, iv (4 : Int32), iv ((32 : Int32) - (29 : Int32))] [(.ref r0)]))
  refine Go.stp (fun t_ k_ => XS.iconst X9.here hx rfl (hb hby d1_26) k_) ?_
  show Go p.tables e below G (T9.setTop (mkF m 27 #[rv r0, .val .null, iv (4 : Int32), iv ((32 : Int32) - (29 : Int32))] [(.int (1 : Int32)), (.ref r0)]))
  refine Go.stp (fun t_ k_ => XS.iloadN X9.here hx rfl (hb hby d1_27) rfl k_) ?_
  show Go p.tables e below G (T9.setTop (mkF m 28 #[rv r0, .val .null, iv (4 : Int32), iv ((32 : Int32) - (29 : Int32))] [(.int ((32 : Int32) - (29 : Int32))), (.int (1 : Int32)), (.ref r0)]))
  refine Go.stp (fun t_ k_ => XS.ishl X9.here hx rfl (hb hby d1_28) rfl k_) ?_
  show Go p.tables e below G (T9.setTop (mkF m 29 #[rv r0, .val .null, iv (4 : Int32), iv ((32 : Int32) - (29 : Int32))] [(.int ((1 : Int32) <<< (((32 : Int32) - (29 : Int32)) &&& 31))), (.ref r0)]))
  obtain ⟨T10, h10, k10, X10, e10, E10, A10, st10⟩ := newP X9 hx hZ (hw _ (List.mem_of_getElem? (i := 21) rfl)) e9 (g := (mkF m 29 #[rv r0, .val .null, iv (4 : Int32), iv ((32 : Int32) - (29 : Int32))] [(.int ((1 : Int32) <<< (((32 : Int32) - (29 : Int32)) &&& 31))), (.ref r0)])) rfl (hb hby d1_29) rfl (by decide) (cap := 8) (by decide) (by decide) (by decide) (by decide)
  obtain ⟨b10, g10⟩ : ∃ z, z = h2.size := ⟨_, rfl⟩
  rw [← g10] at A10 st10
  have u11 : r0 ≠ b10 := Nat.ne_of_lt (Nat.lt_of_lt_of_le f4.lt (Nat.le_of_eq g10.symm))
  have g_b10 : n0 ≤ b10 := Nat.le_trans Z2 (Nat.le_of_eq g10.symm)
  have sz_b10 : h0.size ≤ b10 := Nat.le_trans K2.1 (Nat.le_of_eq g10.symm)
  have f12 : Exa Z h10 r0 "com/example/chatterbench/chatterbench/data/IdIndex" := f4.ext E10
  have f13 : Fld Z h10 r0 "com/example/chatterbench/chatterbench/data/IdIndex" "ids" "[J" .null := f5.ext E10
  have f14 : Fld Z h10 r0 "com/example/chatterbench/chatterbench/data/IdIndex" "rows" "[I" .null := f6.ext E10
  have f15 : Fld Z h10 r0 "com/example/chatterbench/chatterbench/data/IdIndex" "shift" "I" (.int (0 : Int32)) := f7.ext E10
  have f16 : Fld Z h10 r0 "com/example/chatterbench/chatterbench/data/IdIndex" "entity" "Lcom/example/chatterbench/chatterbench/data/Entity;" .null := f3.ext E10
  have Z10 : n0 ≤ h10.size := Nat.le_trans Z2 E10.1
  have K10 := K2.ext E10
  have f17 : Ia Z h10 b10 .long 8 Value.long (fun _ => (0 : Int64)) := Ia.new A10 (by decide) (by decide) rfl
  refine Go.stp (fun t_ k_ => st10 t_ k_) ?_
  show Go p.tables e below G (T10.setTop (mkF m 31 #[rv r0, .val .null, iv (4 : Int32), iv ((32 : Int32) - (29 : Int32))] [(.ref b10), (.ref r0)]))
  obtain ⟨T18, h18, X18, e18, W18, st18⟩ := putF X10 hx hZ hown (host := "") (Or.inl (hw _ (List.mem_of_getElem? (i := 22) rfl))) Via.refl e10 f13 f12 (Or.inr ⟨(hw _ (List.mem_of_getElem? (i := 23) rfl)), rfl, hnm⟩) (hw _ (List.mem_of_getElem? (i := 2) rfl)) (ty := (.array .long)) (by decide) rfl rfl (g := (mkF m 31 #[rv r0, .val .null, iv (4 : Int32), iv ((32 : Int32) - (29 : Int32))] [(.ref b10), (.ref r0)])) rfl rfl (hb hby d1_31)
  have f19 : Fld Z h18 r0 "com/example/chatterbench/chatterbench/data/IdIndex" "ids" "[J" (.ref b10) := f13.same W18
  have f20 : Exa Z h18 r0 "com/example/chatterbench/chatterbench/data/IdIndex" := f12.wr W18
  have f21 : Fld Z h18 r0 "com/example/chatterbench/chatterbench/data/IdIndex" "rows" "[I" .null := f14.other W18 (Or.inr (slot_ne (Or.inr (hw _ (List.mem_of_getElem? (i := 26) rfl))) (Or.inr (hw _ (List.mem_of_getElem? (i := 23) rfl))) (by decide) (t := (.array .int)) (t' := (.array .long)) (by decide) (by decide)))
  have f22 : Fld Z h18 r0 "com/example/chatterbench/chatterbench/data/IdIndex" "shift" "I" (.int (0 : Int32)) := f15.other W18 (Or.inr (slot_ne (Or.inr (hw _ (List.mem_of_getElem? (i := 32) rfl))) (Or.inr (hw _ (List.mem_of_getElem? (i := 23) rfl))) (by decide) (t := .int) (t' := (.array .long)) (by decide) (by decide)))
  have f23 : Fld Z h18 r0 "com/example/chatterbench/chatterbench/data/IdIndex" "entity" "Lcom/example/chatterbench/chatterbench/data/Entity;" .null := f16.other W18 (Or.inr (slot_ne (Or.inr (hw _ (List.mem_of_getElem? (i := 11) rfl))) (Or.inr (hw _ (List.mem_of_getElem? (i := 23) rfl))) (by decide) (t := (.object "com/example/chatterbench/chatterbench/data/Entity")) (t' := (.array .long)) (by decide) (by decide)))
  have f24 : Ia Z h18 b10 .long 8 Value.long (fun _ => (0 : Int64)) := f17.other W18 (Ne.symm u11)
  have N18 := Fr.snoc X18 N9 g_r0
  have K18 := K10.wr W18 (Or.inl (List.mem_of_getElem? (i := 0) rfl))
  have Z18 : n0 ≤ h18.size := Nat.le_trans Z10 (Keep.of_wr W18).1
  refine Go.stp (fun t_ k_ => st18 t_ k_) ?_
  show Go p.tables e below G (T18.setTop (mkF m 34 #[rv r0, .val .null, iv (4 : Int32), iv ((32 : Int32) - (29 : Int32))] []))
  refine Go.stp (fun t_ k_ => XS.aloadN X18.here hx rfl (hb hby d1_34) rfl rfl k_) ?_
  show Go p.tables e below G (T18.setTop (mkF m 35 #[rv r0, .val .null, iv (4 : Int32), iv ((32 : Int32) - (29 : Int32))] [(.ref r0)]))
  refine Go.stp (fun t_ k_ => XS.iconst X18.here hx rfl (hb hby d1_35) k_) ?_
  show Go p.tables e below G (T18.setTop (mkF m 36 #[rv r0, .val .null, iv (4 : Int32), iv ((32 : Int32) - (29 : Int32))] [(.int (1 : Int32)), (.ref r0)]))
  refine Go.stp (fun t_ k_ => XS.iloadN X18.here hx rfl (hb hby d1_36) rfl k_) ?_
  show Go p.tables e below G (T18.setTop (mkF m 37 #[rv r0, .val .null, iv (4 : Int32), iv ((32 : Int32) - (29 : Int32))] [(.int ((32 : Int32) - (29 : Int32))), (.int (1 : Int32)), (.ref r0)]))
  refine Go.stp (fun t_ k_ => XS.ishl X18.here hx rfl (hb hby d1_37) rfl k_) ?_
  show Go p.tables e below G (T18.setTop (mkF m 38 #[rv r0, .val .null, iv (4 : Int32), iv ((32 : Int32) - (29 : Int32))] [(.int ((1 : Int32) <<< (((32 : Int32) - (29 : Int32)) &&& 31))), (.ref r0)]))
  obtain ⟨T25, h25, k25, X25, e25, E25, A25, st25⟩ := newP X18 hx hZ (hw _ (List.mem_of_getElem? (i := 24) rfl)) e18 (g := (mkF m 38 #[rv r0, .val .null, iv (4 : Int32), iv ((32 : Int32) - (29 : Int32))] [(.int ((1 : Int32) <<< (((32 : Int32) - (29 : Int32)) &&& 31))), (.ref r0)])) rfl (hb hby d1_38) rfl (by decide) (cap := 8) (by decide) (by decide) (by decide) (by decide)
  obtain ⟨b25, g25⟩ : ∃ z, z = h18.size := ⟨_, rfl⟩
  rw [← g25] at A25 st25
  have u26 : r0 ≠ b25 := Nat.ne_of_lt (Nat.lt_of_lt_of_le f20.lt (Nat.le_of_eq g25.symm))
  have u27 : b10 ≠ b25 := Nat.ne_of_lt (Nat.lt_of_lt_of_le f24.lt (Nat.le_of_eq g25.symm))
  have g_b25 : n0 ≤ b25 := Nat.le_trans Z18 (Nat.le_of_eq g25.symm)
  have sz_b25 : h0.size ≤ b25 := Nat.le_trans K18.1 (Nat.le_of_eq g25.symm)
  have f28 : Exa Z h25 r0 "com/example/chatterbench/chatterbench/data/IdIndex" := f20.ext E25
  have f29 : Fld Z h25 r0 "com/example/chatterbench/chatterbench/data/IdIndex" "rows" "[I" .null := f21.ext E25
  have f30 : Fld Z h25 r0 "com/example/chatterbench/chatterbench/data/IdIndex" "shift" "I" (.int (0 : Int32)) := f22.ext E25
  have f31 : Fld Z h25 r0 "com/example/chatterbench/chatterbench/data/IdIndex" "entity" "Lcom/example/chatterbench/chatterbench/data/Entity;" .null := f23.ext E25
  have f32 : Ia Z h25 b10 .long 8 Value.long (fun _ => (0 : Int64)) := f24.ext E25
  have f33 : Fld Z h25 r0 "com/example/chatterbench/chatterbench/data/IdIndex" "ids" "[J" (.ref b10) := f19.ext E25
  have Z25 : n0 ≤ h25.size := Nat.le_trans Z18 E25.1
  have K25 := K18.ext E25
  have f34 : Ia Z h25 b25 .int 8 Value.int (fun _ => (0 : Int32)) := Ia.new A25 (by decide) (by decide) rfl
  refine Go.stp (fun t_ k_ => st25 t_ k_) ?_
  show Go p.tables e below G (T25.setTop (mkF m 40 #[rv r0, .val .null, iv (4 : Int32), iv ((32 : Int32) - (29 : Int32))] [(.ref b25), (.ref r0)]))
  obtain ⟨T35, h35, X35, e35, W35, st35⟩ := putF X25 hx hZ hown (host := "") (Or.inl (hw _ (List.mem_of_getElem? (i := 25) rfl))) Via.refl e25 f29 f28 (Or.inr ⟨(hw _ (List.mem_of_getElem? (i := 26) rfl)), rfl, hnm⟩) (hw _ (List.mem_of_getElem? (i := 2) rfl)) (ty := (.array .int)) (by decide) rfl rfl (g := (mkF m 40 #[rv r0, .val .null, iv (4 : Int32), iv ((32 : Int32) - (29 : Int32))] [(.ref b25), (.ref r0)])) rfl rfl (hb hby d1_40)
  have f36 : Fld Z h35 r0 "com/example/chatterbench/chatterbench/data/IdIndex" "rows" "[I" (.ref b25) := f29.same W35
  have f37 : Exa Z h35 r0 "com/example/chatterbench/chatterbench/data/IdIndex" := f28.wr W35
  have f38 : Fld Z h35 r0 "com/example/chatterbench/chatterbench/data/IdIndex" "shift" "I" (.int (0 : Int32)) := f30.other W35 (Or.inr (slot_ne (Or.inr (hw _ (List.mem_of_getElem? (i := 32) rfl))) (Or.inr (hw _ (List.mem_of_getElem? (i := 26) rfl))) (by decide) (t := .int) (t' := (.array .int)) (by decide) (by decide)))
  have f39 : Fld Z h35 r0 "com/example/chatterbench/chatterbench/data/IdIndex" "entity" "Lcom/example/chatterbench/chatterbench/data/Entity;" .null := f31.other W35 (Or.inr (slot_ne (Or.inr (hw _ (List.mem_of_getElem? (i := 11) rfl))) (Or.inr (hw _ (List.mem_of_getElem? (i := 26) rfl))) (by decide) (t := (.object "com/example/chatterbench/chatterbench/data/Entity")) (t' := (.array .int)) (by decide) (by decide)))
  have f40 : Ia Z h35 b10 .long 8 Value.long (fun _ => (0 : Int64)) := f32.other W35 (Ne.symm u11)
  have f41 : Fld Z h35 r0 "com/example/chatterbench/chatterbench/data/IdIndex" "ids" "[J" (.ref b10) := f33.other W35 (Or.inr (slot_ne (Or.inr (hw _ (List.mem_of_getElem? (i := 23) rfl))) (Or.inr (hw _ (List.mem_of_getElem? (i := 26) rfl))) (by decide) (t := (.array .long)) (t' := (.array .int)) (by decide) (by decide)))
  have f42 : Ia Z h35 b25 .int 8 Value.int (fun _ => (0 : Int32)) := f34.other W35 (Ne.symm u26)
  have N35 := Fr.snoc X35 N18 g_r0
  have K35 := K25.wr W35 (Or.inl (List.mem_of_getElem? (i := 0) rfl))
  have Z35 : n0 ≤ h35.size := Nat.le_trans Z25 (Keep.of_wr W35).1
  refine Go.stp (fun t_ k_ => st35 t_ k_) ?_
  show Go p.tables e below G (T35.setTop (mkF m 43 #[rv r0, .val .null, iv (4 : Int32), iv ((32 : Int32) - (29 : Int32))] []))
  refine Go.stp (fun t_ k_ => XS.aloadN X35.here hx rfl (hb hby d1_43) rfl rfl k_) ?_
  show Go p.tables e below G (T35.setTop (mkF m 44 #[rv r0, .val .null, iv (4 : Int32), iv ((32 : Int32) - (29 : Int32))] [(.ref r0)]))
  obtain ⟨T43, X43, e43, st43⟩ := getF X35 hx hZ hown (host := "") (Or.inl (hw _ (List.mem_of_getElem? (i := 25) rfl))) Via.refl e35 f36 (g := (mkF m 44 #[rv r0, .val .null, iv (4 : Int32), iv ((32 : Int32) - (29 : Int32))] [(.ref r0)])) rfl rfl (hb hby d1_44)
  refine Go.stp (fun t_ k_ => st43 t_ k_) ?_
  show Go p.tables e below G (T43.setTop (mkF m 47 #[rv r0, .val .null, iv (4 : Int32), iv ((32 : Int32) - (29 : Int32))] [(.ref b25)]))
  refine Go.stp (fun t_ k_ => XS.iconst X43.here hx rfl (hb hby d1_47) k_) ?_
  show Go p.tables e below G (T43.setTop (mkF m 48 #[rv r0, .val .null, iv (4 : Int32), iv ((32 : Int32) - (29 : Int32))] [(.int (-1 : Int32)), (.ref b25)]))
  obtain ⟨_, _, ⟨T44, L44, k44, n44⟩, -, X44, ⟨Lc44, hQ44, l44, y44, z44⟩, st44⟩ := Jvm.LawKit.callS X43 hx (y := (⟨"java/util/Arrays", "fill", "([II)V"⟩ : MethodName)) hown (mvT hZ (hw _ (List.mem_of_getElem? (i := 27) rfl))) (mvT hZ (hw _ (List.mem_of_getElem? (i := 28) rfl))) (mvT hZ (hw _ (List.mem_of_getElem? (i := 29) rfl))) (mvT hZ (hw _ (List.mem_of_getElem? (i := 30) rfl))) (by decide) (backOf (W := 0) (rm5_8 l Z a0 hw [] b25 (-1 : Int32) (fun _ => (0 : Int32)) h35 n0 Z35 f42 g_b25) hZ (hw _ (List.mem_of_getElem? (i := 30) rfl)) (hw _ (List.mem_of_getElem? (i := 29) rfl)) (by decide) (by decide)) (g := (mkF m 48 #[rv r0, .val .null, iv (4 : Int32), iv ((32 : Int32) - (29 : Int32))] [(.int (-1 : Int32)), (.ref b25)])) rfl (by rw [hml]; rfl) (argsL := [(.ref b25), (.int (-1 : Int32))]) (rest := []) (lenOf pd_2 rfl) rfl (by show 2 * 0 + _ ≤ _; exact Nat.le_of_eq rfl) (hb hby d1_48) (fun _ _ => ⟨rfl, e43, (by decide : 2 + 0 ≤ _), (by decide : 16 + 0 ≤ _)⟩)
  dsimp only [Pt.U, Pt.locs, Pt.cells, Pt.slots] at X44 l44 y44 z44 st44 hQ44
  subst l44 y44 z44
  obtain ⟨rfl, Nq44, Kc44, Iq44⟩ := hQ44
  have N44 := Fr.app N35 Nq44
  have f45 : Exa Z T44.heap r0 "com/example/chatterbench/chatterbench/data/IdIndex" := f37.keep Kc44
  have f46 : Fld Z T44.heap r0 "com/example/chatterbench/chatterbench/data/IdIndex" "shift" "I" (.int (0 : Int32)) := f38.keep Kc44 (fun q => by simp only [List.mem_cons, List.not_mem_nil, or_false] at q; exact u26 q)
  have f47 : Fld Z T44.heap r0 "com/example/chatterbench/chatterbench/data/IdIndex" "entity" "Lcom/example/chatterbench/chatterbench/data/Entity;" .null := f39.keep Kc44 (fun q => by simp only [List.mem_cons, List.not_mem_nil, or_false] at q; exact u26 q)
  have f48 : Ia Z T44.heap b10 .long 8 Value.long (fun _ => (0 : Int64)) := f40.keep Kc44 (fun q => by simp only [List.mem_cons, List.not_mem_nil, or_false] at q; exact u27 q)
  have f49 : Fld Z T44.heap r0 "com/example/chatterbench/chatterbench/data/IdIndex" "ids" "[J" (.ref b10) := f41.keep Kc44 (fun q => by simp only [List.mem_cons, List.not_mem_nil, or_false] at q; exact u26 q)
  have f50 : Fld Z T44.heap r0 "com/example/chatterbench/chatterbench/data/IdIndex" "rows" "[I" (.ref b25) := f36.keep Kc44 (fun q => by simp only [List.mem_cons, List.not_mem_nil, or_false] at q; exact u26 q)
  have Z44 : n0 ≤ T44.heap.size := Nat.le_trans Z35 Kc44.1
  have K44 := K35.trans Kc44 (fun x q => by
      simp only [List.mem_cons, List.not_mem_nil, or_false] at q
      rw [q]; exact (Or.inr sz_b25))
  refine Go.stp (fun t_ k_ => st44 t_ k_) ?_
  show Go p.tables e below G (T44.setTop (mkF m 51 #[rv r0, .val .null, iv (4 : Int32), iv ((32 : Int32) - (29 : Int32))] []))
  refine Go.stp (fun t_ k_ => XS.aloadN X44.here hx rfl (hb hby d1_51) rfl rfl k_) ?_
  show Go p.tables e below G (T44.setTop (mkF m 52 #[rv r0, .val .null, iv (4 : Int32), iv ((32 : Int32) - (29 : Int32))] [(.ref r0)]))
  refine Go.stp (fun t_ k_ => XS.bipush X44.here hx rfl (hb hby d1_52) k_) ?_
  show Go p.tables e below G (T44.setTop (mkF m 54 #[rv r0, .val .null, iv (4 : Int32), iv ((32 : Int32) - (29 : Int32))] [(.int (64 : Int32)), (.ref r0)]))
  refine Go.stp (fun t_ k_ => XS.iloadN X44.here hx rfl (hb hby d1_54) rfl k_) ?_
  show Go p.tables e below G (T44.setTop (mkF m 55 #[rv r0, .val .null, iv (4 : Int32), iv ((32 : Int32) - (29 : Int32))] [(.int ((32 : Int32) - (29 : Int32))), (.int (64 : Int32)), (.ref r0)]))
  refine Go.stp (fun t_ k_ => XS.isub X44.here hx rfl (hb hby d1_55) rfl k_) ?_
  show Go p.tables e below G (T44.setTop (mkF m 56 #[rv r0, .val .null, iv (4 : Int32), iv ((32 : Int32) - (29 : Int32))] [(.int ((64 : Int32) - ((32 : Int32) - (29 : Int32)))), (.ref r0)]))
  obtain ⟨T51, h51, X51, e51, W51, st51⟩ := putF X44 hx hZ hown (host := "") (Or.inl (hw _ (List.mem_of_getElem? (i := 31) rfl))) Via.refl rfl f46 f45 (Or.inr ⟨(hw _ (List.mem_of_getElem? (i := 32) rfl)), rfl, hnm⟩) (hw _ (List.mem_of_getElem? (i := 2) rfl)) (ty := .int) (by decide) rfl rfl (g := (mkF m 56 #[rv r0, .val .null, iv (4 : Int32), iv ((32 : Int32) - (29 : Int32))] [(.int ((64 : Int32) - ((32 : Int32) - (29 : Int32)))), (.ref r0)])) rfl rfl (hb hby d1_56)
  have f52 : Fld Z h51 r0 "com/example/chatterbench/chatterbench/data/IdIndex" "shift" "I" (.int ((64 : Int32) - ((32 : Int32) - (29 : Int32)))) := f46.same W51
  have f53 : Exa Z h51 r0 "com/example/chatterbench/chatterbench/data/IdIndex" := f45.wr W51
  have f54 : Fld Z h51 r0 "com/example/chatterbench/chatterbench/data/IdIndex" "entity" "Lcom/example/chatterbench/chatterbench/data/Entity;" .null := f47.other W51 (Or.inr (slot_ne (Or.inr (hw _ (List.mem_of_getElem? (i := 11) rfl))) (Or.inr (hw _ (List.mem_of_getElem? (i := 32) rfl))) (by decide) (t := (.object "com/example/chatterbench/chatterbench/data/Entity")) (t' := .int) (by decide) (by decide)))
  have f55 : Ia Z h51 b10 .long 8 Value.long (fun _ => (0 : Int64)) := f48.other W51 (Ne.symm u11)
  have f56 : Fld Z h51 r0 "com/example/chatterbench/chatterbench/data/IdIndex" "ids" "[J" (.ref b10) := f49.other W51 (Or.inr (slot_ne (Or.inr (hw _ (List.mem_of_getElem? (i := 23) rfl))) (Or.inr (hw _ (List.mem_of_getElem? (i := 32) rfl))) (by decide) (t := (.array .long)) (t' := .int) (by decide) (by decide)))
  have f57 : Fld Z h51 r0 "com/example/chatterbench/chatterbench/data/IdIndex" "rows" "[I" (.ref b25) := f50.other W51 (Or.inr (slot_ne (Or.inr (hw _ (List.mem_of_getElem? (i := 26) rfl))) (Or.inr (hw _ (List.mem_of_getElem? (i := 32) rfl))) (by decide) (t := (.array .int)) (t' := .int) (by decide) (by decide)))
  have f58 : Ia Z h51 b25 .int 8 Value.int (fun _ => (-1 : Int32)) := Iq44.other W51 (Ne.symm u26)
  have N51 := Fr.snoc X51 N44 g_r0
  have K51 := K44.wr W51 (Or.inl (List.mem_of_getElem? (i := 0) rfl))
  have Z51 : n0 ≤ h51.size := Nat.le_trans Z44 (Keep.of_wr W51).1
  refine Go.stp (fun t_ k_ => st51 t_ k_) ?_
  show Go p.tables e below G (T51.setTop (mkF m 59 #[rv r0, .val .null, iv (4 : Int32), iv ((32 : Int32) - (29 : Int32))] []))
  obtain ⟨fs, hr, hrun, hended, hW, hsame⟩ := X51.leave (v := none) (fun _ => rfl)
  refine ⟨_, _, X51.returnOut hx Bd.returns (hb hby d1_59) hr, hrun, hended, hG _ _ _ ?_ ⟨⟨_, rfl⟩, hW, hsame.mono (by decide) (by decide)⟩⟩
  show Q1_N8 Z r0 h0 n0 _ T51.heap _
  rw [e51]
  have Fs : Fld Z h51 r0 "com/example/chatterbench/chatterbench/data/IdIndex" "shift" "I" (.int (61 : Int32)) := by
    have q := f52
    rw [show ((64 : Int32) - ((32 : Int32) - (29 : Int32))) = (61 : Int32) by decide] at q
    exact q
  exact ⟨rfl, N51, K51, b25, b10, g_b25, g_b10, (Ne.symm u27), u26, u11, f53, f57, f56, Fs, f58, f55⟩
theorem ef_1_c5 (m : MethodId) (r0 : Addr) : entryFrame m #[(.ref r0), .null, (.int (5 : Int32))] 4 = mkF m 0 #[rv r0, .val .null, iv (5 : Int32), un] [] := by first | (simp [entryFrame, mkF, argsToLocals, Value.category, iv, rv, lv, un, sd]; done) | rfl
def Q1_N16 (Z : State) (r0 : Addr) (h0 : Heap) (n0 : Nat) (v : Option Value) (h : Heap) (L : List Loc) : Prop := v = none ∧ Fr n0 L ∧ Keep h0 h [r0] ∧ ∃ ra ia : Addr, n0 ≤ ra ∧ n0 ≤ ia ∧ ra ≠ ia ∧ r0 ≠ ra ∧ r0 ≠ ia ∧ Exa Z h r0 "com/example/chatterbench/chatterbench/data/IdIndex" ∧ Fld Z h r0 "com/example/chatterbench/chatterbench/data/IdIndex" "rows" "[I" (.ref ra) ∧ Fld Z h r0 "com/example/chatterbench/chatterbench/data/IdIndex" "ids" "[J" (.ref ia) ∧ Fld Z h r0 "com/example/chatterbench/chatterbench/data/IdIndex" "shift" "I" (.int (60 : Int32)) ∧ Ia Z h ra .int 16 Value.int (fun _ => (-1 : Int32)) ∧ Ia Z h ia .long 16 Value.long (fun _ => (0 : Int64))
set_option maxRecDepth 65536 in
set_option maxHeartbeats 40000000 in
theorem rm1_c5 (l : Launch) (Z : State) (a0 : Array Value) (hw : ∀ d ∈ tables_1, d.before a0 Z = true) (ws : List Jvm.Cond) (r0 : Addr) (h0 : Heap) (n0 : Nat) (Z0 : n0 ≤ h0.size) (E_r0 : Exa Z h0 r0 "com/example/chatterbench/chatterbench/data/IdIndex") (F_entity : Fld Z h0 r0 "com/example/chatterbench/chatterbench/data/IdIndex" "entity" "Lcom/example/chatterbench/chatterbench/data/Entity;" .null) (F_ids : Fld Z h0 r0 "com/example/chatterbench/chatterbench/data/IdIndex" "ids" "[J" .null) (F_rows : Fld Z h0 r0 "com/example/chatterbench/chatterbench/data/IdIndex" "rows" "[I" .null) (F_shift : Fld Z h0 r0 "com/example/chatterbench/chatterbench/data/IdIndex" "shift" "I" (.int (0 : Int32))) (g_r0 : n0 ≤ r0) :
    MetFree l (⟨"com/example/chatterbench/chatterbench/data/IdIndex", "<init>", "(Lcom/example/chatterbench/chatterbench/data/Entity;I)V"⟩ : MethodName) (head1 (Jvm.Cond.code (⟨"com/example/chatterbench/chatterbench/data/IdIndex", "<init>", "(Lcom/example/chatterbench/chatterbench/data/Entity;I)V"⟩ : MethodName) prog_10_method_1_code 4 none :: ws) ({ frames := 1, cells := 2, slots := 32, locals := 16 } : Room)) (fun a U => a = #[(.ref r0), .null, (.int (5 : Int32))] ∧ Z.Warmed39 U.vm ∧ U.heap = h0) (fun _ _ _ _ _ => True) (fun _ U o U' => ∃ v L, o = .returned v ∧ Q1_N16 Z r0 h0 n0 v U'.heap L ∧ FrameEnd U o U' L ({ frames := 1, cells := 2, slots := 32, locals := 16 } : Room).cells ({ frames := 1, cells := 2, slots := 32, locals := 16 } : Room).slots) := by
  refine MetFree.of_bodySF (plainFor_of_name pn_1) hisR ?_
  intro p e s m args below meth c s₁ Bd hml0 hP hK
  obtain ⟨rfl, hZ, hh⟩ := hP
  have hx := Bd.exec
  have hby := Bd.bytes
  have hml : c.maxLocals = 4 := hml0
  have hown : s.vm.findClass "com/example/chatterbench/chatterbench/data/IdIndex" = some m.cls := findClass_of_methodNamed Bd.named
  have hnm := (name_of_methodNamed Bd.named Bd.method).1
  have X0 : Stand p l e ({ frames := 1, cells := 2, slots := 32, locals := 16 } : Room) s m #[(.ref r0), .null, (.int (5 : Int32))] below meth c s₁ [] 0 0 := Stand.of_body Bd
  have e0 : s₁.heap = h0 := by rw [← hh, Bd.state]; rfl
  have N0 := Fr.nil n0
  suffices HH : ∀ G : Outcome → State → Prop, (∀ v L U', Q1_N16 Z r0 h0 n0 v U'.heap L → FrameEnd s (.returned v) U' L ({ frames := 1, cells := 2, slots := 32, locals := 16 } : Room).cells ({ frames := 1, cells := 2, slots := 32, locals := 16 } : Room).slots → G (.returned v) U') → Go p.tables e below G (s₁.setTop (mkF m 0 #[rv r0, .val .null, iv (5 : Int32), un] [])) by
    obtain ⟨s2, o, h1, h2, h3, h4⟩ := HH (fun o U' => ∃ v L, o = .returned v ∧ Q1_N16 Z r0 h0 n0 v U'.heap L ∧ FrameEnd s o U' L ({ frames := 1, cells := 2, slots := 32, locals := 16 } : Room).cells ({ frames := 1, cells := 2, slots := 32, locals := 16 } : Room).slots) (fun v L U' q f => ⟨v, L, rfl, q, f⟩)
    exact ⟨s2, o, castTop (ef_1_c5 m r0) h1, h2, h3, h4⟩
  intro G hG
  have K0 := Keep.refl h0 [r0]
  show Go p.tables e below G (s₁.setTop (mkF m 0 #[rv r0, .val .null, iv (5 : Int32), un] []))
  refine Go.stp (fun t_ k_ => XS.aloadN X0.here hx rfl (hb hby d1_0) rfl rfl k_) ?_
  show Go p.tables e below G (s₁.setTop (mkF m 1 #[rv r0, .val .null, iv (5 : Int32), un] [(.ref r0)]))
  obtain ⟨T1, X1, e1, st1⟩ := initO X0 hx hZ hown (hw _ (List.mem_of_getElem? (i := 7) rfl)) (hw _ (List.mem_of_getElem? (i := 8) rfl)) (hw _ (List.mem_of_getElem? (i := 9) rfl)) e0 (g := (mkF m 1 #[rv r0, .val .null, iv (5 : Int32), un] [(.ref r0)])) rfl (by rw [hml]; rfl) rfl (hb hby d1_1) (by decide) (W := 0) (by show 2 * 0 + _ ≤ _; exact Nat.le_of_eq rfl) (by decide)
  refine Go.stp (fun t_ k_ => st1 t_ k_) ?_
  show Go p.tables e below G (T1.setTop (mkF m 4 #[rv r0, .val .null, iv (5 : Int32), un] []))
  refine Go.stp (fun t_ k_ => XS.aloadN X1.here hx rfl (hb hby d1_4) rfl rfl k_) ?_
  show Go p.tables e below G (T1.setTop (mkF m 5 #[rv r0, .val .null, iv (5 : Int32), un] [(.ref r0)]))
  refine Go.stp (fun t_ k_ => XS.aloadN X1.here hx rfl (hb hby d1_5) rfl rfl k_) ?_
  show Go p.tables e below G (T1.setTop (mkF m 6 #[rv r0, .val .null, iv (5 : Int32), un] [.null, (.ref r0)]))
  obtain ⟨T2, h2, X2, e2, W2, st2⟩ := putF X1 hx hZ hown (host := "") (Or.inl (hw _ (List.mem_of_getElem? (i := 10) rfl))) Via.refl e1 F_entity E_r0 (Or.inr ⟨(hw _ (List.mem_of_getElem? (i := 11) rfl)), rfl, hnm⟩) (hw _ (List.mem_of_getElem? (i := 2) rfl)) (ty := (.object "com/example/chatterbench/chatterbench/data/Entity")) (by decide) rfl rfl (g := (mkF m 6 #[rv r0, .val .null, iv (5 : Int32), un] [.null, (.ref r0)])) rfl rfl (hb hby d1_6)
  have f3 : Fld Z h2 r0 "com/example/chatterbench/chatterbench/data/IdIndex" "entity" "Lcom/example/chatterbench/chatterbench/data/Entity;" .null := F_entity.same W2
  have f4 : Exa Z h2 r0 "com/example/chatterbench/chatterbench/data/IdIndex" := E_r0.wr W2
  have f5 : Fld Z h2 r0 "com/example/chatterbench/chatterbench/data/IdIndex" "ids" "[J" .null := F_ids.other W2 (Or.inr (slot_ne (Or.inr (hw _ (List.mem_of_getElem? (i := 23) rfl))) (Or.inr (hw _ (List.mem_of_getElem? (i := 11) rfl))) (by decide) (t := (.array .long)) (t' := (.object "com/example/chatterbench/chatterbench/data/Entity")) (by decide) (by decide)))
  have f6 : Fld Z h2 r0 "com/example/chatterbench/chatterbench/data/IdIndex" "rows" "[I" .null := F_rows.other W2 (Or.inr (slot_ne (Or.inr (hw _ (List.mem_of_getElem? (i := 26) rfl))) (Or.inr (hw _ (List.mem_of_getElem? (i := 11) rfl))) (by decide) (t := (.array .int)) (t' := (.object "com/example/chatterbench/chatterbench/data/Entity")) (by decide) (by decide)))
  have f7 : Fld Z h2 r0 "com/example/chatterbench/chatterbench/data/IdIndex" "shift" "I" (.int (0 : Int32)) := F_shift.other W2 (Or.inr (slot_ne (Or.inr (hw _ (List.mem_of_getElem? (i := 32) rfl))) (Or.inr (hw _ (List.mem_of_getElem? (i := 11) rfl))) (by decide) (t := .int) (t' := (.object "com/example/chatterbench/chatterbench/data/Entity")) (by decide) (by decide)))
  have N2 := Fr.snoc X2 N0 g_r0
  have K2 := K0.wr W2 (Or.inl (List.mem_of_getElem? (i := 0) rfl))
  have Z2 : n0 ≤ h2.size := Nat.le_trans Z0 (Keep.of_wr W2).1
  refine Go.stp (fun t_ k_ => st2 t_ k_) ?_
  show Go p.tables e below G (T2.setTop (mkF m 9 #[rv r0, .val .null, iv (5 : Int32), un] []))
  refine Go.stp (fun t_ k_ => XS.bipush X2.here hx rfl (hb hby d1_9) k_) ?_
  show Go p.tables e below G (T2.setTop (mkF m 11 #[rv r0, .val .null, iv (5 : Int32), un] [(.int (32 : Int32))]))
  refine Go.stp (fun t_ k_ => XS.iconst X2.here hx rfl (hb hby d1_11) k_) ?_
  show Go p.tables e below G (T2.setTop (mkF m 12 #[rv r0, .val .null, iv (5 : Int32), un] [(.int (1 : Int32)), (.int (32 : Int32))]))
  refine Go.stp (fun t_ k_ => XS.iconst X2.here hx rfl (hb hby d1_12) k_) ?_
  show Go p.tables e below G (T2.setTop (mkF m 13 #[rv r0, .val .null, iv (5 : Int32), un] [(.int (2 : Int32)), (.int (1 : Int32)), (.int (32 : Int32))]))
  refine Go.stp (fun t_ k_ => XS.iloadN X2.here hx rfl (hb hby d1_13) rfl k_) ?_
  show Go p.tables e below G (T2.setTop (mkF m 14 #[rv r0, .val .null, iv (5 : Int32), un] [(.int (5 : Int32)), (.int (2 : Int32)), (.int (1 : Int32)), (.int (32 : Int32))]))
  refine Go.stp (fun t_ k_ => XS.imul X2.here hx rfl (hb hby d1_14) rfl k_) ?_
  show Go p.tables e below G (T2.setTop (mkF m 15 #[rv r0, .val .null, iv (5 : Int32), un] [(.int ((2 : Int32) * (5 : Int32))), (.int (1 : Int32)), (.int (32 : Int32))]))
  refine Go.stp (fun t_ k_ => XS.iconst X2.here hx rfl (hb hby d1_15) k_) ?_
  show Go p.tables e below G (T2.setTop (mkF m 16 #[rv r0, .val .null, iv (5 : Int32), un] [(.int (1 : Int32)), (.int ((2 : Int32) * (5 : Int32))), (.int (1 : Int32)), (.int (32 : Int32))]))
  refine Go.stp (fun t_ k_ => XS.isub X2.here hx rfl (hb hby d1_16) rfl k_) ?_
  show Go p.tables e below G (T2.setTop (mkF m 17 #[rv r0, .val .null, iv (5 : Int32), un] [(.int (((2 : Int32) * (5 : Int32)) - (1 : Int32))), (.int (1 : Int32)), (.int (32 : Int32))]))
  obtain ⟨_, _, ⟨T8, L8, k8, n8⟩, -, X8, ⟨Lc8, hQ8, l8, y8, z8⟩, st8⟩ := Jvm.LawKit.callS X2 hx (y := (⟨"java/lang/Math", "max", "(II)I"⟩ : MethodName)) hown (mvT hZ (hw _ (List.mem_of_getElem? (i := 12) rfl))) (mvT hZ (hw _ (List.mem_of_getElem? (i := 13) rfl))) (mvT hZ (hw _ (List.mem_of_getElem? (i := 14) rfl))) (mvT hZ (hw _ (List.mem_of_getElem? (i := 15) rfl))) (by decide) (backOf (W := 1) (rm3 l Z a0 hw [] (1 : Int32) (((2 : Int32) * (5 : Int32)) - (1 : Int32)) h2 n0 Z2) hZ (hw _ (List.mem_of_getElem? (i := 15) rfl)) (hw _ (List.mem_of_getElem? (i := 14) rfl)) (by decide) (by decide)) (g := (mkF m 17 #[rv r0, .val .null, iv (5 : Int32), un] [(.int (((2 : Int32) * (5 : Int32)) - (1 : Int32))), (.int (1 : Int32)), (.int (32 : Int32))])) rfl (by rw [hml]; rfl) (argsL := [(.int (1 : Int32)), (.int (((2 : Int32) * (5 : Int32)) - (1 : Int32)))]) (rest := [(.int (32 : Int32))]) (lenOf pd_0 rfl) rfl (by show 2 * 0 + _ ≤ _; exact Nat.le_of_eq rfl) (hb hby d1_17) (fun _ _ => ⟨rfl, e2, (by decide : 0 + 0 ≤ _), (by decide : 0 + 0 ≤ _)⟩)
  dsimp only [Pt.U, Pt.locs, Pt.cells, Pt.slots] at X8 l8 y8 z8 st8 hQ8
  subst l8 y8 z8
  obtain ⟨rfl, Nq8, e8⟩ := hQ8
  have N8 := Fr.app N2 Nq8
  have pp8 : own_max (1 : Int32) (((2 : Int32) * (5 : Int32)) - (1 : Int32)) = (9 : Int32) := by decide
  rw [pp8] at st8
  refine Go.stp (fun t_ k_ => st8 t_ k_) ?_
  show Go p.tables e below G (T8.setTop (mkF m 20 #[rv r0, .val .null, iv (5 : Int32), un] [(.int (9 : Int32)), (.int (32 : Int32))]))
  obtain ⟨_, _, ⟨T9, L9, k9, n9⟩, -, X9, ⟨Lc9, hQ9, l9, y9, z9⟩, st9⟩ := Jvm.LawKit.callS X8 hx (y := (⟨"java/lang/Integer", "numberOfLeadingZeros", "(I)I"⟩ : MethodName)) hown (mvT hZ (hw _ (List.mem_of_getElem? (i := 16) rfl))) (mvT hZ (hw _ (List.mem_of_getElem? (i := 17) rfl))) (mvT hZ (hw _ (List.mem_of_getElem? (i := 18) rfl))) (mvT hZ (hw _ (List.mem_of_getElem? (i := 19) rfl))) (by decide) (backOf (W := 1) (rm4_9 l Z a0 hw [] h2 n0 Z2) hZ (hw _ (List.mem_of_getElem? (i := 19) rfl)) (hw _ (List.mem_of_getElem? (i := 18) rfl)) (by decide) (by decide)) (g := (mkF m 20 #[rv r0, .val .null, iv (5 : Int32), un] [(.int (9 : Int32)), (.int (32 : Int32))])) rfl (by rw [hml]; rfl) (argsL := [(.int (9 : Int32))]) (rest := [(.int (32 : Int32))]) (lenOf pd_1 rfl) rfl (by show 2 * 0 + _ ≤ _; exact Nat.le_of_eq rfl) (hb hby d1_20) (fun _ _ => ⟨rfl, e8, (by decide : 0 + 0 ≤ _), (by decide : 0 + 0 ≤ _)⟩)
  dsimp only [Pt.U, Pt.locs, Pt.cells, Pt.slots] at X9 l9 y9 z9 st9 hQ9
  subst l9 y9 z9
  obtain ⟨rfl, Nq9, e9⟩ := hQ9
  have N9 := Fr.app N8 Nq9
  refine Go.stp (fun t_ k_ => st9 t_ k_) ?_
  show Go p.tables e below G (T9.setTop (mkF m 23 #[rv r0, .val .null, iv (5 : Int32), un] [(.int (28 : Int32)), (.int (32 : Int32))]))
  refine Go.stp (fun t_ k_ => XS.isub X9.here hx rfl (hb hby d1_23) rfl k_) ?_
  show Go p.tables e below G (T9.setTop (mkF m 24 #[rv r0, .val .null, iv (5 : Int32), un] [(.int ((32 : Int32) - (28 : Int32)))]))
  refine Go.stp (fun t_ k_ => XS.istoreN X9.here hx rfl (hb hby d1_24) rfl (l' := #[rv r0, .val .null, iv (5 : Int32), iv ((32 : Int32) - (28 : Int32))]) rfl k_) ?_
  show Go p.tables e below G (T9.setTop (mkF m 25 #[rv r0, .val .null, iv (5 : Int32), iv ((32 : Int32) - (28 : Int32))] []))
  refine Go.stp (fun t_ k_ => XS.aloadN X9.here hx rfl (hb hby d1_25) rfl rfl k_) ?_
  show Go p.tables e below G (T9.setTop (mkF m 26 #[rv r0, .val .null, iv (5 : Int32), iv ((32 : Int32) - (28 : Int32))] [(.ref r0)]))
  refine Go.stp (fun t_ k_ => XS.iconst X9.here hx rfl (hb hby d1_26) k_) ?_
  show Go p.tables e below G (T9.setTop (mkF m 27 #[rv r0, .val .null, iv (5 : Int32), iv ((32 : Int32) - (28 : Int32))] [(.int (1 : Int32)), (.ref r0)]))
  refine Go.stp (fun t_ k_ => XS.iloadN X9.here hx rfl (hb hby d1_27) rfl k_) ?_
  show Go p.tables e below G (T9.setTop (mkF m 28 #[rv r0, .val .null, iv (5 : Int32), iv ((32 : Int32) - (28 : Int32))] [(.int ((32 : Int32) - (28 : Int32))), (.int (1 : Int32)), (.ref r0)]))
  refine Go.stp (fun t_ k_ => XS.ishl X9.here hx rfl (hb hby d1_28) rfl k_) ?_
  show Go p.tables e below G (T9.setTop (mkF m 29 #[rv r0, .val .null, iv (5 : Int32), iv ((32 : Int32) - (28 : Int32))] [(.int ((1 : Int32) <<< (((32 : Int32) - (28 : Int32)) &&& 31))), (.ref r0)]))
  obtain ⟨T10, h10, k10, X10, e10, E10, A10, st10⟩ := newP X9 hx hZ (hw _ (List.mem_of_getElem? (i := 21) rfl)) e9 (g := (mkF m 29 #[rv r0, .val .null, iv (5 : Int32), iv ((32 : Int32) - (28 : Int32))] [(.int ((1 : Int32) <<< (((32 : Int32) - (28 : Int32)) &&& 31))), (.ref r0)])) rfl (hb hby d1_29) rfl (by decide) (cap := 16) (by decide) (by decide) (by decide) (by decide)
  obtain ⟨b10, g10⟩ : ∃ z, z = h2.size := ⟨_, rfl⟩
  rw [← g10] at A10 st10
  have u11 : r0 ≠ b10 := Nat.ne_of_lt (Nat.lt_of_lt_of_le f4.lt (Nat.le_of_eq g10.symm))
  have g_b10 : n0 ≤ b10 := Nat.le_trans Z2 (Nat.le_of_eq g10.symm)
  have sz_b10 : h0.size ≤ b10 := Nat.le_trans K2.1 (Nat.le_of_eq g10.symm)
  have f12 : Exa Z h10 r0 "com/example/chatterbench/chatterbench/data/IdIndex" := f4.ext E10
  have f13 : Fld Z h10 r0 "com/example/chatterbench/chatterbench/data/IdIndex" "ids" "[J" .null := f5.ext E10
  have f14 : Fld Z h10 r0 "com/example/chatterbench/chatterbench/data/IdIndex" "rows" "[I" .null := f6.ext E10
  have f15 : Fld Z h10 r0 "com/example/chatterbench/chatterbench/data/IdIndex" "shift" "I" (.int (0 : Int32)) := f7.ext E10
  have f16 : Fld Z h10 r0 "com/example/chatterbench/chatterbench/data/IdIndex" "entity" "Lcom/example/chatterbench/chatterbench/data/Entity;" .null := f3.ext E10
  have Z10 : n0 ≤ h10.size := Nat.le_trans Z2 E10.1
  have K10 := K2.ext E10
  have f17 : Ia Z h10 b10 .long 16 Value.long (fun _ => (0 : Int64)) := Ia.new A10 (by decide) (by decide) rfl
  refine Go.stp (fun t_ k_ => st10 t_ k_) ?_
  show Go p.tables e below G (T10.setTop (mkF m 31 #[rv r0, .val .null, iv (5 : Int32), iv ((32 : Int32) - (28 : Int32))] [(.ref b10), (.ref r0)]))
  obtain ⟨T18, h18, X18, e18, W18, st18⟩ := putF X10 hx hZ hown (host := "") (Or.inl (hw _ (List.mem_of_getElem? (i := 22) rfl))) Via.refl e10 f13 f12 (Or.inr ⟨(hw _ (List.mem_of_getElem? (i := 23) rfl)), rfl, hnm⟩) (hw _ (List.mem_of_getElem? (i := 2) rfl)) (ty := (.array .long)) (by decide) rfl rfl (g := (mkF m 31 #[rv r0, .val .null, iv (5 : Int32), iv ((32 : Int32) - (28 : Int32))] [(.ref b10), (.ref r0)])) rfl rfl (hb hby d1_31)
  have f19 : Fld Z h18 r0 "com/example/chatterbench/chatterbench/data/IdIndex" "ids" "[J" (.ref b10) := f13.same W18
  have f20 : Exa Z h18 r0 "com/example/chatterbench/chatterbench/data/IdIndex" := f12.wr W18
  have f21 : Fld Z h18 r0 "com/example/chatterbench/chatterbench/data/IdIndex" "rows" "[I" .null := f14.other W18 (Or.inr (slot_ne (Or.inr (hw _ (List.mem_of_getElem? (i := 26) rfl))) (Or.inr (hw _ (List.mem_of_getElem? (i := 23) rfl))) (by decide) (t := (.array .int)) (t' := (.array .long)) (by decide) (by decide)))
  have f22 : Fld Z h18 r0 "com/example/chatterbench/chatterbench/data/IdIndex" "shift" "I" (.int (0 : Int32)) := f15.other W18 (Or.inr (slot_ne (Or.inr (hw _ (List.mem_of_getElem? (i := 32) rfl))) (Or.inr (hw _ (List.mem_of_getElem? (i := 23) rfl))) (by decide) (t := .int) (t' := (.array .long)) (by decide) (by decide)))
  have f23 : Fld Z h18 r0 "com/example/chatterbench/chatterbench/data/IdIndex" "entity" "Lcom/example/chatterbench/chatterbench/data/Entity;" .null := f16.other W18 (Or.inr (slot_ne (Or.inr (hw _ (List.mem_of_getElem? (i := 11) rfl))) (Or.inr (hw _ (List.mem_of_getElem? (i := 23) rfl))) (by decide) (t := (.object "com/example/chatterbench/chatterbench/data/Entity")) (t' := (.array .long)) (by decide) (by decide)))
  have f24 : Ia Z h18 b10 .long 16 Value.long (fun _ => (0 : Int64)) := f17.other W18 (Ne.symm u11)
  have N18 := Fr.snoc X18 N9 g_r0
  have K18 := K10.wr W18 (Or.inl (List.mem_of_getElem? (i := 0) rfl))
  have Z18 : n0 ≤ h18.size := Nat.le_trans Z10 (Keep.of_wr W18).1
  refine Go.stp (fun t_ k_ => st18 t_ k_) ?_
  show Go p.tables e below G (T18.setTop (mkF m 34 #[rv r0, .val .null, iv (5 : Int32), iv ((32 : Int32) - (28 : Int32))] []))
  refine Go.stp (fun t_ k_ => XS.aloadN X18.here hx rfl (hb hby d1_34) rfl rfl k_) ?_
  show Go p.tables e below G (T18.setTop (mkF m 35 #[rv r0, .val .null, iv (5 : Int32), iv ((32 : Int32) - (28 : Int32))] [(.ref r0)]))
  refine Go.stp (fun t_ k_ => XS.iconst X18.here hx rfl (hb hby d1_35) k_) ?_
  show Go p.tables e below G (T18.setTop (mkF m 36 #[rv r0, .val .null, iv (5 : Int32), iv ((32 : Int32) - (28 : Int32))] [(.int (1 : Int32)), (.ref r0)]))
  refine Go.stp (fun t_ k_ => XS.iloadN X18.here hx rfl (hb hby d1_36) rfl k_) ?_
  show Go p.tables e below G (T18.setTop (mkF m 37 #[rv r0, .val .null, iv (5 : Int32), iv ((32 : Int32) - (28 : Int32))] [(.int ((32 : Int32) - (28 : Int32))), (.int (1 : Int32)), (.ref r0)]))
  refine Go.stp (fun t_ k_ => XS.ishl X18.here hx rfl (hb hby d1_37) rfl k_) ?_
  show Go p.tables e below G (T18.setTop (mkF m 38 #[rv r0, .val .null, iv (5 : Int32), iv ((32 : Int32) - (28 : Int32))] [(.int ((1 : Int32) <<< (((32 : Int32) - (28 : Int32)) &&& 31))), (.ref r0)]))
  obtain ⟨T25, h25, k25, X25, e25, E25, A25, st25⟩ := newP X18 hx hZ (hw _ (List.mem_of_getElem? (i := 24) rfl)) e18 (g := (mkF m 38 #[rv r0, .val .null, iv (5 : Int32), iv ((32 : Int32) - (28 : Int32))] [(.int ((1 : Int32) <<< (((32 : Int32) - (28 : Int32)) &&& 31))), (.ref r0)])) rfl (hb hby d1_38) rfl (by decide) (cap := 16) (by decide) (by decide) (by decide) (by decide)
  obtain ⟨b25, g25⟩ : ∃ z, z = h18.size := ⟨_, rfl⟩
  rw [← g25] at A25 st25
  have u26 : r0 ≠ b25 := Nat.ne_of_lt (Nat.lt_of_lt_of_le f20.lt (Nat.le_of_eq g25.symm))
  have u27 : b10 ≠ b25 := Nat.ne_of_lt (Nat.lt_of_lt_of_le f24.lt (Nat.le_of_eq g25.symm))
  have g_b25 : n0 ≤ b25 := Nat.le_trans Z18 (Nat.le_of_eq g25.symm)
  have sz_b25 : h0.size ≤ b25 := Nat.le_trans K18.1 (Nat.le_of_eq g25.symm)
  have f28 : Exa Z h25 r0 "com/example/chatterbench/chatterbench/data/IdIndex" := f20.ext E25
  have f29 : Fld Z h25 r0 "com/example/chatterbench/chatterbench/data/IdIndex" "rows" "[I" .null := f21.ext E25
  have f30 : Fld Z h25 r0 "com/example/chatterbench/chatterbench/data/IdIndex" "shift" "I" (.int (0 : Int32)) := f22.ext E25
  have f31 : Fld Z h25 r0 "com/example/chatterbench/chatterbench/data/IdIndex" "entity" "Lcom/example/chatterbench/chatterbench/data/Entity;" .null := f23.ext E25
  have f32 : Ia Z h25 b10 .long 16 Value.long (fun _ => (0 : Int64)) := f24.ext E25
  have f33 : Fld Z h25 r0 "com/example/chatterbench/chatterbench/data/IdIndex" "ids" "[J" (.ref b10) := f19.ext E25
  have Z25 : n0 ≤ h25.size := Nat.le_trans Z18 E25.1
  have K25 := K18.ext E25
  have f34 : Ia Z h25 b25 .int 16 Value.int (fun _ => (0 : Int32)) := Ia.new A25 (by decide) (by decide) rfl
  refine Go.stp (fun t_ k_ => st25 t_ k_) ?_
  show Go p.tables e below G (T25.setTop (mkF m 40 #[rv r0, .val .null, iv (5 : Int32), iv ((32 : Int32) - (28 : Int32))] [(.ref b25), (.ref r0)]))
  obtain ⟨T35, h35, X35, e35, W35, st35⟩ := putF X25 hx hZ hown (host := "") (Or.inl (hw _ (List.mem_of_getElem? (i := 25) rfl))) Via.refl e25 f29 f28 (Or.inr ⟨(hw _ (List.mem_of_getElem? (i := 26) rfl)), rfl, hnm⟩) (hw _ (List.mem_of_getElem? (i := 2) rfl)) (ty := (.array .int)) (by decide) rfl rfl (g := (mkF m 40 #[rv r0, .val .null, iv (5 : Int32), iv ((32 : Int32) - (28 : Int32))] [(.ref b25), (.ref r0)])) rfl rfl (hb hby d1_40)
  have f36 : Fld Z h35 r0 "com/example/chatterbench/chatterbench/data/IdIndex" "rows" "[I" (.ref b25) := f29.same W35
  have f37 : Exa Z h35 r0 "com/example/chatterbench/chatterbench/data/IdIndex" := f28.wr W35
  have f38 : Fld Z h35 r0 "com/example/chatterbench/chatterbench/data/IdIndex" "shift" "I" (.int (0 : Int32)) := f30.other W35 (Or.inr (slot_ne (Or.inr (hw _ (List.mem_of_getElem? (i := 32) rfl))) (Or.inr (hw _ (List.mem_of_getElem? (i := 26) rfl))) (by decide) (t := .int) (t' := (.array .int)) (by decide) (by decide)))
  have f39 : Fld Z h35 r0 "com/example/chatterbench/chatterbench/data/IdIndex" "entity" "Lcom/example/chatterbench/chatterbench/data/Entity;" .null := f31.other W35 (Or.inr (slot_ne (Or.inr (hw _ (List.mem_of_getElem? (i := 11) rfl))) (Or.inr (hw _ (List.mem_of_getElem? (i := 26) rfl))) (by decide) (t := (.object "com/example/chatterbench/chatterbench/data/Entity")) (t' := (.array .int)) (by decide) (by decide)))
  have f40 : Ia Z h35 b10 .long 16 Value.long (fun _ => (0 : Int64)) := f32.other W35 (Ne.symm u11)
  have f41 : Fld Z h35 r0 "com/example/chatterbench/chatterbench/data/IdIndex" "ids" "[J" (.ref b10) := f33.other W35 (Or.inr (slot_ne (Or.inr (hw _ (List.mem_of_getElem? (i := 23) rfl))) (Or.inr (hw _ (List.mem_of_getElem? (i := 26) rfl))) (by decide) (t := (.array .long)) (t' := (.array .int)) (by decide) (by decide)))
  have f42 : Ia Z h35 b25 .int 16 Value.int (fun _ => (0 : Int32)) := f34.other W35 (Ne.symm u26)
  have N35 := Fr.snoc X35 N18 g_r0
  have K35 := K25.wr W35 (Or.inl (List.mem_of_getElem? (i := 0) rfl))
  have Z35 : n0 ≤ h35.size := Nat.le_trans Z25 (Keep.of_wr W35).1
  refine Go.stp (fun t_ k_ => st35 t_ k_) ?_
  show Go p.tables e below G (T35.setTop (mkF m 43 #[rv r0, .val .null, iv (5 : Int32), iv ((32 : Int32) - (28 : Int32))] []))
  refine Go.stp (fun t_ k_ => XS.aloadN X35.here hx rfl (hb hby d1_43) rfl rfl k_) ?_
  show Go p.tables e below G (T35.setTop (mkF m 44 #[rv r0, .val .null, iv (5 : Int32), iv ((32 : Int32) - (28 : Int32))] [(.ref r0)]))
  obtain ⟨T43, X43, e43, st43⟩ := getF X35 hx hZ hown (host := "") (Or.inl (hw _ (List.mem_of_getElem? (i := 25) rfl))) Via.refl e35 f36 (g := (mkF m 44 #[rv r0, .val .null, iv (5 : Int32), iv ((32 : Int32) - (28 : Int32))] [(.ref r0)])) rfl rfl (hb hby d1_44)
  refine Go.stp (fun t_ k_ => st43 t_ k_) ?_
  show Go p.tables e below G (T43.setTop (mkF m 47 #[rv r0, .val .null, iv (5 : Int32), iv ((32 : Int32) - (28 : Int32))] [(.ref b25)]))
  refine Go.stp (fun t_ k_ => XS.iconst X43.here hx rfl (hb hby d1_47) k_) ?_
  show Go p.tables e below G (T43.setTop (mkF m 48 #[rv r0, .val .null, iv (5 : Int32), iv ((32 : Int32) - (28 : Int32))] [(.int (-1 : Int32)), (.ref b25)]))
  obtain ⟨_, _, ⟨T44, L44, k44, n44⟩, -, X44, ⟨Lc44, hQ44, l44, y44, z44⟩, st44⟩ := Jvm.LawKit.callS X43 hx (y := (⟨"java/util/Arrays", "fill", "([II)V"⟩ : MethodName)) hown (mvT hZ (hw _ (List.mem_of_getElem? (i := 27) rfl))) (mvT hZ (hw _ (List.mem_of_getElem? (i := 28) rfl))) (mvT hZ (hw _ (List.mem_of_getElem? (i := 29) rfl))) (mvT hZ (hw _ (List.mem_of_getElem? (i := 30) rfl))) (by decide) (backOf (W := 0) (rm5_16 l Z a0 hw [] b25 (-1 : Int32) (fun _ => (0 : Int32)) h35 n0 Z35 f42 g_b25) hZ (hw _ (List.mem_of_getElem? (i := 30) rfl)) (hw _ (List.mem_of_getElem? (i := 29) rfl)) (by decide) (by decide)) (g := (mkF m 48 #[rv r0, .val .null, iv (5 : Int32), iv ((32 : Int32) - (28 : Int32))] [(.int (-1 : Int32)), (.ref b25)])) rfl (by rw [hml]; rfl) (argsL := [(.ref b25), (.int (-1 : Int32))]) (rest := []) (lenOf pd_2 rfl) rfl (by show 2 * 0 + _ ≤ _; exact Nat.le_of_eq rfl) (hb hby d1_48) (fun _ _ => ⟨rfl, e43, (by decide : 2 + 0 ≤ _), (by decide : 32 + 0 ≤ _)⟩)
  dsimp only [Pt.U, Pt.locs, Pt.cells, Pt.slots] at X44 l44 y44 z44 st44 hQ44
  subst l44 y44 z44
  obtain ⟨rfl, Nq44, Kc44, Iq44⟩ := hQ44
  have N44 := Fr.app N35 Nq44
  have f45 : Exa Z T44.heap r0 "com/example/chatterbench/chatterbench/data/IdIndex" := f37.keep Kc44
  have f46 : Fld Z T44.heap r0 "com/example/chatterbench/chatterbench/data/IdIndex" "shift" "I" (.int (0 : Int32)) := f38.keep Kc44 (fun q => by simp only [List.mem_cons, List.not_mem_nil, or_false] at q; exact u26 q)
  have f47 : Fld Z T44.heap r0 "com/example/chatterbench/chatterbench/data/IdIndex" "entity" "Lcom/example/chatterbench/chatterbench/data/Entity;" .null := f39.keep Kc44 (fun q => by simp only [List.mem_cons, List.not_mem_nil, or_false] at q; exact u26 q)
  have f48 : Ia Z T44.heap b10 .long 16 Value.long (fun _ => (0 : Int64)) := f40.keep Kc44 (fun q => by simp only [List.mem_cons, List.not_mem_nil, or_false] at q; exact u27 q)
  have f49 : Fld Z T44.heap r0 "com/example/chatterbench/chatterbench/data/IdIndex" "ids" "[J" (.ref b10) := f41.keep Kc44 (fun q => by simp only [List.mem_cons, List.not_mem_nil, or_false] at q; exact u26 q)
  have f50 : Fld Z T44.heap r0 "com/example/chatterbench/chatterbench/data/IdIndex" "rows" "[I" (.ref b25) := f36.keep Kc44 (fun q => by simp only [List.mem_cons, List.not_mem_nil, or_false] at q; exact u26 q)
  have Z44 : n0 ≤ T44.heap.size := Nat.le_trans Z35 Kc44.1
  have K44 := K35.trans Kc44 (fun x q => by
      simp only [List.mem_cons, List.not_mem_nil, or_false] at q
      rw [q]; exact (Or.inr sz_b25))
  refine Go.stp (fun t_ k_ => st44 t_ k_) ?_
  show Go p.tables e below G (T44.setTop (mkF m 51 #[rv r0, .val .null, iv (5 : Int32), iv ((32 : Int32) - (28 : Int32))] []))
  refine Go.stp (fun t_ k_ => XS.aloadN X44.here hx rfl (hb hby d1_51) rfl rfl k_) ?_
  show Go p.tables e below G (T44.setTop (mkF m 52 #[rv r0, .val .null, iv (5 : Int32), iv ((32 : Int32) - (28 : Int32))] [(.ref r0)]))
  refine Go.stp (fun t_ k_ => XS.bipush X44.here hx rfl (hb hby d1_52) k_) ?_
  show Go p.tables e below G (T44.setTop (mkF m 54 #[rv r0, .val .null, iv (5 : Int32), iv ((32 : Int32) - (28 : Int32))] [(.int (64 : Int32)), (.ref r0)]))
  refine Go.stp (fun t_ k_ => XS.iloadN X44.here hx rfl (hb hby d1_54) rfl k_) ?_
  show Go p.tables e below G (T44.setTop (mkF m 55 #[rv r0, .val .null, iv (5 : Int32), iv ((32 : Int32) - (28 : Int32))] [(.int ((32 : Int32) - (28 : Int32))), (.int (64 : Int32)), (.ref r0)]))
  refine Go.stp (fun t_ k_ => XS.isub X44.here hx rfl (hb hby d1_55) rfl k_) ?_
  show Go p.tables e below G (T44.setTop (mkF m 56 #[rv r0, .val .null, iv (5 : Int32), iv ((32 : Int32) - (28 : Int32))] [(.int ((64 : Int32) - ((32 : Int32) - (28 : Int32)))), (.ref r0)]))
  obtain ⟨T51, h51, X51, e51, W51, st51⟩ := putF X44 hx hZ hown (host := "") (Or.inl (hw _ (List.mem_of_getElem? (i := 31) rfl))) Via.refl rfl f46 f45 (Or.inr ⟨(hw _ (List.mem_of_getElem? (i := 32) rfl)), rfl, hnm⟩) (hw _ (List.mem_of_getElem? (i := 2) rfl)) (ty := .int) (by decide) rfl rfl (g := (mkF m 56 #[rv r0, .val .null, iv (5 : Int32), iv ((32 : Int32) - (28 : Int32))] [(.int ((64 : Int32) - ((32 : Int32) - (28 : Int32)))), (.ref r0)])) rfl rfl (hb hby d1_56)
  have f52 : Fld Z h51 r0 "com/example/chatterbench/chatterbench/data/IdIndex" "shift" "I" (.int ((64 : Int32) - ((32 : Int32) - (28 : Int32)))) := f46.same W51
  have f53 : Exa Z h51 r0 "com/example/chatterbench/chatterbench/data/IdIndex" := f45.wr W51
  have f54 : Fld Z h51 r0 "com/example/chatterbench/chatterbench/data/IdIndex" "entity" "Lcom/example/chatterbench/chatterbench/data/Entity;" .null := f47.other W51 (Or.inr (slot_ne (Or.inr (hw _ (List.mem_of_getElem? (i := 11) rfl))) (Or.inr (hw _ (List.mem_of_getElem? (i := 32) rfl))) (by decide) (t := (.object "com/example/chatterbench/chatterbench/data/Entity")) (t' := .int) (by decide) (by decide)))
  have f55 : Ia Z h51 b10 .long 16 Value.long (fun _ => (0 : Int64)) := f48.other W51 (Ne.symm u11)
  have f56 : Fld Z h51 r0 "com/example/chatterbench/chatterbench/data/IdIndex" "ids" "[J" (.ref b10) := f49.other W51 (Or.inr (slot_ne (Or.inr (hw _ (List.mem_of_getElem? (i := 23) rfl))) (Or.inr (hw _ (List.mem_of_getElem? (i := 32) rfl))) (by decide) (t := (.array .long)) (t' := .int) (by decide) (by decide)))
  have f57 : Fld Z h51 r0 "com/example/chatterbench/chatterbench/data/IdIndex" "rows" "[I" (.ref b25) := f50.other W51 (Or.inr (slot_ne (Or.inr (hw _ (List.mem_of_getElem? (i := 26) rfl))) (Or.inr (hw _ (List.mem_of_getElem? (i := 32) rfl))) (by decide) (t := (.array .int)) (t' := .int) (by decide) (by decide)))
  have f58 : Ia Z h51 b25 .int 16 Value.int (fun _ => (-1 : Int32)) := Iq44.other W51 (Ne.symm u26)
  have N51 := Fr.snoc X51 N44 g_r0
  have K51 := K44.wr W51 (Or.inl (List.mem_of_getElem? (i := 0) rfl))
  have Z51 : n0 ≤ h51.size := Nat.le_trans Z44 (Keep.of_wr W51).1
  refine Go.stp (fun t_ k_ => st51 t_ k_) ?_
  show Go p.tables e below G (T51.setTop (mkF m 59 #[rv r0, .val .null, iv (5 : Int32), iv ((32 : Int32) - (28 : Int32))] []))
  obtain ⟨fs, hr, hrun, hended, hW, hsame⟩ := X51.leave (v := none) (fun _ => rfl)
  refine ⟨_, _, X51.returnOut hx Bd.returns (hb hby d1_59) hr, hrun, hended, hG _ _ _ ?_ ⟨⟨_, rfl⟩, hW, hsame.mono (by decide) (by decide)⟩⟩
  show Q1_N16 Z r0 h0 n0 _ T51.heap _
  rw [e51]
  have Fs : Fld Z h51 r0 "com/example/chatterbench/chatterbench/data/IdIndex" "shift" "I" (.int (60 : Int32)) := by
    have q := f52
    rw [show ((64 : Int32) - ((32 : Int32) - (28 : Int32))) = (60 : Int32) by decide] at q
    exact q
  exact ⟨rfl, N51, K51, b25, b10, g_b25, g_b10, (Ne.symm u27), u26, u11, f53, f57, f56, Fs, f58, f55⟩
theorem ef_1_c6 (m : MethodId) (r0 : Addr) : entryFrame m #[(.ref r0), .null, (.int (6 : Int32))] 4 = mkF m 0 #[rv r0, .val .null, iv (6 : Int32), un] [] := by first | (simp [entryFrame, mkF, argsToLocals, Value.category, iv, rv, lv, un, sd]; done) | rfl
set_option maxRecDepth 65536 in
set_option maxHeartbeats 40000000 in
theorem rm1_c6 (l : Launch) (Z : State) (a0 : Array Value) (hw : ∀ d ∈ tables_1, d.before a0 Z = true) (ws : List Jvm.Cond) (r0 : Addr) (h0 : Heap) (n0 : Nat) (Z0 : n0 ≤ h0.size) (E_r0 : Exa Z h0 r0 "com/example/chatterbench/chatterbench/data/IdIndex") (F_entity : Fld Z h0 r0 "com/example/chatterbench/chatterbench/data/IdIndex" "entity" "Lcom/example/chatterbench/chatterbench/data/Entity;" .null) (F_ids : Fld Z h0 r0 "com/example/chatterbench/chatterbench/data/IdIndex" "ids" "[J" .null) (F_rows : Fld Z h0 r0 "com/example/chatterbench/chatterbench/data/IdIndex" "rows" "[I" .null) (F_shift : Fld Z h0 r0 "com/example/chatterbench/chatterbench/data/IdIndex" "shift" "I" (.int (0 : Int32))) (g_r0 : n0 ≤ r0) :
    MetFree l (⟨"com/example/chatterbench/chatterbench/data/IdIndex", "<init>", "(Lcom/example/chatterbench/chatterbench/data/Entity;I)V"⟩ : MethodName) (head1 (Jvm.Cond.code (⟨"com/example/chatterbench/chatterbench/data/IdIndex", "<init>", "(Lcom/example/chatterbench/chatterbench/data/Entity;I)V"⟩ : MethodName) prog_10_method_1_code 4 none :: ws) ({ frames := 1, cells := 2, slots := 32, locals := 16 } : Room)) (fun a U => a = #[(.ref r0), .null, (.int (6 : Int32))] ∧ Z.Warmed39 U.vm ∧ U.heap = h0) (fun _ _ _ _ _ => True) (fun _ U o U' => ∃ v L, o = .returned v ∧ Q1_N16 Z r0 h0 n0 v U'.heap L ∧ FrameEnd U o U' L ({ frames := 1, cells := 2, slots := 32, locals := 16 } : Room).cells ({ frames := 1, cells := 2, slots := 32, locals := 16 } : Room).slots) := by
  refine MetFree.of_bodySF (plainFor_of_name pn_1) hisR ?_
  intro p e s m args below meth c s₁ Bd hml0 hP hK
  obtain ⟨rfl, hZ, hh⟩ := hP
  have hx := Bd.exec
  have hby := Bd.bytes
  have hml : c.maxLocals = 4 := hml0
  have hown : s.vm.findClass "com/example/chatterbench/chatterbench/data/IdIndex" = some m.cls := findClass_of_methodNamed Bd.named
  have hnm := (name_of_methodNamed Bd.named Bd.method).1
  have X0 : Stand p l e ({ frames := 1, cells := 2, slots := 32, locals := 16 } : Room) s m #[(.ref r0), .null, (.int (6 : Int32))] below meth c s₁ [] 0 0 := Stand.of_body Bd
  have e0 : s₁.heap = h0 := by rw [← hh, Bd.state]; rfl
  have N0 := Fr.nil n0
  suffices HH : ∀ G : Outcome → State → Prop, (∀ v L U', Q1_N16 Z r0 h0 n0 v U'.heap L → FrameEnd s (.returned v) U' L ({ frames := 1, cells := 2, slots := 32, locals := 16 } : Room).cells ({ frames := 1, cells := 2, slots := 32, locals := 16 } : Room).slots → G (.returned v) U') → Go p.tables e below G (s₁.setTop (mkF m 0 #[rv r0, .val .null, iv (6 : Int32), un] [])) by
    obtain ⟨s2, o, h1, h2, h3, h4⟩ := HH (fun o U' => ∃ v L, o = .returned v ∧ Q1_N16 Z r0 h0 n0 v U'.heap L ∧ FrameEnd s o U' L ({ frames := 1, cells := 2, slots := 32, locals := 16 } : Room).cells ({ frames := 1, cells := 2, slots := 32, locals := 16 } : Room).slots) (fun v L U' q f => ⟨v, L, rfl, q, f⟩)
    exact ⟨s2, o, castTop (ef_1_c6 m r0) h1, h2, h3, h4⟩
  intro G hG
  have K0 := Keep.refl h0 [r0]
  show Go p.tables e below G (s₁.setTop (mkF m 0 #[rv r0, .val .null, iv (6 : Int32), un] []))
  refine Go.stp (fun t_ k_ => XS.aloadN X0.here hx rfl (hb hby d1_0) rfl rfl k_) ?_
  show Go p.tables e below G (s₁.setTop (mkF m 1 #[rv r0, .val .null, iv (6 : Int32), un] [(.ref r0)]))
  obtain ⟨T1, X1, e1, st1⟩ := initO X0 hx hZ hown (hw _ (List.mem_of_getElem? (i := 7) rfl)) (hw _ (List.mem_of_getElem? (i := 8) rfl)) (hw _ (List.mem_of_getElem? (i := 9) rfl)) e0 (g := (mkF m 1 #[rv r0, .val .null, iv (6 : Int32), un] [(.ref r0)])) rfl (by rw [hml]; rfl) rfl (hb hby d1_1) (by decide) (W := 0) (by show 2 * 0 + _ ≤ _; exact Nat.le_of_eq rfl) (by decide)
  refine Go.stp (fun t_ k_ => st1 t_ k_) ?_
  show Go p.tables e below G (T1.setTop (mkF m 4 #[rv r0, .val .null, iv (6 : Int32), un] []))
  refine Go.stp (fun t_ k_ => XS.aloadN X1.here hx rfl (hb hby d1_4) rfl rfl k_) ?_
  show Go p.tables e below G (T1.setTop (mkF m 5 #[rv r0, .val .null, iv (6 : Int32), un] [(.ref r0)]))
  refine Go.stp (fun t_ k_ => XS.aloadN X1.here hx rfl (hb hby d1_5) rfl rfl k_) ?_
  show Go p.tables e below G (T1.setTop (mkF m 6 #[rv r0, .val .null, iv (6 : Int32), un] [.null, (.ref r0)]))
  obtain ⟨T2, h2, X2, e2, W2, st2⟩ := putF X1 hx hZ hown (host := "") (Or.inl (hw _ (List.mem_of_getElem? (i := 10) rfl))) Via.refl e1 F_entity E_r0 (Or.inr ⟨(hw _ (List.mem_of_getElem? (i := 11) rfl)), rfl, hnm⟩) (hw _ (List.mem_of_getElem? (i := 2) rfl)) (ty := (.object "com/example/chatterbench/chatterbench/data/Entity")) (by decide) rfl rfl (g := (mkF m 6 #[rv r0, .val .null, iv (6 : Int32), un] [.null, (.ref r0)])) rfl rfl (hb hby d1_6)
  have f3 : Fld Z h2 r0 "com/example/chatterbench/chatterbench/data/IdIndex" "entity" "Lcom/example/chatterbench/chatterbench/data/Entity;" .null := F_entity.same W2
  have f4 : Exa Z h2 r0 "com/example/chatterbench/chatterbench/data/IdIndex" := E_r0.wr W2
  have f5 : Fld Z h2 r0 "com/example/chatterbench/chatterbench/data/IdIndex" "ids" "[J" .null := F_ids.other W2 (Or.inr (slot_ne (Or.inr (hw _ (List.mem_of_getElem? (i := 23) rfl))) (Or.inr (hw _ (List.mem_of_getElem? (i := 11) rfl))) (by decide) (t := (.array .long)) (t' := (.object "com/example/chatterbench/chatterbench/data/Entity")) (by decide) (by decide)))
  have f6 : Fld Z h2 r0 "com/example/chatterbench/chatterbench/data/IdIndex" "rows" "[I" .null := F_rows.other W2 (Or.inr (slot_ne (Or.inr (hw _ (List.mem_of_getElem? (i := 26) rfl))) (Or.inr (hw _ (List.mem_of_getElem? (i := 11) rfl))) (by decide) (t := (.array .int)) (t' := (.object "com/example/chatterbench/chatterbench/data/Entity")) (by decide) (by decide)))
  have f7 : Fld Z h2 r0 "com/example/chatterbench/chatterbench/data/IdIndex" "shift" "I" (.int (0 : Int32)) := F_shift.other W2 (Or.inr (slot_ne (Or.inr (hw _ (List.mem_of_getElem? (i := 32) rfl))) (Or.inr (hw _ (List.mem_of_getElem? (i := 11) rfl))) (by decide) (t := .int) (t' := (.object "com/example/chatterbench/chatterbench/data/Entity")) (by decide) (by decide)))
  have N2 := Fr.snoc X2 N0 g_r0
  have K2 := K0.wr W2 (Or.inl (List.mem_of_getElem? (i := 0) rfl))
  have Z2 : n0 ≤ h2.size := Nat.le_trans Z0 (Keep.of_wr W2).1
  refine Go.stp (fun t_ k_ => st2 t_ k_) ?_
  show Go p.tables e below G (T2.setTop (mkF m 9 #[rv r0, .val .null, iv (6 : Int32), un] []))
  refine Go.stp (fun t_ k_ => XS.bipush X2.here hx rfl (hb hby d1_9) k_) ?_
  show Go p.tables e below G (T2.setTop (mkF m 11 #[rv r0, .val .null, iv (6 : Int32), un] [(.int (32 : Int32))]))
  refine Go.stp (fun t_ k_ => XS.iconst X2.here hx rfl (hb hby d1_11) k_) ?_
  show Go p.tables e below G (T2.setTop (mkF m 12 #[rv r0, .val .null, iv (6 : Int32), un] [(.int (1 : Int32)), (.int (32 : Int32))]))
  refine Go.stp (fun t_ k_ => XS.iconst X2.here hx rfl (hb hby d1_12) k_) ?_
  show Go p.tables e below G (T2.setTop (mkF m 13 #[rv r0, .val .null, iv (6 : Int32), un] [(.int (2 : Int32)), (.int (1 : Int32)), (.int (32 : Int32))]))
  refine Go.stp (fun t_ k_ => XS.iloadN X2.here hx rfl (hb hby d1_13) rfl k_) ?_
  show Go p.tables e below G (T2.setTop (mkF m 14 #[rv r0, .val .null, iv (6 : Int32), un] [(.int (6 : Int32)), (.int (2 : Int32)), (.int (1 : Int32)), (.int (32 : Int32))]))
  refine Go.stp (fun t_ k_ => XS.imul X2.here hx rfl (hb hby d1_14) rfl k_) ?_
  show Go p.tables e below G (T2.setTop (mkF m 15 #[rv r0, .val .null, iv (6 : Int32), un] [(.int ((2 : Int32) * (6 : Int32))), (.int (1 : Int32)), (.int (32 : Int32))]))
  refine Go.stp (fun t_ k_ => XS.iconst X2.here hx rfl (hb hby d1_15) k_) ?_
  show Go p.tables e below G (T2.setTop (mkF m 16 #[rv r0, .val .null, iv (6 : Int32), un] [(.int (1 : Int32)), (.int ((2 : Int32) * (6 : Int32))), (.int (1 : Int32)), (.int (32 : Int32))]))
  refine Go.stp (fun t_ k_ => XS.isub X2.here hx rfl (hb hby d1_16) rfl k_) ?_
  show Go p.tables e below G (T2.setTop (mkF m 17 #[rv r0, .val .null, iv (6 : Int32), un] [(.int (((2 : Int32) * (6 : Int32)) - (1 : Int32))), (.int (1 : Int32)), (.int (32 : Int32))]))
  obtain ⟨_, _, ⟨T8, L8, k8, n8⟩, -, X8, ⟨Lc8, hQ8, l8, y8, z8⟩, st8⟩ := Jvm.LawKit.callS X2 hx (y := (⟨"java/lang/Math", "max", "(II)I"⟩ : MethodName)) hown (mvT hZ (hw _ (List.mem_of_getElem? (i := 12) rfl))) (mvT hZ (hw _ (List.mem_of_getElem? (i := 13) rfl))) (mvT hZ (hw _ (List.mem_of_getElem? (i := 14) rfl))) (mvT hZ (hw _ (List.mem_of_getElem? (i := 15) rfl))) (by decide) (backOf (W := 1) (rm3 l Z a0 hw [] (1 : Int32) (((2 : Int32) * (6 : Int32)) - (1 : Int32)) h2 n0 Z2) hZ (hw _ (List.mem_of_getElem? (i := 15) rfl)) (hw _ (List.mem_of_getElem? (i := 14) rfl)) (by decide) (by decide)) (g := (mkF m 17 #[rv r0, .val .null, iv (6 : Int32), un] [(.int (((2 : Int32) * (6 : Int32)) - (1 : Int32))), (.int (1 : Int32)), (.int (32 : Int32))])) rfl (by rw [hml]; rfl) (argsL := [(.int (1 : Int32)), (.int (((2 : Int32) * (6 : Int32)) - (1 : Int32)))]) (rest := [(.int (32 : Int32))]) (lenOf pd_0 rfl) rfl (by show 2 * 0 + _ ≤ _; exact Nat.le_of_eq rfl) (hb hby d1_17) (fun _ _ => ⟨rfl, e2, (by decide : 0 + 0 ≤ _), (by decide : 0 + 0 ≤ _)⟩)
  dsimp only [Pt.U, Pt.locs, Pt.cells, Pt.slots] at X8 l8 y8 z8 st8 hQ8
  subst l8 y8 z8
  obtain ⟨rfl, Nq8, e8⟩ := hQ8
  have N8 := Fr.app N2 Nq8
  have pp8 : own_max (1 : Int32) (((2 : Int32) * (6 : Int32)) - (1 : Int32)) = (11 : Int32) := by decide
  rw [pp8] at st8
  refine Go.stp (fun t_ k_ => st8 t_ k_) ?_
  show Go p.tables e below G (T8.setTop (mkF m 20 #[rv r0, .val .null, iv (6 : Int32), un] [(.int (11 : Int32)), (.int (32 : Int32))]))
  obtain ⟨_, _, ⟨T9, L9, k9, n9⟩, -, X9, ⟨Lc9, hQ9, l9, y9, z9⟩, st9⟩ := Jvm.LawKit.callS X8 hx (y := (⟨"java/lang/Integer", "numberOfLeadingZeros", "(I)I"⟩ : MethodName)) hown (mvT hZ (hw _ (List.mem_of_getElem? (i := 16) rfl))) (mvT hZ (hw _ (List.mem_of_getElem? (i := 17) rfl))) (mvT hZ (hw _ (List.mem_of_getElem? (i := 18) rfl))) (mvT hZ (hw _ (List.mem_of_getElem? (i := 19) rfl))) (by decide) (backOf (W := 1) (rm4_11 l Z a0 hw [] h2 n0 Z2) hZ (hw _ (List.mem_of_getElem? (i := 19) rfl)) (hw _ (List.mem_of_getElem? (i := 18) rfl)) (by decide) (by decide)) (g := (mkF m 20 #[rv r0, .val .null, iv (6 : Int32), un] [(.int (11 : Int32)), (.int (32 : Int32))])) rfl (by rw [hml]; rfl) (argsL := [(.int (11 : Int32))]) (rest := [(.int (32 : Int32))]) (lenOf pd_1 rfl) rfl (by show 2 * 0 + _ ≤ _; exact Nat.le_of_eq rfl) (hb hby d1_20) (fun _ _ => ⟨rfl, e8, (by decide : 0 + 0 ≤ _), (by decide : 0 + 0 ≤ _)⟩)
  dsimp only [Pt.U, Pt.locs, Pt.cells, Pt.slots] at X9 l9 y9 z9 st9 hQ9
  subst l9 y9 z9
  obtain ⟨rfl, Nq9, e9⟩ := hQ9
  have N9 := Fr.app N8 Nq9
  refine Go.stp (fun t_ k_ => st9 t_ k_) ?_
  show Go p.tables e below G (T9.setTop (mkF m 23 #[rv r0, .val .null, iv (6 : Int32), un] [(.int (28 : Int32)), (.int (32 : Int32))]))
  refine Go.stp (fun t_ k_ => XS.isub X9.here hx rfl (hb hby d1_23) rfl k_) ?_
  show Go p.tables e below G (T9.setTop (mkF m 24 #[rv r0, .val .null, iv (6 : Int32), un] [(.int ((32 : Int32) - (28 : Int32)))]))
  refine Go.stp (fun t_ k_ => XS.istoreN X9.here hx rfl (hb hby d1_24) rfl (l' := #[rv r0, .val .null, iv (6 : Int32), iv ((32 : Int32) - (28 : Int32))]) rfl k_) ?_
  show Go p.tables e below G (T9.setTop (mkF m 25 #[rv r0, .val .null, iv (6 : Int32), iv ((32 : Int32) - (28 : Int32))] []))
  refine Go.stp (fun t_ k_ => XS.aloadN X9.here hx rfl (hb hby d1_25) rfl rfl k_) ?_
  show Go p.tables e below G (T9.setTop (mkF m 26 #[rv r0, .val .null, iv (6 : Int32), iv ((32 : Int32) - (28 : Int32))] [(.ref r0)]))
  refine Go.stp (fun t_ k_ => XS.iconst X9.here hx rfl (hb hby d1_26) k_) ?_
  show Go p.tables e below G (T9.setTop (mkF m 27 #[rv r0, .val .null, iv (6 : Int32), iv ((32 : Int32) - (28 : Int32))] [(.int (1 : Int32)), (.ref r0)]))
  refine Go.stp (fun t_ k_ => XS.iloadN X9.here hx rfl (hb hby d1_27) rfl k_) ?_
  show Go p.tables e below G (T9.setTop (mkF m 28 #[rv r0, .val .null, iv (6 : Int32), iv ((32 : Int32) - (28 : Int32))] [(.int ((32 : Int32) - (28 : Int32))), (.int (1 : Int32)), (.ref r0)]))
  refine Go.stp (fun t_ k_ => XS.ishl X9.here hx rfl (hb hby d1_28) rfl k_) ?_
  show Go p.tables e below G (T9.setTop (mkF m 29 #[rv r0, .val .null, iv (6 : Int32), iv ((32 : Int32) - (28 : Int32))] [(.int ((1 : Int32) <<< (((32 : Int32) - (28 : Int32)) &&& 31))), (.ref r0)]))
  obtain ⟨T10, h10, k10, X10, e10, E10, A10, st10⟩ := newP X9 hx hZ (hw _ (List.mem_of_getElem? (i := 21) rfl)) e9 (g := (mkF m 29 #[rv r0, .val .null, iv (6 : Int32), iv ((32 : Int32) - (28 : Int32))] [(.int ((1 : Int32) <<< (((32 : Int32) - (28 : Int32)) &&& 31))), (.ref r0)])) rfl (hb hby d1_29) rfl (by decide) (cap := 16) (by decide) (by decide) (by decide) (by decide)
  obtain ⟨b10, g10⟩ : ∃ z, z = h2.size := ⟨_, rfl⟩
  rw [← g10] at A10 st10
  have u11 : r0 ≠ b10 := Nat.ne_of_lt (Nat.lt_of_lt_of_le f4.lt (Nat.le_of_eq g10.symm))
  have g_b10 : n0 ≤ b10 := Nat.le_trans Z2 (Nat.le_of_eq g10.symm)
  have sz_b10 : h0.size ≤ b10 := Nat.le_trans K2.1 (Nat.le_of_eq g10.symm)
  have f12 : Exa Z h10 r0 "com/example/chatterbench/chatterbench/data/IdIndex" := f4.ext E10
  have f13 : Fld Z h10 r0 "com/example/chatterbench/chatterbench/data/IdIndex" "ids" "[J" .null := f5.ext E10
  have f14 : Fld Z h10 r0 "com/example/chatterbench/chatterbench/data/IdIndex" "rows" "[I" .null := f6.ext E10
  have f15 : Fld Z h10 r0 "com/example/chatterbench/chatterbench/data/IdIndex" "shift" "I" (.int (0 : Int32)) := f7.ext E10
  have f16 : Fld Z h10 r0 "com/example/chatterbench/chatterbench/data/IdIndex" "entity" "Lcom/example/chatterbench/chatterbench/data/Entity;" .null := f3.ext E10
  have Z10 : n0 ≤ h10.size := Nat.le_trans Z2 E10.1
  have K10 := K2.ext E10
  have f17 : Ia Z h10 b10 .long 16 Value.long (fun _ => (0 : Int64)) := Ia.new A10 (by decide) (by decide) rfl
  refine Go.stp (fun t_ k_ => st10 t_ k_) ?_
  show Go p.tables e below G (T10.setTop (mkF m 31 #[rv r0, .val .null, iv (6 : Int32), iv ((32 : Int32) - (28 : Int32))] [(.ref b10), (.ref r0)]))
  obtain ⟨T18, h18, X18, e18, W18, st18⟩ := putF X10 hx hZ hown (host := "") (Or.inl (hw _ (List.mem_of_getElem? (i := 22) rfl))) Via.refl e10 f13 f12 (Or.inr ⟨(hw _ (List.mem_of_getElem? (i := 23) rfl)), rfl, hnm⟩) (hw _ (List.mem_of_getElem? (i := 2) rfl)) (ty := (.array .long)) (by decide) rfl rfl (g := (mkF m 31 #[rv r0, .val .null, iv (6 : Int32), iv ((32 : Int32) - (28 : Int32))] [(.ref b10), (.ref r0)])) rfl rfl (hb hby d1_31)
  have f19 : Fld Z h18 r0 "com/example/chatterbench/chatterbench/data/IdIndex" "ids" "[J" (.ref b10) := f13.same W18
  have f20 : Exa Z h18 r0 "com/example/chatterbench/chatterbench/data/IdIndex" := f12.wr W18
  have f21 : Fld Z h18 r0 "com/example/chatterbench/chatterbench/data/IdIndex" "rows" "[I" .null := f14.other W18 (Or.inr (slot_ne (Or.inr (hw _ (List.mem_of_getElem? (i := 26) rfl))) (Or.inr (hw _ (List.mem_of_getElem? (i := 23) rfl))) (by decide) (t := (.array .int)) (t' := (.array .long)) (by decide) (by decide)))
  have f22 : Fld Z h18 r0 "com/example/chatterbench/chatterbench/data/IdIndex" "shift" "I" (.int (0 : Int32)) := f15.other W18 (Or.inr (slot_ne (Or.inr (hw _ (List.mem_of_getElem? (i := 32) rfl))) (Or.inr (hw _ (List.mem_of_getElem? (i := 23) rfl))) (by decide) (t := .int) (t' := (.array .long)) (by decide) (by decide)))
  have f23 : Fld Z h18 r0 "com/example/chatterbench/chatterbench/data/IdIndex" "entity" "Lcom/example/chatterbench/chatterbench/data/Entity;" .null := f16.other W18 (Or.inr (slot_ne (Or.inr (hw _ (List.mem_of_getElem? (i := 11) rfl))) (Or.inr (hw _ (List.mem_of_getElem? (i := 23) rfl))) (by decide) (t := (.object "com/example/chatterbench/chatterbench/data/Entity")) (t' := (.array .long)) (by decide) (by decide)))
  have f24 : Ia Z h18 b10 .long 16 Value.long (fun _ => (0 : Int64)) := f17.other W18 (Ne.symm u11)
  have N18 := Fr.snoc X18 N9 g_r0
  have K18 := K10.wr W18 (Or.inl (List.mem_of_getElem? (i := 0) rfl))
  have Z18 : n0 ≤ h18.size := Nat.le_trans Z10 (Keep.of_wr W18).1
  refine Go.stp (fun t_ k_ => st18 t_ k_) ?_
  show Go p.tables e below G (T18.setTop (mkF m 34 #[rv r0, .val .null, iv (6 : Int32), iv ((32 : Int32) - (28 : Int32))] []))
  refine Go.stp (fun t_ k_ => XS.aloadN X18.here hx rfl (hb hby d1_34) rfl rfl k_) ?_
  show Go p.tables e below G (T18.setTop (mkF m 35 #[rv r0, .val .null, iv (6 : Int32), iv ((32 : Int32) - (28 : Int32))] [(.ref r0)]))
  refine Go.stp (fun t_ k_ => XS.iconst X18.here hx rfl (hb hby d1_35) k_) ?_
  show Go p.tables e below G (T18.setTop (mkF m 36 #[rv r0, .val .null, iv (6 : Int32), iv ((32 : Int32) - (28 : Int32))] [(.int (1 : Int32)), (.ref r0)]))
  refine Go.stp (fun t_ k_ => XS.iloadN X18.here hx rfl (hb hby d1_36) rfl k_) ?_
  show Go p.tables e below G (T18.setTop (mkF m 37 #[rv r0, .val .null, iv (6 : Int32), iv ((32 : Int32) - (28 : Int32))] [(.int ((32 : Int32) - (28 : Int32))), (.int (1 : Int32)), (.ref r0)]))
  refine Go.stp (fun t_ k_ => XS.ishl X18.here hx rfl (hb hby d1_37) rfl k_) ?_
  show Go p.tables e below G (T18.setTop (mkF m 38 #[rv r0, .val .null, iv (6 : Int32), iv ((32 : Int32) - (28 : Int32))] [(.int ((1 : Int32) <<< (((32 : Int32) - (28 : Int32)) &&& 31))), (.ref r0)]))
  obtain ⟨T25, h25, k25, X25, e25, E25, A25, st25⟩ := newP X18 hx hZ (hw _ (List.mem_of_getElem? (i := 24) rfl)) e18 (g := (mkF m 38 #[rv r0, .val .null, iv (6 : Int32), iv ((32 : Int32) - (28 : Int32))] [(.int ((1 : Int32) <<< (((32 : Int32) - (28 : Int32)) &&& 31))), (.ref r0)])) rfl (hb hby d1_38) rfl (by decide) (cap := 16) (by decide) (by decide) (by decide) (by decide)
  obtain ⟨b25, g25⟩ : ∃ z, z = h18.size := ⟨_, rfl⟩
  rw [← g25] at A25 st25
  have u26 : r0 ≠ b25 := Nat.ne_of_lt (Nat.lt_of_lt_of_le f20.lt (Nat.le_of_eq g25.symm))
  have u27 : b10 ≠ b25 := Nat.ne_of_lt (Nat.lt_of_lt_of_le f24.lt (Nat.le_of_eq g25.symm))
  have g_b25 : n0 ≤ b25 := Nat.le_trans Z18 (Nat.le_of_eq g25.symm)
  have sz_b25 : h0.size ≤ b25 := Nat.le_trans K18.1 (Nat.le_of_eq g25.symm)
  have f28 : Exa Z h25 r0 "com/example/chatterbench/chatterbench/data/IdIndex" := f20.ext E25
  have f29 : Fld Z h25 r0 "com/example/chatterbench/chatterbench/data/IdIndex" "rows" "[I" .null := f21.ext E25
  have f30 : Fld Z h25 r0 "com/example/chatterbench/chatterbench/data/IdIndex" "shift" "I" (.int (0 : Int32)) := f22.ext E25
  have f31 : Fld Z h25 r0 "com/example/chatterbench/chatterbench/data/IdIndex" "entity" "Lcom/example/chatterbench/chatterbench/data/Entity;" .null := f23.ext E25
  have f32 : Ia Z h25 b10 .long 16 Value.long (fun _ => (0 : Int64)) := f24.ext E25
  have f33 : Fld Z h25 r0 "com/example/chatterbench/chatterbench/data/IdIndex" "ids" "[J" (.ref b10) := f19.ext E25
  have Z25 : n0 ≤ h25.size := Nat.le_trans Z18 E25.1
  have K25 := K18.ext E25
  have f34 : Ia Z h25 b25 .int 16 Value.int (fun _ => (0 : Int32)) := Ia.new A25 (by decide) (by decide) rfl
  refine Go.stp (fun t_ k_ => st25 t_ k_) ?_
  show Go p.tables e below G (T25.setTop (mkF m 40 #[rv r0, .val .null, iv (6 : Int32), iv ((32 : Int32) - (28 : Int32))] [(.ref b25), (.ref r0)]))
  obtain ⟨T35, h35, X35, e35, W35, st35⟩ := putF X25 hx hZ hown (host := "") (Or.inl (hw _ (List.mem_of_getElem? (i := 25) rfl))) Via.refl e25 f29 f28 (Or.inr ⟨(hw _ (List.mem_of_getElem? (i := 26) rfl)), rfl, hnm⟩) (hw _ (List.mem_of_getElem? (i := 2) rfl)) (ty := (.array .int)) (by decide) rfl rfl (g := (mkF m 40 #[rv r0, .val .null, iv (6 : Int32), iv ((32 : Int32) - (28 : Int32))] [(.ref b25), (.ref r0)])) rfl rfl (hb hby d1_40)
  have f36 : Fld Z h35 r0 "com/example/chatterbench/chatterbench/data/IdIndex" "rows" "[I" (.ref b25) := f29.same W35
  have f37 : Exa Z h35 r0 "com/example/chatterbench/chatterbench/data/IdIndex" := f28.wr W35
  have f38 : Fld Z h35 r0 "com/example/chatterbench/chatterbench/data/IdIndex" "shift" "I" (.int (0 : Int32)) := f30.other W35 (Or.inr (slot_ne (Or.inr (hw _ (List.mem_of_getElem? (i := 32) rfl))) (Or.inr (hw _ (List.mem_of_getElem? (i := 26) rfl))) (by decide) (t := .int) (t' := (.array .int)) (by decide) (by decide)))
  have f39 : Fld Z h35 r0 "com/example/chatterbench/chatterbench/data/IdIndex" "entity" "Lcom/example/chatterbench/chatterbench/data/Entity;" .null := f31.other W35 (Or.inr (slot_ne (Or.inr (hw _ (List.mem_of_getElem? (i := 11) rfl))) (Or.inr (hw _ (List.mem_of_getElem? (i := 26) rfl))) (by decide) (t := (.object "com/example/chatterbench/chatterbench/data/Entity")) (t' := (.array .int)) (by decide) (by decide)))
  have f40 : Ia Z h35 b10 .long 16 Value.long (fun _ => (0 : Int64)) := f32.other W35 (Ne.symm u11)
  have f41 : Fld Z h35 r0 "com/example/chatterbench/chatterbench/data/IdIndex" "ids" "[J" (.ref b10) := f33.other W35 (Or.inr (slot_ne (Or.inr (hw _ (List.mem_of_getElem? (i := 23) rfl))) (Or.inr (hw _ (List.mem_of_getElem? (i := 26) rfl))) (by decide) (t := (.array .long)) (t' := (.array .int)) (by decide) (by decide)))
  have f42 : Ia Z h35 b25 .int 16 Value.int (fun _ => (0 : Int32)) := f34.other W35 (Ne.symm u26)
  have N35 := Fr.snoc X35 N18 g_r0
  have K35 := K25.wr W35 (Or.inl (List.mem_of_getElem? (i := 0) rfl))
  have Z35 : n0 ≤ h35.size := Nat.le_trans Z25 (Keep.of_wr W35).1
  refine Go.stp (fun t_ k_ => st35 t_ k_) ?_
  show Go p.tables e below G (T35.setTop (mkF m 43 #[rv r0, .val .null, iv (6 : Int32), iv ((32 : Int32) - (28 : Int32))] []))
  refine Go.stp (fun t_ k_ => XS.aloadN X35.here hx rfl (hb hby d1_43) rfl rfl k_) ?_
  show Go p.tables e below G (T35.setTop (mkF m 44 #[rv r0, .val .null, iv (6 : Int32), iv ((32 : Int32) - (28 : Int32))] [(.ref r0)]))
  obtain ⟨T43, X43, e43, st43⟩ := getF X35 hx hZ hown (host := "") (Or.inl (hw _ (List.mem_of_getElem? (i := 25) rfl))) Via.refl e35 f36 (g := (mkF m 44 #[rv r0, .val .null, iv (6 : Int32), iv ((32 : Int32) - (28 : Int32))] [(.ref r0)])) rfl rfl (hb hby d1_44)
  refine Go.stp (fun t_ k_ => st43 t_ k_) ?_
  show Go p.tables e below G (T43.setTop (mkF m 47 #[rv r0, .val .null, iv (6 : Int32), iv ((32 : Int32) - (28 : Int32))] [(.ref b25)]))
  refine Go.stp (fun t_ k_ => XS.iconst X43.here hx rfl (hb hby d1_47) k_) ?_
  show Go p.tables e below G (T43.setTop (mkF m 48 #[rv r0, .val .null, iv (6 : Int32), iv ((32 : Int32) - (28 : Int32))] [(.int (-1 : Int32)), (.ref b25)]))
  obtain ⟨_, _, ⟨T44, L44, k44, n44⟩, -, X44, ⟨Lc44, hQ44, l44, y44, z44⟩, st44⟩ := Jvm.LawKit.callS X43 hx (y := (⟨"java/util/Arrays", "fill", "([II)V"⟩ : MethodName)) hown (mvT hZ (hw _ (List.mem_of_getElem? (i := 27) rfl))) (mvT hZ (hw _ (List.mem_of_getElem? (i := 28) rfl))) (mvT hZ (hw _ (List.mem_of_getElem? (i := 29) rfl))) (mvT hZ (hw _ (List.mem_of_getElem? (i := 30) rfl))) (by decide) (backOf (W := 0) (rm5_16 l Z a0 hw [] b25 (-1 : Int32) (fun _ => (0 : Int32)) h35 n0 Z35 f42 g_b25) hZ (hw _ (List.mem_of_getElem? (i := 30) rfl)) (hw _ (List.mem_of_getElem? (i := 29) rfl)) (by decide) (by decide)) (g := (mkF m 48 #[rv r0, .val .null, iv (6 : Int32), iv ((32 : Int32) - (28 : Int32))] [(.int (-1 : Int32)), (.ref b25)])) rfl (by rw [hml]; rfl) (argsL := [(.ref b25), (.int (-1 : Int32))]) (rest := []) (lenOf pd_2 rfl) rfl (by show 2 * 0 + _ ≤ _; exact Nat.le_of_eq rfl) (hb hby d1_48) (fun _ _ => ⟨rfl, e43, (by decide : 2 + 0 ≤ _), (by decide : 32 + 0 ≤ _)⟩)
  dsimp only [Pt.U, Pt.locs, Pt.cells, Pt.slots] at X44 l44 y44 z44 st44 hQ44
  subst l44 y44 z44
  obtain ⟨rfl, Nq44, Kc44, Iq44⟩ := hQ44
  have N44 := Fr.app N35 Nq44
  have f45 : Exa Z T44.heap r0 "com/example/chatterbench/chatterbench/data/IdIndex" := f37.keep Kc44
  have f46 : Fld Z T44.heap r0 "com/example/chatterbench/chatterbench/data/IdIndex" "shift" "I" (.int (0 : Int32)) := f38.keep Kc44 (fun q => by simp only [List.mem_cons, List.not_mem_nil, or_false] at q; exact u26 q)
  have f47 : Fld Z T44.heap r0 "com/example/chatterbench/chatterbench/data/IdIndex" "entity" "Lcom/example/chatterbench/chatterbench/data/Entity;" .null := f39.keep Kc44 (fun q => by simp only [List.mem_cons, List.not_mem_nil, or_false] at q; exact u26 q)
  have f48 : Ia Z T44.heap b10 .long 16 Value.long (fun _ => (0 : Int64)) := f40.keep Kc44 (fun q => by simp only [List.mem_cons, List.not_mem_nil, or_false] at q; exact u27 q)
  have f49 : Fld Z T44.heap r0 "com/example/chatterbench/chatterbench/data/IdIndex" "ids" "[J" (.ref b10) := f41.keep Kc44 (fun q => by simp only [List.mem_cons, List.not_mem_nil, or_false] at q; exact u26 q)
  have f50 : Fld Z T44.heap r0 "com/example/chatterbench/chatterbench/data/IdIndex" "rows" "[I" (.ref b25) := f36.keep Kc44 (fun q => by simp only [List.mem_cons, List.not_mem_nil, or_false] at q; exact u26 q)
  have Z44 : n0 ≤ T44.heap.size := Nat.le_trans Z35 Kc44.1
  have K44 := K35.trans Kc44 (fun x q => by
      simp only [List.mem_cons, List.not_mem_nil, or_false] at q
      rw [q]; exact (Or.inr sz_b25))
  refine Go.stp (fun t_ k_ => st44 t_ k_) ?_
  show Go p.tables e below G (T44.setTop (mkF m 51 #[rv r0, .val .null, iv (6 : Int32), iv ((32 : Int32) - (28 : Int32))] []))
  refine Go.stp (fun t_ k_ => XS.aloadN X44.here hx rfl (hb hby d1_51) rfl rfl k_) ?_
  show Go p.tables e below G (T44.setTop (mkF m 52 #[rv r0, .val .null, iv (6 : Int32), iv ((32 : Int32) - (28 : Int32))] [(.ref r0)]))
  refine Go.stp (fun t_ k_ => XS.bipush X44.here hx rfl (hb hby d1_52) k_) ?_
  show Go p.tables e below G (T44.setTop (mkF m 54 #[rv r0, .val .null, iv (6 : Int32), iv ((32 : Int32) - (28 : Int32))] [(.int (64 : Int32)), (.ref r0)]))
  refine Go.stp (fun t_ k_ => XS.iloadN X44.here hx rfl (hb hby d1_54) rfl k_) ?_
  show Go p.tables e below G (T44.setTop (mkF m 55 #[rv r0, .val .null, iv (6 : Int32), iv ((32 : Int32) - (28 : Int32))] [(.int ((32 : Int32) - (28 : Int32))), (.int (64 : Int32)), (.ref r0)]))
  refine Go.stp (fun t_ k_ => XS.isub X44.here hx rfl (hb hby d1_55) rfl k_) ?_
  show Go p.tables e below G (T44.setTop (mkF m 56 #[rv r0, .val .null, iv (6 : Int32), iv ((32 : Int32) - (28 : Int32))] [(.int ((64 : Int32) - ((32 : Int32) - (28 : Int32)))), (.ref r0)]))
  obtain ⟨T51, h51, X51, e51, W51, st51⟩ := putF X44 hx hZ hown (host := "") (Or.inl (hw _ (List.mem_of_getElem? (i := 31) rfl))) Via.refl rfl f46 f45 (Or.inr ⟨(hw _ (List.mem_of_getElem? (i := 32) rfl)), rfl, hnm⟩) (hw _ (List.mem_of_getElem? (i := 2) rfl)) (ty := .int) (by decide) rfl rfl (g := (mkF m 56 #[rv r0, .val .null, iv (6 : Int32), iv ((32 : Int32) - (28 : Int32))] [(.int ((64 : Int32) - ((32 : Int32) - (28 : Int32)))), (.ref r0)])) rfl rfl (hb hby d1_56)
  have f52 : Fld Z h51 r0 "com/example/chatterbench/chatterbench/data/IdIndex" "shift" "I" (.int ((64 : Int32) - ((32 : Int32) - (28 : Int32)))) := f46.same W51
  have f53 : Exa Z h51 r0 "com/example/chatterbench/chatterbench/data/IdIndex" := f45.wr W51
  have f54 : Fld Z h51 r0 "com/example/chatterbench/chatterbench/data/IdIndex" "entity" "Lcom/example/chatterbench/chatterbench/data/Entity;" .null := f47.other W51 (Or.inr (slot_ne (Or.inr (hw _ (List.mem_of_getElem? (i := 11) rfl))) (Or.inr (hw _ (List.mem_of_getElem? (i := 32) rfl))) (by decide) (t := (.object "com/example/chatterbench/chatterbench/data/Entity")) (t' := .int) (by decide) (by decide)))
  have f55 : Ia Z h51 b10 .long 16 Value.long (fun _ => (0 : Int64)) := f48.other W51 (Ne.symm u11)
  have f56 : Fld Z h51 r0 "com/example/chatterbench/chatterbench/data/IdIndex" "ids" "[J" (.ref b10) := f49.other W51 (Or.inr (slot_ne (Or.inr (hw _ (List.mem_of_getElem? (i := 23) rfl))) (Or.inr (hw _ (List.mem_of_getElem? (i := 32) rfl))) (by decide) (t := (.array .long)) (t' := .int) (by decide) (by decide)))
  have f57 : Fld Z h51 r0 "com/example/chatterbench/chatterbench/data/IdIndex" "rows" "[I" (.ref b25) := f50.other W51 (Or.inr (slot_ne (Or.inr (hw _ (List.mem_of_getElem? (i := 26) rfl))) (Or.inr (hw _ (List.mem_of_getElem? (i := 32) rfl))) (by decide) (t := (.array .int)) (t' := .int) (by decide) (by decide)))
  have f58 : Ia Z h51 b25 .int 16 Value.int (fun _ => (-1 : Int32)) := Iq44.other W51 (Ne.symm u26)
  have N51 := Fr.snoc X51 N44 g_r0
  have K51 := K44.wr W51 (Or.inl (List.mem_of_getElem? (i := 0) rfl))
  have Z51 : n0 ≤ h51.size := Nat.le_trans Z44 (Keep.of_wr W51).1
  refine Go.stp (fun t_ k_ => st51 t_ k_) ?_
  show Go p.tables e below G (T51.setTop (mkF m 59 #[rv r0, .val .null, iv (6 : Int32), iv ((32 : Int32) - (28 : Int32))] []))
  obtain ⟨fs, hr, hrun, hended, hW, hsame⟩ := X51.leave (v := none) (fun _ => rfl)
  refine ⟨_, _, X51.returnOut hx Bd.returns (hb hby d1_59) hr, hrun, hended, hG _ _ _ ?_ ⟨⟨_, rfl⟩, hW, hsame.mono (by decide) (by decide)⟩⟩
  show Q1_N16 Z r0 h0 n0 _ T51.heap _
  rw [e51]
  have Fs : Fld Z h51 r0 "com/example/chatterbench/chatterbench/data/IdIndex" "shift" "I" (.int (60 : Int32)) := by
    have q := f52
    rw [show ((64 : Int32) - ((32 : Int32) - (28 : Int32))) = (60 : Int32) by decide] at q
    exact q
  exact ⟨rfl, N51, K51, b25, b10, g_b25, g_b10, (Ne.symm u27), u26, u11, f53, f57, f56, Fs, f58, f55⟩
theorem rm1_N8 (l : Launch) (Z : State) (a0 : Array Value) (hw : ∀ d ∈ tables_1, d.before a0 Z = true) (ws : List Jvm.Cond) (r0 : Addr) (z : Int32) (h0 : Heap) (n0 : Nat) (Z0 : n0 ≤ h0.size) (E_r0 : Exa Z h0 r0 "com/example/chatterbench/chatterbench/data/IdIndex") (F_entity : Fld Z h0 r0 "com/example/chatterbench/chatterbench/data/IdIndex" "entity" "Lcom/example/chatterbench/chatterbench/data/Entity;" .null) (F_ids : Fld Z h0 r0 "com/example/chatterbench/chatterbench/data/IdIndex" "ids" "[J" .null) (F_rows : Fld Z h0 r0 "com/example/chatterbench/chatterbench/data/IdIndex" "rows" "[I" .null) (F_shift : Fld Z h0 r0 "com/example/chatterbench/chatterbench/data/IdIndex" "shift" "I" (.int (0 : Int32))) (g_r0 : n0 ≤ r0) (hz : z = (3 : Int32) ∨ z = (4 : Int32)) :
    MetFree l (⟨"com/example/chatterbench/chatterbench/data/IdIndex", "<init>", "(Lcom/example/chatterbench/chatterbench/data/Entity;I)V"⟩ : MethodName) (head1 (Jvm.Cond.code (⟨"com/example/chatterbench/chatterbench/data/IdIndex", "<init>", "(Lcom/example/chatterbench/chatterbench/data/Entity;I)V"⟩ : MethodName) prog_10_method_1_code 4 none :: ws) ({ frames := 1, cells := 2, slots := 16, locals := 16 } : Room)) (fun a U => a = #[(.ref r0), .null, (.int z)] ∧ Z.Warmed39 U.vm ∧ U.heap = h0) (fun _ _ _ _ _ => True) (fun _ U o U' => ∃ v L, o = .returned v ∧ Q1_N8 Z r0  h0 n0 v U'.heap L ∧ FrameEnd U o U' L ({ frames := 1, cells := 2, slots := 16, locals := 16 } : Room).cells ({ frames := 1, cells := 2, slots := 16, locals := 16 } : Room).slots) := by
  rcases hz with rfl | rfl
  · exact rm1_c3 l Z a0 hw ws r0  h0 n0 Z0 E_r0 F_entity F_ids F_rows F_shift g_r0
  · exact rm1_c4 l Z a0 hw ws r0  h0 n0 Z0 E_r0 F_entity F_ids F_rows F_shift g_r0
theorem rm1_N16 (l : Launch) (Z : State) (a0 : Array Value) (hw : ∀ d ∈ tables_1, d.before a0 Z = true) (ws : List Jvm.Cond) (r0 : Addr) (z : Int32) (h0 : Heap) (n0 : Nat) (Z0 : n0 ≤ h0.size) (E_r0 : Exa Z h0 r0 "com/example/chatterbench/chatterbench/data/IdIndex") (F_entity : Fld Z h0 r0 "com/example/chatterbench/chatterbench/data/IdIndex" "entity" "Lcom/example/chatterbench/chatterbench/data/Entity;" .null) (F_ids : Fld Z h0 r0 "com/example/chatterbench/chatterbench/data/IdIndex" "ids" "[J" .null) (F_rows : Fld Z h0 r0 "com/example/chatterbench/chatterbench/data/IdIndex" "rows" "[I" .null) (F_shift : Fld Z h0 r0 "com/example/chatterbench/chatterbench/data/IdIndex" "shift" "I" (.int (0 : Int32))) (g_r0 : n0 ≤ r0) (hz : z = (5 : Int32) ∨ z = (6 : Int32)) :
    MetFree l (⟨"com/example/chatterbench/chatterbench/data/IdIndex", "<init>", "(Lcom/example/chatterbench/chatterbench/data/Entity;I)V"⟩ : MethodName) (head1 (Jvm.Cond.code (⟨"com/example/chatterbench/chatterbench/data/IdIndex", "<init>", "(Lcom/example/chatterbench/chatterbench/data/Entity;I)V"⟩ : MethodName) prog_10_method_1_code 4 none :: ws) ({ frames := 1, cells := 2, slots := 32, locals := 16 } : Room)) (fun a U => a = #[(.ref r0), .null, (.int z)] ∧ Z.Warmed39 U.vm ∧ U.heap = h0) (fun _ _ _ _ _ => True) (fun _ U o U' => ∃ v L, o = .returned v ∧ Q1_N16 Z r0  h0 n0 v U'.heap L ∧ FrameEnd U o U' L ({ frames := 1, cells := 2, slots := 32, locals := 16 } : Room).cells ({ frames := 1, cells := 2, slots := 32, locals := 16 } : Room).slots) := by
  rcases hz with rfl | rfl
  · exact rm1_c5 l Z a0 hw ws r0  h0 n0 Z0 E_r0 F_entity F_ids F_rows F_shift g_r0
  · exact rm1_c6 l Z a0 hw ws r0  h0 n0 Z0 E_r0 F_entity F_ids F_rows F_shift g_r0
theorem d7_0 : decode prog_10_method_7_code 0 = .ok (.lload_n 1, 1) := by decide +kernel
theorem d7_1 : decode prog_10_method_7_code 1 = .ok (.ldc2_w 100, 3) := by decide +kernel
theorem d7_4 : decode prog_10_method_7_code 4 = .ok (.lmul, 1) := by decide +kernel
theorem d7_5 : decode prog_10_method_7_code 5 = .ok (.aload_n 0, 1) := by decide +kernel
theorem d7_6 : decode prog_10_method_7_code 6 = .ok (.getfield 41, 3) := by decide +kernel
theorem d7_9 : decode prog_10_method_7_code 9 = .ok (.lushr, 1) := by decide +kernel
theorem d7_10 : decode prog_10_method_7_code 10 = .ok (.l2i, 1) := by decide +kernel
theorem d7_11 : decode prog_10_method_7_code 11 = .ok (.istore_n 3, 1) := by decide +kernel
theorem d7_12 : decode prog_10_method_7_code 12 = .ok (.aload_n 0, 1) := by decide +kernel
theorem d7_13 : decode prog_10_method_7_code 13 = .ok (.getfield 29, 3) := by decide +kernel
theorem d7_16 : decode prog_10_method_7_code 16 = .ok (.iload_n 3, 1) := by decide +kernel
theorem d7_17 : decode prog_10_method_7_code 17 = .ok (.iaload, 1) := by decide +kernel
theorem d7_18 : decode prog_10_method_7_code 18 = .ok (.iconst (-1), 1) := by decide +kernel
theorem d7_19 : decode prog_10_method_7_code 19 = .ok (.if_icmp .eq 29, 3) := by decide +kernel
theorem d7_22 : decode prog_10_method_7_code 22 = .ok (.aload_n 0, 1) := by decide +kernel
theorem d7_23 : decode prog_10_method_7_code 23 = .ok (.getfield 25, 3) := by decide +kernel
theorem d7_26 : decode prog_10_method_7_code 26 = .ok (.iload_n 3, 1) := by decide +kernel
theorem d7_27 : decode prog_10_method_7_code 27 = .ok (.laload, 1) := by decide +kernel
theorem d7_28 : decode prog_10_method_7_code 28 = .ok (.lload_n 1, 1) := by decide +kernel
theorem d7_29 : decode prog_10_method_7_code 29 = .ok (.lcmp, 1) := by decide +kernel
theorem d7_30 : decode prog_10_method_7_code 30 = .ok (.ifCond .eq 18, 3) := by decide +kernel
theorem d7_33 : decode prog_10_method_7_code 33 = .ok (.iload_n 3, 1) := by decide +kernel
theorem d7_34 : decode prog_10_method_7_code 34 = .ok (.iconst 1, 1) := by decide +kernel
theorem d7_35 : decode prog_10_method_7_code 35 = .ok (.iadd, 1) := by decide +kernel
theorem d7_36 : decode prog_10_method_7_code 36 = .ok (.aload_n 0, 1) := by decide +kernel
theorem d7_37 : decode prog_10_method_7_code 37 = .ok (.getfield 29, 3) := by decide +kernel
theorem d7_40 : decode prog_10_method_7_code 40 = .ok (.arraylength, 1) := by decide +kernel
theorem d7_41 : decode prog_10_method_7_code 41 = .ok (.iconst 1, 1) := by decide +kernel
theorem d7_42 : decode prog_10_method_7_code 42 = .ok (.isub, 1) := by decide +kernel
theorem d7_43 : decode prog_10_method_7_code 43 = .ok (.iand, 1) := by decide +kernel
theorem d7_44 : decode prog_10_method_7_code 44 = .ok (.istore_n 3, 1) := by decide +kernel
theorem d7_45 : decode prog_10_method_7_code 45 = .ok (.goto (-33), 3) := by decide +kernel
theorem d7_48 : decode prog_10_method_7_code 48 = .ok (.iload_n 3, 1) := by decide +kernel
theorem d7_49 : decode prog_10_method_7_code 49 = .ok (.ireturn, 1) := by decide +kernel
theorem ef_7_8 (m : MethodId) (r0 : Addr) (q1 : Int64) : entryFrame m #[(.ref r0), (.long q1)] 4 = mkF m 0 #[rv r0, lv q1, sd, un] [] := by first | (simp [entryFrame, mkF, argsToLocals, Value.category, iv, rv, lv, un, sd]; done) | rfl
def Q7_8 (Z : State) (r0 : Addr) (q1 : Int64) (ra : Addr) (ia : Addr) (R : Nat → Int32) (I : Nat → Int64) (t : Nat) (h0 : Heap) (n0 : Nat) (v : Option Value) (h : Heap) (L : List Loc) : Prop := v = some (.int (own_it (own_hm8 q1) ((8 : Int32) - (1 : Int32)) t)) ∧ Fr n0 L ∧ h = h0
set_option maxRecDepth 65536 in
set_option maxHeartbeats 40000000 in
theorem rm7_8 (l : Launch) (Z : State) (a0 : Array Value) (hw : ∀ d ∈ tables_1, d.before a0 Z = true) (ws : List Jvm.Cond) (r0 : Addr) (q1 : Int64) (ra : Addr) (ia : Addr) (R : Nat → Int32) (I : Nat → Int64) (t : Nat) (h0 : Heap) (n0 : Nat) (Z0 : n0 ≤ h0.size) (F_rows : Fld Z h0 r0 "com/example/chatterbench/chatterbench/data/IdIndex" "rows" "[I" (.ref ra)) (F_ids : Fld Z h0 r0 "com/example/chatterbench/chatterbench/data/IdIndex" "ids" "[J" (.ref ia)) (I_ra : Ia Z h0 ra .int 8 Value.int R) (I_ia : Ia Z h0 ia .long 8 Value.long I) (F_shift : Fld Z h0 r0 "com/example/chatterbench/chatterbench/data/IdIndex" "shift" "I" (.int (61 : Int32))) (hs : Stop R I (own_P8 q1) q1 t) :
    MetFree l (⟨"com/example/chatterbench/chatterbench/data/IdIndex", "slot", "(J)I"⟩ : MethodName) (head1 (Jvm.Cond.code (⟨"com/example/chatterbench/chatterbench/data/IdIndex", "slot", "(J)I"⟩ : MethodName) prog_10_method_7_code 4 (some .int) :: ws) ({ frames := 0, cells := 0, slots := 0, locals := 0 } : Room)) (fun a U => a = #[(.ref r0), (.long q1)] ∧ Z.Warmed39 U.vm ∧ U.heap = h0) (fun _ _ _ _ _ => True) (fun _ U o U' => ∃ v L, o = .returned v ∧ Q7_8 Z r0 q1 ra ia R I t h0 n0 v U'.heap L ∧ FrameEnd U o U' L ({ frames := 0, cells := 0, slots := 0, locals := 0 } : Room).cells ({ frames := 0, cells := 0, slots := 0, locals := 0 } : Room).slots) := by
  refine MetFree.of_bodySF (plainFor_of_name pn_1) hisR ?_
  intro p e s m args below meth c s₁ Bd hml0 hP hK
  obtain ⟨rfl, hZ, hh⟩ := hP
  have hx := Bd.exec
  have hby := Bd.bytes
  have hml : c.maxLocals = 4 := hml0
  have hown : s.vm.findClass "com/example/chatterbench/chatterbench/data/IdIndex" = some m.cls := findClass_of_methodNamed Bd.named
  have hnm := (name_of_methodNamed Bd.named Bd.method).1
  have X0 : Stand p l e ({ frames := 0, cells := 0, slots := 0, locals := 0 } : Room) s m #[(.ref r0), (.long q1)] below meth c s₁ [] 0 0 := Stand.of_body Bd
  have e0 : s₁.heap = h0 := by rw [← hh, Bd.state]; rfl
  have N0 := Fr.nil n0
  suffices HH : ∀ G : Outcome → State → Prop, (∀ v L U', Q7_8 Z r0 q1 ra ia R I t h0 n0 v U'.heap L → FrameEnd s (.returned v) U' L ({ frames := 0, cells := 0, slots := 0, locals := 0 } : Room).cells ({ frames := 0, cells := 0, slots := 0, locals := 0 } : Room).slots → G (.returned v) U') → Go p.tables e below G (s₁.setTop (mkF m 0 #[rv r0, lv q1, sd, un] [])) by
    obtain ⟨s2, o, h1, h2, h3, h4⟩ := HH (fun o U' => ∃ v L, o = .returned v ∧ Q7_8 Z r0 q1 ra ia R I t h0 n0 v U'.heap L ∧ FrameEnd s o U' L ({ frames := 0, cells := 0, slots := 0, locals := 0 } : Room).cells ({ frames := 0, cells := 0, slots := 0, locals := 0 } : Room).slots) (fun v L U' q f => ⟨v, L, rfl, q, f⟩)
    exact ⟨s2, o, castTop (ef_7_8 m r0 q1) h1, h2, h3, h4⟩
  intro G hG
  show Go p.tables e below G (s₁.setTop (mkF m 0 #[rv r0, lv q1, sd, un] []))
  refine Go.stp (fun t_ k_ => XS.lloadN X0.here hx rfl (hb hby d7_0) rfl k_) ?_
  show Go p.tables e below G (s₁.setTop (mkF m 1 #[rv r0, lv q1, sd, un] [(.long q1)]))
  refine Go.stp (fun t_ k_ => X0.ldc2Long hx hown (mvT hZ (hw _ (List.mem_of_getElem? (i := 42) rfl))) (g := (mkF m 1 #[rv r0, lv q1, sd, un] [(.long q1)])) rfl (hb hby d7_1) t_ k_) ?_
  show Go p.tables e below G (s₁.setTop (mkF m 4 #[rv r0, lv q1, sd, un] [(.long (-7046029254386353131 : Int64)), (.long q1)]))
  refine Go.stp (fun t_ k_ => XS.lmul X0.here hx rfl (hb hby d7_4) rfl k_) ?_
  show Go p.tables e below G (s₁.setTop (mkF m 5 #[rv r0, lv q1, sd, un] [(.long (q1 * (-7046029254386353131 : Int64)))]))
  refine Go.stp (fun t_ k_ => XS.aloadN X0.here hx rfl (hb hby d7_5) rfl rfl k_) ?_
  show Go p.tables e below G (s₁.setTop (mkF m 6 #[rv r0, lv q1, sd, un] [(.ref r0), (.long (q1 * (-7046029254386353131 : Int64)))]))
  obtain ⟨T1, X1, e1, st1⟩ := getF X0 hx hZ hown (host := "") (Or.inl (hw _ (List.mem_of_getElem? (i := 31) rfl))) Via.refl e0 F_shift (g := (mkF m 6 #[rv r0, lv q1, sd, un] [(.ref r0), (.long (q1 * (-7046029254386353131 : Int64)))])) rfl rfl (hb hby d7_6)
  refine Go.stp (fun t_ k_ => st1 t_ k_) ?_
  show Go p.tables e below G (T1.setTop (mkF m 9 #[rv r0, lv q1, sd, un] [(.int (61 : Int32)), (.long (q1 * (-7046029254386353131 : Int64)))]))
  refine Go.stp (fun t_ k_ => XS.lushr X1.here hx rfl (hb hby d7_9) rfl k_) ?_
  show Go p.tables e below G (T1.setTop (mkF m 10 #[rv r0, lv q1, sd, un] [(.long (((q1 * (-7046029254386353131 : Int64)).toUInt64 >>> ((61 : Int32) &&& 0x3f).toInt64.toUInt64).toInt64))]))
  refine Go.stp (fun t_ k_ => XS.l2i X1.here hx rfl (hb hby d7_10) rfl k_) ?_
  show Go p.tables e below G (T1.setTop (mkF m 11 #[rv r0, lv q1, sd, un] [(.int ((((q1 * (-7046029254386353131 : Int64)).toUInt64 >>> ((61 : Int32) &&& 0x3f).toInt64.toUInt64).toInt64).toInt32))]))
  refine Go.stp (fun t_ k_ => XS.istoreN X1.here hx rfl (hb hby d7_11) rfl (l' := #[rv r0, lv q1, sd, iv ((((q1 * (-7046029254386353131 : Int64)).toUInt64 >>> ((61 : Int32) &&& 0x3f).toInt64.toUInt64).toInt64).toInt32)]) rfl k_) ?_
  show Go p.tables e below G (T1.setTop (mkF m 12 #[rv r0, lv q1, sd, iv ((((q1 * (-7046029254386353131 : Int64)).toUInt64 >>> ((61 : Int32) &&& 0x3f).toInt64.toUInt64).toInt64).toInt32)] []))
  show Go p.tables e below G (T1.setTop (mkF m 12 #[.val (.ref r0), .val (.long q1), .second, .val (.int (own_it (own_hm8 q1) ((8 : Int32) - (1 : Int32)) 0))] []))
  suffices LP : ∀ (k : Nat) (T : State) (locs : List Loc) (u : Nat), Stand p l e ({ frames := 0, cells := 0, slots := 0, locals := 0 } : Room) s m #[(.ref r0), (.long q1)] below meth c T locs 0 0 → Fr n0 locs → T.heap = h0 → (u + k = t) → Go p.tables e below G (T.setTop (mkF m 12 #[rv r0, lv q1, sd, iv (own_it (own_hm8 q1) ((8 : Int32) - (1 : Int32)) u)] [])) from LP (t) _ _ (0) X1 N0 e1 (by omega)
  intro k
  induction k with
  | zero =>
    intro T locs u X N E hu
    obtain rfl : t = u := by omega
    show Go p.tables e below G (T.setTop (mkF m 12 #[rv r0, lv q1, sd, iv (own_it (own_hm8 q1) ((8 : Int32) - (1 : Int32)) t)] []))
    refine Go.stp (fun t_ k_ => XS.aloadN X.here hx rfl (hb hby d7_12) rfl rfl k_) ?_
    show Go p.tables e below G (T.setTop (mkF m 13 #[rv r0, lv q1, sd, iv (own_it (own_hm8 q1) ((8 : Int32) - (1 : Int32)) t)] [(.ref r0)]))
    obtain ⟨T2, X2, e2, st2⟩ := getF X hx hZ hown (host := "") (Or.inl (hw _ (List.mem_of_getElem? (i := 25) rfl))) Via.refl E F_rows (g := (mkF m 13 #[rv r0, lv q1, sd, iv (own_it (own_hm8 q1) ((8 : Int32) - (1 : Int32)) t)] [(.ref r0)])) rfl rfl (hb hby d7_13)
    refine Go.stp (fun t_ k_ => st2 t_ k_) ?_
    show Go p.tables e below G (T2.setTop (mkF m 16 #[rv r0, lv q1, sd, iv (own_it (own_hm8 q1) ((8 : Int32) - (1 : Int32)) t)] [(.ref ra)]))
    refine Go.stp (fun t_ k_ => XS.iloadN X2.here hx rfl (hb hby d7_16) rfl k_) ?_
    show Go p.tables e below G (T2.setTop (mkF m 17 #[rv r0, lv q1, sd, iv (own_it (own_hm8 q1) ((8 : Int32) - (1 : Int32)) t)] [(.int (own_it (own_hm8 q1) ((8 : Int32) - (1 : Int32)) t)), (.ref ra)]))
    obtain ⟨cl3, Ar3, Sz3, -, Hs3⟩ := id I_ra
    have ib3 : 0 ≤ ((own_it (own_hm8 q1) ((8 : Int32) - (1 : Int32)) t)).toInt ∧ ((own_it (own_hm8 q1) ((8 : Int32) - (1 : Int32)) t)).toInt < ((8 : Nat) : Int) := (own_tb8 q1 t)
    refine Go.stp (fun t_ k_ => X2.iaload hx (j := (own_it (own_hm8 q1) ((8 : Int32) - (1 : Int32)) t)) (v := (Value.int (R ((own_it (own_hm8 q1) ((8 : Int32) - (1 : Int32)) t)).toNatClampNeg))) (by rw [e2]; exact Ar3.1) (State.isArrayOf_alike hZ.alike Ar3.2.1) Ar3.2.2 (in_of Sz3 ib3) (Hs3 _ (at_of ib3)) (g := (mkF m 17 #[rv r0, lv q1, sd, iv (own_it (own_hm8 q1) ((8 : Int32) - (1 : Int32)) t)] [(.int (own_it (own_hm8 q1) ((8 : Int32) - (1 : Int32)) t)), (.ref ra)])) rfl rfl (hb hby d7_17) t_ k_) ?_
    show Go p.tables e below G (T2.setTop (mkF m 18 #[rv r0, lv q1, sd, iv (own_it (own_hm8 q1) ((8 : Int32) - (1 : Int32)) t)] [(.int (R ((own_it (own_hm8 q1) ((8 : Int32) - (1 : Int32)) t)).toNatClampNeg))]))
    refine Go.stp (fun t_ k_ => XS.iconst X2.here hx rfl (hb hby d7_18) k_) ?_
    show Go p.tables e below G (T2.setTop (mkF m 19 #[rv r0, lv q1, sd, iv (own_it (own_hm8 q1) ((8 : Int32) - (1 : Int32)) t)] [(.int (-1 : Int32)), (.int (R ((own_it (own_hm8 q1) ((8 : Int32) - (1 : Int32)) t)).toNatClampNeg))]))
    by_cases hc19 : (R ((own_it (own_hm8 q1) ((8 : Int32) - (1 : Int32)) t)).toNatClampNeg) = (-1 : Int32)
    · refine Go.stp (fun t_ k_ => XS.icmpYes X2.here hx rfl (pc0 := 19) (pc' := 48) rfl (hb hby d7_19) rfl (teq hc19).1 (by decide) (by decide) k_) ?_
      show Go p.tables e below G (T2.setTop (mkF m 48 #[rv r0, lv q1, sd, iv (own_it (own_hm8 q1) ((8 : Int32) - (1 : Int32)) t)] []))
      refine Go.stp (fun t_ k_ => XS.iloadN X2.here hx rfl (hb hby d7_48) rfl k_) ?_
      show Go p.tables e below G (T2.setTop (mkF m 49 #[rv r0, lv q1, sd, iv (own_it (own_hm8 q1) ((8 : Int32) - (1 : Int32)) t)] [(.int (own_it (own_hm8 q1) ((8 : Int32) - (1 : Int32)) t))]))
      obtain ⟨fs, hr, hrun, hended, hW, hsame⟩ := X2.leave (v := some (.int (own_it (own_hm8 q1) ((8 : Int32) - (1 : Int32)) t))) (fun h => by rw [Bd.returns] at h; cases h)
      refine ⟨_, _, retI X2 hx Bd.returns (hb hby d7_49) hr, hrun, hended, hG _ _ _ ?_ ⟨⟨_, rfl⟩, hW, hsame.mono (by decide) (by decide)⟩⟩
      show Q7_8 Z r0 q1 ra ia R I t h0 n0 _ T2.heap _
      rw [e2]
      exact ⟨rfl, N, rfl⟩
    · refine Go.stp (fun t_ k_ => XS.icmpNo X2.here hx rfl (hb hby d7_19) rfl (feq hc19).1 k_) ?_
      show Go p.tables e below G (T2.setTop (mkF m 22 #[rv r0, lv q1, sd, iv (own_it (own_hm8 q1) ((8 : Int32) - (1 : Int32)) t)] []))
      refine Go.stp (fun t_ k_ => XS.aloadN X2.here hx rfl (hb hby d7_22) rfl rfl k_) ?_
      show Go p.tables e below G (T2.setTop (mkF m 23 #[rv r0, lv q1, sd, iv (own_it (own_hm8 q1) ((8 : Int32) - (1 : Int32)) t)] [(.ref r0)]))
      obtain ⟨T4, X4, e4, st4⟩ := getF X2 hx hZ hown (host := "") (Or.inl (hw _ (List.mem_of_getElem? (i := 22) rfl))) Via.refl e2 F_ids (g := (mkF m 23 #[rv r0, lv q1, sd, iv (own_it (own_hm8 q1) ((8 : Int32) - (1 : Int32)) t)] [(.ref r0)])) rfl rfl (hb hby d7_23)
      refine Go.stp (fun t_ k_ => st4 t_ k_) ?_
      show Go p.tables e below G (T4.setTop (mkF m 26 #[rv r0, lv q1, sd, iv (own_it (own_hm8 q1) ((8 : Int32) - (1 : Int32)) t)] [(.ref ia)]))
      refine Go.stp (fun t_ k_ => XS.iloadN X4.here hx rfl (hb hby d7_26) rfl k_) ?_
      show Go p.tables e below G (T4.setTop (mkF m 27 #[rv r0, lv q1, sd, iv (own_it (own_hm8 q1) ((8 : Int32) - (1 : Int32)) t)] [(.int (own_it (own_hm8 q1) ((8 : Int32) - (1 : Int32)) t)), (.ref ia)]))
      obtain ⟨cl5, Ar5, Sz5, -, Hs5⟩ := id I_ia
      have ib5 : 0 ≤ ((own_it (own_hm8 q1) ((8 : Int32) - (1 : Int32)) t)).toInt ∧ ((own_it (own_hm8 q1) ((8 : Int32) - (1 : Int32)) t)).toInt < ((8 : Nat) : Int) := (own_tb8 q1 t)
      refine Go.stp (fun t_ k_ => X4.laload hx (j := (own_it (own_hm8 q1) ((8 : Int32) - (1 : Int32)) t)) (v := (Value.long (I ((own_it (own_hm8 q1) ((8 : Int32) - (1 : Int32)) t)).toNatClampNeg))) (by rw [e4]; exact Ar5.1) (State.isArrayOf_alike hZ.alike Ar5.2.1) Ar5.2.2 (in_of Sz5 ib5) (Hs5 _ (at_of ib5)) (g := (mkF m 27 #[rv r0, lv q1, sd, iv (own_it (own_hm8 q1) ((8 : Int32) - (1 : Int32)) t)] [(.int (own_it (own_hm8 q1) ((8 : Int32) - (1 : Int32)) t)), (.ref ia)])) rfl rfl (hb hby d7_27) t_ k_) ?_
      show Go p.tables e below G (T4.setTop (mkF m 28 #[rv r0, lv q1, sd, iv (own_it (own_hm8 q1) ((8 : Int32) - (1 : Int32)) t)] [(.long (I ((own_it (own_hm8 q1) ((8 : Int32) - (1 : Int32)) t)).toNatClampNeg))]))
      refine Go.stp (fun t_ k_ => XS.lloadN X4.here hx rfl (hb hby d7_28) rfl k_) ?_
      show Go p.tables e below G (T4.setTop (mkF m 29 #[rv r0, lv q1, sd, iv (own_it (own_hm8 q1) ((8 : Int32) - (1 : Int32)) t)] [(.long q1), (.long (I ((own_it (own_hm8 q1) ((8 : Int32) - (1 : Int32)) t)).toNatClampNeg))]))
      refine Go.stp (fun t_ k_ => XS.lcmp X4.here hx rfl (hb hby d7_29) rfl k_) ?_
      show Go p.tables e below G (T4.setTop (mkF m 30 #[rv r0, lv q1, sd, iv (own_it (own_hm8 q1) ((8 : Int32) - (1 : Int32)) t)] [(.int (lcmpW (I ((own_it (own_hm8 q1) ((8 : Int32) - (1 : Int32)) t)).toNatClampNeg) q1))]))
      have hd30 : (I ((own_it (own_hm8 q1) ((8 : Int32) - (1 : Int32)) t)).toNatClampNeg) = q1 := (hs.2.resolve_left hc19)
      refine Go.stp (fun t_ k_ => XS.ifYes X4.here hx rfl (pc0 := 30) (pc' := 48) rfl (hb hby d7_30) rfl ((if0 _ _).trans (teq ((lw_eq (I ((own_it (own_hm8 q1) ((8 : Int32) - (1 : Int32)) t)).toNatClampNeg) q1).mpr hd30)).1) (by decide) (by decide) k_) ?_
      show Go p.tables e below G (T4.setTop (mkF m 48 #[rv r0, lv q1, sd, iv (own_it (own_hm8 q1) ((8 : Int32) - (1 : Int32)) t)] []))
      refine Go.stp (fun t_ k_ => XS.iloadN X4.here hx rfl (hb hby d7_48) rfl k_) ?_
      show Go p.tables e below G (T4.setTop (mkF m 49 #[rv r0, lv q1, sd, iv (own_it (own_hm8 q1) ((8 : Int32) - (1 : Int32)) t)] [(.int (own_it (own_hm8 q1) ((8 : Int32) - (1 : Int32)) t))]))
      obtain ⟨fs, hr, hrun, hended, hW, hsame⟩ := X4.leave (v := some (.int (own_it (own_hm8 q1) ((8 : Int32) - (1 : Int32)) t))) (fun h => by rw [Bd.returns] at h; cases h)
      refine ⟨_, _, retI X4 hx Bd.returns (hb hby d7_49) hr, hrun, hended, hG _ _ _ ?_ ⟨⟨_, rfl⟩, hW, hsame.mono (by decide) (by decide)⟩⟩
      show Q7_8 Z r0 q1 ra ia R I t h0 n0 _ T4.heap _
      rw [e4]
      exact ⟨rfl, N, rfl⟩
  | succ k ih =>
    intro T locs u X N E hu
    have hsu := hs.1 u (by omega)
    show Go p.tables e below G (T.setTop (mkF m 12 #[rv r0, lv q1, sd, iv (own_it (own_hm8 q1) ((8 : Int32) - (1 : Int32)) u)] []))
    refine Go.stp (fun t_ k_ => XS.aloadN X.here hx rfl (hb hby d7_12) rfl rfl k_) ?_
    show Go p.tables e below G (T.setTop (mkF m 13 #[rv r0, lv q1, sd, iv (own_it (own_hm8 q1) ((8 : Int32) - (1 : Int32)) u)] [(.ref r0)]))
    obtain ⟨T6, X6, e6, st6⟩ := getF X hx hZ hown (host := "") (Or.inl (hw _ (List.mem_of_getElem? (i := 25) rfl))) Via.refl E F_rows (g := (mkF m 13 #[rv r0, lv q1, sd, iv (own_it (own_hm8 q1) ((8 : Int32) - (1 : Int32)) u)] [(.ref r0)])) rfl rfl (hb hby d7_13)
    refine Go.stp (fun t_ k_ => st6 t_ k_) ?_
    show Go p.tables e below G (T6.setTop (mkF m 16 #[rv r0, lv q1, sd, iv (own_it (own_hm8 q1) ((8 : Int32) - (1 : Int32)) u)] [(.ref ra)]))
    refine Go.stp (fun t_ k_ => XS.iloadN X6.here hx rfl (hb hby d7_16) rfl k_) ?_
    show Go p.tables e below G (T6.setTop (mkF m 17 #[rv r0, lv q1, sd, iv (own_it (own_hm8 q1) ((8 : Int32) - (1 : Int32)) u)] [(.int (own_it (own_hm8 q1) ((8 : Int32) - (1 : Int32)) u)), (.ref ra)]))
    obtain ⟨cl7, Ar7, Sz7, -, Hs7⟩ := id I_ra
    have ib7 : 0 ≤ ((own_it (own_hm8 q1) ((8 : Int32) - (1 : Int32)) u)).toInt ∧ ((own_it (own_hm8 q1) ((8 : Int32) - (1 : Int32)) u)).toInt < ((8 : Nat) : Int) := (own_tb8 q1 u)
    refine Go.stp (fun t_ k_ => X6.iaload hx (j := (own_it (own_hm8 q1) ((8 : Int32) - (1 : Int32)) u)) (v := (Value.int (R ((own_it (own_hm8 q1) ((8 : Int32) - (1 : Int32)) u)).toNatClampNeg))) (by rw [e6]; exact Ar7.1) (State.isArrayOf_alike hZ.alike Ar7.2.1) Ar7.2.2 (in_of Sz7 ib7) (Hs7 _ (at_of ib7)) (g := (mkF m 17 #[rv r0, lv q1, sd, iv (own_it (own_hm8 q1) ((8 : Int32) - (1 : Int32)) u)] [(.int (own_it (own_hm8 q1) ((8 : Int32) - (1 : Int32)) u)), (.ref ra)])) rfl rfl (hb hby d7_17) t_ k_) ?_
    show Go p.tables e below G (T6.setTop (mkF m 18 #[rv r0, lv q1, sd, iv (own_it (own_hm8 q1) ((8 : Int32) - (1 : Int32)) u)] [(.int (R ((own_it (own_hm8 q1) ((8 : Int32) - (1 : Int32)) u)).toNatClampNeg))]))
    refine Go.stp (fun t_ k_ => XS.iconst X6.here hx rfl (hb hby d7_18) k_) ?_
    show Go p.tables e below G (T6.setTop (mkF m 19 #[rv r0, lv q1, sd, iv (own_it (own_hm8 q1) ((8 : Int32) - (1 : Int32)) u)] [(.int (-1 : Int32)), (.int (R ((own_it (own_hm8 q1) ((8 : Int32) - (1 : Int32)) u)).toNatClampNeg))]))
    have hd19 : ¬ ((R ((own_it (own_hm8 q1) ((8 : Int32) - (1 : Int32)) u)).toNatClampNeg) = (-1 : Int32)) := hsu.1
    refine Go.stp (fun t_ k_ => XS.icmpNo X6.here hx rfl (hb hby d7_19) rfl (feq hd19).1 k_) ?_
    show Go p.tables e below G (T6.setTop (mkF m 22 #[rv r0, lv q1, sd, iv (own_it (own_hm8 q1) ((8 : Int32) - (1 : Int32)) u)] []))
    refine Go.stp (fun t_ k_ => XS.aloadN X6.here hx rfl (hb hby d7_22) rfl rfl k_) ?_
    show Go p.tables e below G (T6.setTop (mkF m 23 #[rv r0, lv q1, sd, iv (own_it (own_hm8 q1) ((8 : Int32) - (1 : Int32)) u)] [(.ref r0)]))
    obtain ⟨T8, X8, e8, st8⟩ := getF X6 hx hZ hown (host := "") (Or.inl (hw _ (List.mem_of_getElem? (i := 22) rfl))) Via.refl e6 F_ids (g := (mkF m 23 #[rv r0, lv q1, sd, iv (own_it (own_hm8 q1) ((8 : Int32) - (1 : Int32)) u)] [(.ref r0)])) rfl rfl (hb hby d7_23)
    refine Go.stp (fun t_ k_ => st8 t_ k_) ?_
    show Go p.tables e below G (T8.setTop (mkF m 26 #[rv r0, lv q1, sd, iv (own_it (own_hm8 q1) ((8 : Int32) - (1 : Int32)) u)] [(.ref ia)]))
    refine Go.stp (fun t_ k_ => XS.iloadN X8.here hx rfl (hb hby d7_26) rfl k_) ?_
    show Go p.tables e below G (T8.setTop (mkF m 27 #[rv r0, lv q1, sd, iv (own_it (own_hm8 q1) ((8 : Int32) - (1 : Int32)) u)] [(.int (own_it (own_hm8 q1) ((8 : Int32) - (1 : Int32)) u)), (.ref ia)]))
    obtain ⟨cl9, Ar9, Sz9, -, Hs9⟩ := id I_ia
    have ib9 : 0 ≤ ((own_it (own_hm8 q1) ((8 : Int32) - (1 : Int32)) u)).toInt ∧ ((own_it (own_hm8 q1) ((8 : Int32) - (1 : Int32)) u)).toInt < ((8 : Nat) : Int) := (own_tb8 q1 u)
    refine Go.stp (fun t_ k_ => X8.laload hx (j := (own_it (own_hm8 q1) ((8 : Int32) - (1 : Int32)) u)) (v := (Value.long (I ((own_it (own_hm8 q1) ((8 : Int32) - (1 : Int32)) u)).toNatClampNeg))) (by rw [e8]; exact Ar9.1) (State.isArrayOf_alike hZ.alike Ar9.2.1) Ar9.2.2 (in_of Sz9 ib9) (Hs9 _ (at_of ib9)) (g := (mkF m 27 #[rv r0, lv q1, sd, iv (own_it (own_hm8 q1) ((8 : Int32) - (1 : Int32)) u)] [(.int (own_it (own_hm8 q1) ((8 : Int32) - (1 : Int32)) u)), (.ref ia)])) rfl rfl (hb hby d7_27) t_ k_) ?_
    show Go p.tables e below G (T8.setTop (mkF m 28 #[rv r0, lv q1, sd, iv (own_it (own_hm8 q1) ((8 : Int32) - (1 : Int32)) u)] [(.long (I ((own_it (own_hm8 q1) ((8 : Int32) - (1 : Int32)) u)).toNatClampNeg))]))
    refine Go.stp (fun t_ k_ => XS.lloadN X8.here hx rfl (hb hby d7_28) rfl k_) ?_
    show Go p.tables e below G (T8.setTop (mkF m 29 #[rv r0, lv q1, sd, iv (own_it (own_hm8 q1) ((8 : Int32) - (1 : Int32)) u)] [(.long q1), (.long (I ((own_it (own_hm8 q1) ((8 : Int32) - (1 : Int32)) u)).toNatClampNeg))]))
    refine Go.stp (fun t_ k_ => XS.lcmp X8.here hx rfl (hb hby d7_29) rfl k_) ?_
    show Go p.tables e below G (T8.setTop (mkF m 30 #[rv r0, lv q1, sd, iv (own_it (own_hm8 q1) ((8 : Int32) - (1 : Int32)) u)] [(.int (lcmpW (I ((own_it (own_hm8 q1) ((8 : Int32) - (1 : Int32)) u)).toNatClampNeg) q1))]))
    have hd30 : ¬ ((I ((own_it (own_hm8 q1) ((8 : Int32) - (1 : Int32)) u)).toNatClampNeg) = q1) := hsu.2
    refine Go.stp (fun t_ k_ => XS.ifNo X8.here hx rfl (hb hby d7_30) rfl ((if0 _ _).trans (feq (fun q => hd30 ((lw_eq (I ((own_it (own_hm8 q1) ((8 : Int32) - (1 : Int32)) u)).toNatClampNeg) q1).mp q))).1) k_) ?_
    show Go p.tables e below G (T8.setTop (mkF m 33 #[rv r0, lv q1, sd, iv (own_it (own_hm8 q1) ((8 : Int32) - (1 : Int32)) u)] []))
    refine Go.stp (fun t_ k_ => XS.iloadN X8.here hx rfl (hb hby d7_33) rfl k_) ?_
    show Go p.tables e below G (T8.setTop (mkF m 34 #[rv r0, lv q1, sd, iv (own_it (own_hm8 q1) ((8 : Int32) - (1 : Int32)) u)] [(.int (own_it (own_hm8 q1) ((8 : Int32) - (1 : Int32)) u))]))
    refine Go.stp (fun t_ k_ => XS.iconst X8.here hx rfl (hb hby d7_34) k_) ?_
    show Go p.tables e below G (T8.setTop (mkF m 35 #[rv r0, lv q1, sd, iv (own_it (own_hm8 q1) ((8 : Int32) - (1 : Int32)) u)] [(.int (1 : Int32)), (.int (own_it (own_hm8 q1) ((8 : Int32) - (1 : Int32)) u))]))
    refine Go.stp (fun t_ k_ => XS.iadd X8.here hx rfl (hb hby d7_35) rfl k_) ?_
    show Go p.tables e below G (T8.setTop (mkF m 36 #[rv r0, lv q1, sd, iv (own_it (own_hm8 q1) ((8 : Int32) - (1 : Int32)) u)] [(.int ((own_it (own_hm8 q1) ((8 : Int32) - (1 : Int32)) u) + (1 : Int32)))]))
    refine Go.stp (fun t_ k_ => XS.aloadN X8.here hx rfl (hb hby d7_36) rfl rfl k_) ?_
    show Go p.tables e below G (T8.setTop (mkF m 37 #[rv r0, lv q1, sd, iv (own_it (own_hm8 q1) ((8 : Int32) - (1 : Int32)) u)] [(.ref r0), (.int ((own_it (own_hm8 q1) ((8 : Int32) - (1 : Int32)) u) + (1 : Int32)))]))
    obtain ⟨T10, X10, e10, st10⟩ := getF X8 hx hZ hown (host := "") (Or.inl (hw _ (List.mem_of_getElem? (i := 25) rfl))) Via.refl e8 F_rows (g := (mkF m 37 #[rv r0, lv q1, sd, iv (own_it (own_hm8 q1) ((8 : Int32) - (1 : Int32)) u)] [(.ref r0), (.int ((own_it (own_hm8 q1) ((8 : Int32) - (1 : Int32)) u) + (1 : Int32)))])) rfl rfl (hb hby d7_37)
    refine Go.stp (fun t_ k_ => st10 t_ k_) ?_
    show Go p.tables e below G (T10.setTop (mkF m 40 #[rv r0, lv q1, sd, iv (own_it (own_hm8 q1) ((8 : Int32) - (1 : Int32)) u)] [(.ref ra), (.int ((own_it (own_hm8 q1) ((8 : Int32) - (1 : Int32)) u) + (1 : Int32)))]))
    obtain ⟨cl11, Ar11, Sz11, -, -⟩ := id I_ra
    refine Go.stp (fun t_ k_ => X10.arraylength hx (by rw [e10]; exact Ar11.1) (State.isArrayOf_alike hZ.alike Ar11.2.1) (g := (mkF m 40 #[rv r0, lv q1, sd, iv (own_it (own_hm8 q1) ((8 : Int32) - (1 : Int32)) u)] [(.ref ra), (.int ((own_it (own_hm8 q1) ((8 : Int32) - (1 : Int32)) u) + (1 : Int32)))])) rfl rfl (hb hby d7_40) t_ k_) ?_
    rw [Sz11]
    show Go p.tables e below G (T10.setTop (mkF m 41 #[rv r0, lv q1, sd, iv (own_it (own_hm8 q1) ((8 : Int32) - (1 : Int32)) u)] [(.int (8 : Int32)), (.int ((own_it (own_hm8 q1) ((8 : Int32) - (1 : Int32)) u) + (1 : Int32)))]))
    refine Go.stp (fun t_ k_ => XS.iconst X10.here hx rfl (hb hby d7_41) k_) ?_
    show Go p.tables e below G (T10.setTop (mkF m 42 #[rv r0, lv q1, sd, iv (own_it (own_hm8 q1) ((8 : Int32) - (1 : Int32)) u)] [(.int (1 : Int32)), (.int (8 : Int32)), (.int ((own_it (own_hm8 q1) ((8 : Int32) - (1 : Int32)) u) + (1 : Int32)))]))
    refine Go.stp (fun t_ k_ => XS.isub X10.here hx rfl (hb hby d7_42) rfl k_) ?_
    show Go p.tables e below G (T10.setTop (mkF m 43 #[rv r0, lv q1, sd, iv (own_it (own_hm8 q1) ((8 : Int32) - (1 : Int32)) u)] [(.int ((8 : Int32) - (1 : Int32))), (.int ((own_it (own_hm8 q1) ((8 : Int32) - (1 : Int32)) u) + (1 : Int32)))]))
    refine Go.stp (fun t_ k_ => XS.iand X10.here hx rfl (hb hby d7_43) rfl k_) ?_
    show Go p.tables e below G (T10.setTop (mkF m 44 #[rv r0, lv q1, sd, iv (own_it (own_hm8 q1) ((8 : Int32) - (1 : Int32)) u)] [(.int (((own_it (own_hm8 q1) ((8 : Int32) - (1 : Int32)) u) + (1 : Int32)) &&& ((8 : Int32) - (1 : Int32))))]))
    refine Go.stp (fun t_ k_ => XS.istoreN X10.here hx rfl (hb hby d7_44) rfl (l' := #[rv r0, lv q1, sd, iv (((own_it (own_hm8 q1) ((8 : Int32) - (1 : Int32)) u) + (1 : Int32)) &&& ((8 : Int32) - (1 : Int32)))]) rfl k_) ?_
    show Go p.tables e below G (T10.setTop (mkF m 45 #[rv r0, lv q1, sd, iv (((own_it (own_hm8 q1) ((8 : Int32) - (1 : Int32)) u) + (1 : Int32)) &&& ((8 : Int32) - (1 : Int32)))] []))
    refine Go.stp (fun t_ k_ => XS.goto X10.here hx rfl (pc0 := 45) (pc' := 12) rfl (hb hby d7_45) (by decide) (by decide) k_) ?_
    show Go p.tables e below G (T10.setTop (mkF m 12 #[rv r0, lv q1, sd, iv (((own_it (own_hm8 q1) ((8 : Int32) - (1 : Int32)) u) + (1 : Int32)) &&& ((8 : Int32) - (1 : Int32)))] []))
    exact ih _ _ (u + 1) X10 N e10 (by omega)
theorem d6_0 : decode prog_10_method_3_code 0 = .ok (.aload_n 0, 1) := by decide +kernel
theorem d6_1 : decode prog_10_method_3_code 1 = .ok (.lload_n 1, 1) := by decide +kernel
theorem d6_2 : decode prog_10_method_3_code 2 = .ok (.invokevirtual 74, 3) := by decide +kernel
theorem d6_5 : decode prog_10_method_3_code 5 = .ok (.istore 4, 2) := by decide +kernel
theorem d6_7 : decode prog_10_method_3_code 7 = .ok (.aload_n 0, 1) := by decide +kernel
theorem d6_8 : decode prog_10_method_3_code 8 = .ok (.getfield 29, 3) := by decide +kernel
theorem d6_11 : decode prog_10_method_3_code 11 = .ok (.iload 4, 2) := by decide +kernel
theorem d6_13 : decode prog_10_method_3_code 13 = .ok (.iaload, 1) := by decide +kernel
theorem d6_14 : decode prog_10_method_3_code 14 = .ok (.iconst (-1), 1) := by decide +kernel
theorem d6_15 : decode prog_10_method_3_code 15 = .ok (.if_icmp .ne 7, 3) := by decide +kernel
theorem d6_18 : decode prog_10_method_3_code 18 = .ok (.iconst 1, 1) := by decide +kernel
theorem d6_19 : decode prog_10_method_3_code 19 = .ok (.goto 4, 3) := by decide +kernel
theorem d6_22 : decode prog_10_method_3_code 22 = .ok (.iconst 0, 1) := by decide +kernel
theorem d6_23 : decode prog_10_method_3_code 23 = .ok (.istore 5, 2) := by decide +kernel
theorem d6_25 : decode prog_10_method_3_code 25 = .ok (.iload 5, 2) := by decide +kernel
theorem d6_27 : decode prog_10_method_3_code 27 = .ok (.ifCond .eq 19, 3) := by decide +kernel
theorem d6_30 : decode prog_10_method_3_code 30 = .ok (.aload_n 0, 1) := by decide +kernel
theorem d6_31 : decode prog_10_method_3_code 31 = .ok (.getfield 25, 3) := by decide +kernel
theorem d6_34 : decode prog_10_method_3_code 34 = .ok (.iload 4, 2) := by decide +kernel
theorem d6_36 : decode prog_10_method_3_code 36 = .ok (.lload_n 1, 1) := by decide +kernel
theorem d6_37 : decode prog_10_method_3_code 37 = .ok (.lastore, 1) := by decide +kernel
theorem d6_38 : decode prog_10_method_3_code 38 = .ok (.aload_n 0, 1) := by decide +kernel
theorem d6_39 : decode prog_10_method_3_code 39 = .ok (.getfield 29, 3) := by decide +kernel
theorem d6_42 : decode prog_10_method_3_code 42 = .ok (.iload 4, 2) := by decide +kernel
theorem d6_44 : decode prog_10_method_3_code 44 = .ok (.iload_n 3, 1) := by decide +kernel
theorem d6_45 : decode prog_10_method_3_code 45 = .ok (.iastore, 1) := by decide +kernel
theorem d6_46 : decode prog_10_method_3_code 46 = .ok (.iload 5, 2) := by decide +kernel
theorem d6_48 : decode prog_10_method_3_code 48 = .ok (.ireturn, 1) := by decide +kernel
theorem ef_6_8 (m : MethodId) (r0 : Addr) (q1 : Int64) (p2 : Int32) : entryFrame m #[(.ref r0), (.long q1), (.int p2)] 6 = mkF m 0 #[rv r0, lv q1, sd, iv p2, un, un] [] := by first | (simp [entryFrame, mkF, argsToLocals, Value.category, iv, rv, lv, un, sd]; done) | rfl
def Q6_8 (Z : State) (r0 : Addr) (q1 : Int64) (p2 : Int32) (ra : Addr) (ia : Addr) (R : Nat → Int32) (I : Nat → Int64) (mp : Int64 → Int32) (F : List Nat) (h0 : Heap) (n0 : Nat) (v : Option Value) (h : Heap) (L : List Loc) : Prop := v = some (.int (if mp q1 = (-1 : Int32) then (1 : Int32) else (0 : Int32))) ∧ Fr n0 L ∧ Keep h0 h [ra, ia] ∧ ∃ (R' : Nat → Int32) (I' : Nat → Int64) (F' : List Nat), Ia Z h ra .int 8 Value.int R' ∧ Ia Z h ia .long 8 Value.long I' ∧ Rep 8 own_P8 R' I' (if mp q1 = (-1 : Int32) then updm mp q1 p2 else mp) F' ∧ F'.length ≤ F.length + 1
set_option maxRecDepth 65536 in
set_option maxHeartbeats 40000000 in
theorem rm6_8 (l : Launch) (Z : State) (a0 : Array Value) (hw : ∀ d ∈ tables_1, d.before a0 Z = true) (ws : List Jvm.Cond) (r0 : Addr) (q1 : Int64) (p2 : Int32) (ra : Addr) (ia : Addr) (R : Nat → Int32) (I : Nat → Int64) (mp : Int64 → Int32) (F : List Nat) (h0 : Heap) (n0 : Nat) (Z0 : n0 ≤ h0.size) (F_rows : Fld Z h0 r0 "com/example/chatterbench/chatterbench/data/IdIndex" "rows" "[I" (.ref ra)) (F_ids : Fld Z h0 r0 "com/example/chatterbench/chatterbench/data/IdIndex" "ids" "[J" (.ref ia)) (I_ra : Ia Z h0 ra .int 8 Value.int R) (I_ia : Ia Z h0 ia .long 8 Value.long I) (F_shift : Fld Z h0 r0 "com/example/chatterbench/chatterbench/data/IdIndex" "shift" "I" (.int (61 : Int32))) (E_r0 : Exa Z h0 r0 "com/example/chatterbench/chatterbench/data/IdIndex") (g_ra : n0 ≤ ra) (g_ia : n0 ≤ ia) (hri : ra ≠ ia) (hxr : r0 ≠ ra) (hxi : r0 ≠ ia) (hrep : Rep 8 own_P8 R I mp F) (hF : F.length + 1 < 8) (hp : p2 ≠ (-1 : Int32)) :
    MetFree l (⟨"com/example/chatterbench/chatterbench/data/IdIndex", "add", "(JI)Z"⟩ : MethodName) (head1 (Jvm.Cond.code (⟨"com/example/chatterbench/chatterbench/data/IdIndex", "add", "(JI)Z"⟩ : MethodName) prog_10_method_3_code 6 (some .boolean) :: ws) ({ frames := 1, cells := 0, slots := 0, locals := 15 } : Room)) (fun a U => a = #[(.ref r0), (.long q1), (.int p2)] ∧ Z.Warmed39 U.vm ∧ U.heap = h0) (fun _ _ _ _ _ => True) (fun _ U o U' => ∃ v L, o = .returned v ∧ Q6_8 Z r0 q1 p2 ra ia R I mp F h0 n0 v U'.heap L ∧ FrameEnd U o U' L ({ frames := 1, cells := 0, slots := 0, locals := 15 } : Room).cells ({ frames := 1, cells := 0, slots := 0, locals := 15 } : Room).slots) := by
  refine MetFree.of_bodySF (plainFor_of_name pn_1) hisR ?_
  intro p e s m args below meth c s₁ Bd hml0 hP hK
  obtain ⟨rfl, hZ, hh⟩ := hP
  have hx := Bd.exec
  have hby := Bd.bytes
  have hml : c.maxLocals = 6 := hml0
  have hown : s.vm.findClass "com/example/chatterbench/chatterbench/data/IdIndex" = some m.cls := findClass_of_methodNamed Bd.named
  have hnm := (name_of_methodNamed Bd.named Bd.method).1
  have X0 : Stand p l e ({ frames := 1, cells := 0, slots := 0, locals := 15 } : Room) s m #[(.ref r0), (.long q1), (.int p2)] below meth c s₁ [] 0 0 := Stand.of_body Bd
  have e0 : s₁.heap = h0 := by rw [← hh, Bd.state]; rfl
  have N0 := Fr.nil n0
  suffices HH : ∀ G : Outcome → State → Prop, (∀ v L U', Q6_8 Z r0 q1 p2 ra ia R I mp F h0 n0 v U'.heap L → FrameEnd s (.returned v) U' L ({ frames := 1, cells := 0, slots := 0, locals := 15 } : Room).cells ({ frames := 1, cells := 0, slots := 0, locals := 15 } : Room).slots → G (.returned v) U') → Go p.tables e below G (s₁.setTop (mkF m 0 #[rv r0, lv q1, sd, iv p2, un, un] [])) by
    obtain ⟨s2, o, h1, h2, h3, h4⟩ := HH (fun o U' => ∃ v L, o = .returned v ∧ Q6_8 Z r0 q1 p2 ra ia R I mp F h0 n0 v U'.heap L ∧ FrameEnd s o U' L ({ frames := 1, cells := 0, slots := 0, locals := 15 } : Room).cells ({ frames := 1, cells := 0, slots := 0, locals := 15 } : Room).slots) (fun v L U' q f => ⟨v, L, rfl, q, f⟩)
    exact ⟨s2, o, castTop (ef_6_8 m r0 q1 p2) h1, h2, h3, h4⟩
  intro G hG
  have K0 := Keep.refl h0 [ra, ia]
  obtain ⟨t, ht, hs, hm⟩ := hrep.2.1 q1
  show Go p.tables e below G (s₁.setTop (mkF m 0 #[rv r0, lv q1, sd, iv p2, un, un] []))
  refine Go.stp (fun t_ k_ => XS.aloadN X0.here hx rfl (hb hby d6_0) rfl rfl k_) ?_
  show Go p.tables e below G (s₁.setTop (mkF m 1 #[rv r0, lv q1, sd, iv p2, un, un] [(.ref r0)]))
  refine Go.stp (fun t_ k_ => XS.lloadN X0.here hx rfl (hb hby d6_1) rfl k_) ?_
  show Go p.tables e below G (s₁.setTop (mkF m 2 #[rv r0, lv q1, sd, iv p2, un, un] [(.long q1), (.ref r0)]))
  obtain ⟨cq1, qq1, qq1'⟩ := E_r0.cell
  obtain ⟨_, _, ⟨T1, L1, k1, n1⟩, -, X1, ⟨Lc1, hQ1, l1, y1, z1⟩, st1⟩ := X0.privateBack hx (y := (⟨"com/example/chatterbench/chatterbench/data/IdIndex", "slot", "(J)I"⟩ : MethodName)) hown (mvT hZ (hw _ (List.mem_of_getElem? (i := 38) rfl))) (mvT hZ (hw _ (List.mem_of_getElem? (i := 39) rfl))) (sel_priv (mvT hZ (hw _ (List.mem_of_getElem? (i := 2) rfl))) (Cond.privateMethod_at (mvP hZ (hw _ (List.mem_of_getElem? (i := 40) rfl)) (args := #[]))) (mvT hZ (hw _ (List.mem_of_getElem? (i := 39) rfl))) (by decide)) (Cond.privateMethod_at (mvP hZ (hw _ (List.mem_of_getElem? (i := 40) rfl)) (args := #[]))) (mvT hZ (hw _ (List.mem_of_getElem? (i := 41) rfl))) (by decide) (backOf (W := 0) (rm7_8 l Z a0 hw [] r0 q1 ra ia R I t h0 n0 Z0 F_rows F_ids I_ra I_ia F_shift hs) hZ (hw _ (List.mem_of_getElem? (i := 41) rfl)) (hw _ (List.mem_of_getElem? (i := 3) rfl)) (by decide) (by decide)) (g := (mkF m 2 #[rv r0, lv q1, sd, iv p2, un, un] [(.long q1), (.ref r0)])) rfl (by rw [hml]; rfl) (Steps.refl _) (a := r0) (by rw [e0]; exact qq1) qq1' (argsL := [(.long q1)]) (rest := []) (lenOf pd_3 rfl) rfl (by show 2 * 0 + _ ≤ _; exact Nat.le_of_eq rfl) (hb hby d6_2) (fun _ _ => ⟨rfl, e0, (by decide : 0 + 0 ≤ _), (by decide : 0 + 0 ≤ _)⟩)
  dsimp only [Pt.U, Pt.locs, Pt.cells, Pt.slots] at X1 l1 y1 z1 st1 hQ1
  subst l1 y1 z1
  obtain ⟨rfl, Nq1, e1⟩ := hQ1
  have N1 := Fr.app N0 Nq1
  refine Go.stp (fun t_ k_ => st1.trans k_) ?_
  show Go p.tables e below G (T1.setTop (mkF m 5 #[rv r0, lv q1, sd, iv p2, un, un] [(.int (own_it (own_hm8 q1) ((8 : Int32) - (1 : Int32)) t))]))
  refine Go.stp (fun t_ k_ => XS.istore X1.here hx rfl (hb hby d6_5) rfl (l' := #[rv r0, lv q1, sd, iv p2, iv (own_it (own_hm8 q1) ((8 : Int32) - (1 : Int32)) t), un]) rfl k_) ?_
  show Go p.tables e below G (T1.setTop (mkF m 7 #[rv r0, lv q1, sd, iv p2, iv (own_it (own_hm8 q1) ((8 : Int32) - (1 : Int32)) t), un] []))
  refine Go.stp (fun t_ k_ => XS.aloadN X1.here hx rfl (hb hby d6_7) rfl rfl k_) ?_
  show Go p.tables e below G (T1.setTop (mkF m 8 #[rv r0, lv q1, sd, iv p2, iv (own_it (own_hm8 q1) ((8 : Int32) - (1 : Int32)) t), un] [(.ref r0)]))
  obtain ⟨T2, X2, e2, st2⟩ := getF X1 hx hZ hown (host := "") (Or.inl (hw _ (List.mem_of_getElem? (i := 25) rfl))) Via.refl e1 F_rows (g := (mkF m 8 #[rv r0, lv q1, sd, iv p2, iv (own_it (own_hm8 q1) ((8 : Int32) - (1 : Int32)) t), un] [(.ref r0)])) rfl rfl (hb hby d6_8)
  refine Go.stp (fun t_ k_ => st2 t_ k_) ?_
  show Go p.tables e below G (T2.setTop (mkF m 11 #[rv r0, lv q1, sd, iv p2, iv (own_it (own_hm8 q1) ((8 : Int32) - (1 : Int32)) t), un] [(.ref ra)]))
  refine Go.stp (fun t_ k_ => XS.iload X2.here hx rfl (hb hby d6_11) rfl k_) ?_
  show Go p.tables e below G (T2.setTop (mkF m 13 #[rv r0, lv q1, sd, iv p2, iv (own_it (own_hm8 q1) ((8 : Int32) - (1 : Int32)) t), un] [(.int (own_it (own_hm8 q1) ((8 : Int32) - (1 : Int32)) t)), (.ref ra)]))
  obtain ⟨cl3, Ar3, Sz3, -, Hs3⟩ := id I_ra
  have ib3 : 0 ≤ ((own_it (own_hm8 q1) ((8 : Int32) - (1 : Int32)) t)).toInt ∧ ((own_it (own_hm8 q1) ((8 : Int32) - (1 : Int32)) t)).toInt < ((8 : Nat) : Int) := (own_tb8 q1 t)
  refine Go.stp (fun t_ k_ => X2.iaload hx (j := (own_it (own_hm8 q1) ((8 : Int32) - (1 : Int32)) t)) (v := (Value.int (R ((own_it (own_hm8 q1) ((8 : Int32) - (1 : Int32)) t)).toNatClampNeg))) (by rw [e2]; exact Ar3.1) (State.isArrayOf_alike hZ.alike Ar3.2.1) Ar3.2.2 (in_of Sz3 ib3) (Hs3 _ (at_of ib3)) (g := (mkF m 13 #[rv r0, lv q1, sd, iv p2, iv (own_it (own_hm8 q1) ((8 : Int32) - (1 : Int32)) t), un] [(.int (own_it (own_hm8 q1) ((8 : Int32) - (1 : Int32)) t)), (.ref ra)])) rfl rfl (hb hby d6_13) t_ k_) ?_
  show Go p.tables e below G (T2.setTop (mkF m 14 #[rv r0, lv q1, sd, iv p2, iv (own_it (own_hm8 q1) ((8 : Int32) - (1 : Int32)) t), un] [(.int (R ((own_it (own_hm8 q1) ((8 : Int32) - (1 : Int32)) t)).toNatClampNeg))]))
  refine Go.stp (fun t_ k_ => XS.iconst X2.here hx rfl (hb hby d6_14) k_) ?_
  show Go p.tables e below G (T2.setTop (mkF m 15 #[rv r0, lv q1, sd, iv p2, iv (own_it (own_hm8 q1) ((8 : Int32) - (1 : Int32)) t), un] [(.int (-1 : Int32)), (.int (R ((own_it (own_hm8 q1) ((8 : Int32) - (1 : Int32)) t)).toNatClampNeg))]))
  by_cases hc15 : (R ((own_it (own_hm8 q1) ((8 : Int32) - (1 : Int32)) t)).toNatClampNeg) = (-1 : Int32)
  · refine Go.stp (fun t_ k_ => XS.icmpNo X2.here hx rfl (hb hby d6_15) rfl (teq hc15).2 k_) ?_
    show Go p.tables e below G (T2.setTop (mkF m 18 #[rv r0, lv q1, sd, iv p2, iv (own_it (own_hm8 q1) ((8 : Int32) - (1 : Int32)) t), un] []))
    refine Go.stp (fun t_ k_ => XS.iconst X2.here hx rfl (hb hby d6_18) k_) ?_
    show Go p.tables e below G (T2.setTop (mkF m 19 #[rv r0, lv q1, sd, iv p2, iv (own_it (own_hm8 q1) ((8 : Int32) - (1 : Int32)) t), un] [(.int (1 : Int32))]))
    refine Go.stp (fun t_ k_ => XS.goto X2.here hx rfl (pc0 := 19) (pc' := 23) rfl (hb hby d6_19) (by decide) (by decide) k_) ?_
    show Go p.tables e below G (T2.setTop (mkF m 23 #[rv r0, lv q1, sd, iv p2, iv (own_it (own_hm8 q1) ((8 : Int32) - (1 : Int32)) t), un] [(.int (1 : Int32))]))
    refine Go.stp (fun t_ k_ => XS.istore X2.here hx rfl (hb hby d6_23) rfl (l' := #[rv r0, lv q1, sd, iv p2, iv (own_it (own_hm8 q1) ((8 : Int32) - (1 : Int32)) t), iv (1 : Int32)]) rfl k_) ?_
    show Go p.tables e below G (T2.setTop (mkF m 25 #[rv r0, lv q1, sd, iv p2, iv (own_it (own_hm8 q1) ((8 : Int32) - (1 : Int32)) t), iv (1 : Int32)] []))
    refine Go.stp (fun t_ k_ => XS.iload X2.here hx rfl (hb hby d6_25) rfl k_) ?_
    show Go p.tables e below G (T2.setTop (mkF m 27 #[rv r0, lv q1, sd, iv p2, iv (own_it (own_hm8 q1) ((8 : Int32) - (1 : Int32)) t), iv (1 : Int32)] [(.int (1 : Int32))]))
    refine Go.stp (fun t_ k_ => XS.ifNo X2.here hx rfl (hb hby d6_27) rfl ((if0 _ _).trans (feq (by decide : ¬ ((1 : Int32) = (0 : Int32)))).1) k_) ?_
    show Go p.tables e below G (T2.setTop (mkF m 30 #[rv r0, lv q1, sd, iv p2, iv (own_it (own_hm8 q1) ((8 : Int32) - (1 : Int32)) t), iv (1 : Int32)] []))
    refine Go.stp (fun t_ k_ => XS.aloadN X2.here hx rfl (hb hby d6_30) rfl rfl k_) ?_
    show Go p.tables e below G (T2.setTop (mkF m 31 #[rv r0, lv q1, sd, iv p2, iv (own_it (own_hm8 q1) ((8 : Int32) - (1 : Int32)) t), iv (1 : Int32)] [(.ref r0)]))
    obtain ⟨T4, X4, e4, st4⟩ := getF X2 hx hZ hown (host := "") (Or.inl (hw _ (List.mem_of_getElem? (i := 22) rfl))) Via.refl e2 F_ids (g := (mkF m 31 #[rv r0, lv q1, sd, iv p2, iv (own_it (own_hm8 q1) ((8 : Int32) - (1 : Int32)) t), iv (1 : Int32)] [(.ref r0)])) rfl rfl (hb hby d6_31)
    refine Go.stp (fun t_ k_ => st4 t_ k_) ?_
    show Go p.tables e below G (T4.setTop (mkF m 34 #[rv r0, lv q1, sd, iv p2, iv (own_it (own_hm8 q1) ((8 : Int32) - (1 : Int32)) t), iv (1 : Int32)] [(.ref ia)]))
    refine Go.stp (fun t_ k_ => XS.iload X4.here hx rfl (hb hby d6_34) rfl k_) ?_
    show Go p.tables e below G (T4.setTop (mkF m 36 #[rv r0, lv q1, sd, iv p2, iv (own_it (own_hm8 q1) ((8 : Int32) - (1 : Int32)) t), iv (1 : Int32)] [(.int (own_it (own_hm8 q1) ((8 : Int32) - (1 : Int32)) t)), (.ref ia)]))
    refine Go.stp (fun t_ k_ => XS.lloadN X4.here hx rfl (hb hby d6_36) rfl k_) ?_
    show Go p.tables e below G (T4.setTop (mkF m 37 #[rv r0, lv q1, sd, iv p2, iv (own_it (own_hm8 q1) ((8 : Int32) - (1 : Int32)) t), iv (1 : Int32)] [(.long q1), (.int (own_it (own_hm8 q1) ((8 : Int32) - (1 : Int32)) t)), (.ref ia)]))
    have ib5 : 0 ≤ ((own_it (own_hm8 q1) ((8 : Int32) - (1 : Int32)) t)).toInt ∧ ((own_it (own_hm8 q1) ((8 : Int32) - (1 : Int32)) t)).toInt < ((8 : Nat) : Int) := (own_tb8 q1 t)
    obtain ⟨cl5, Ar5, Sz5, -, -⟩ := id I_ia
    obtain ⟨T5, h5, X5, e5, W5, st5⟩ := stJ X4 hx hZ e4 Ar5 (j := (own_it (own_hm8 q1) ((8 : Int32) - (1 : Int32)) t)) (in_of Sz5 ib5) (g := (mkF m 37 #[rv r0, lv q1, sd, iv p2, iv (own_it (own_hm8 q1) ((8 : Int32) - (1 : Int32)) t), iv (1 : Int32)] [(.long q1), (.int (own_it (own_hm8 q1) ((8 : Int32) - (1 : Int32)) t)), (.ref ia)])) rfl rfl (hb hby d6_37)
    have f6 : Ia Z h5 ia .long 8 Value.long (upf I ((own_it (own_hm8 q1) ((8 : Int32) - (1 : Int32)) t)).toNatClampNeg q1) := I_ia.set W5 rfl
    have f7 : Fld Z h5 r0 "com/example/chatterbench/chatterbench/data/IdIndex" "rows" "[I" (.ref ra) := F_rows.other W5 (Or.inl hxi)
    have f8 : Fld Z h5 r0 "com/example/chatterbench/chatterbench/data/IdIndex" "ids" "[J" (.ref ia) := F_ids.other W5 (Or.inl hxi)
    have f9 : Ia Z h5 ra .int 8 Value.int R := I_ra.other W5 hri
    have f10 : Fld Z h5 r0 "com/example/chatterbench/chatterbench/data/IdIndex" "shift" "I" (.int (61 : Int32)) := F_shift.other W5 (Or.inl hxi)
    have f11 : Exa Z h5 r0 "com/example/chatterbench/chatterbench/data/IdIndex" := E_r0.wr W5
    have N5 := Fr.snoc X5 N1 g_ia
    have K5 := K0.wr W5 (Or.inl (List.mem_of_getElem? (i := 1) rfl))
    have Z5 : n0 ≤ h5.size := Nat.le_trans Z0 (Keep.of_wr W5).1
    refine Go.stp (fun t_ k_ => st5 t_ k_) ?_
    show Go p.tables e below G (T5.setTop (mkF m 38 #[rv r0, lv q1, sd, iv p2, iv (own_it (own_hm8 q1) ((8 : Int32) - (1 : Int32)) t), iv (1 : Int32)] []))
    refine Go.stp (fun t_ k_ => XS.aloadN X5.here hx rfl (hb hby d6_38) rfl rfl k_) ?_
    show Go p.tables e below G (T5.setTop (mkF m 39 #[rv r0, lv q1, sd, iv p2, iv (own_it (own_hm8 q1) ((8 : Int32) - (1 : Int32)) t), iv (1 : Int32)] [(.ref r0)]))
    obtain ⟨T12, X12, e12, st12⟩ := getF X5 hx hZ hown (host := "") (Or.inl (hw _ (List.mem_of_getElem? (i := 25) rfl))) Via.refl e5 f7 (g := (mkF m 39 #[rv r0, lv q1, sd, iv p2, iv (own_it (own_hm8 q1) ((8 : Int32) - (1 : Int32)) t), iv (1 : Int32)] [(.ref r0)])) rfl rfl (hb hby d6_39)
    refine Go.stp (fun t_ k_ => st12 t_ k_) ?_
    show Go p.tables e below G (T12.setTop (mkF m 42 #[rv r0, lv q1, sd, iv p2, iv (own_it (own_hm8 q1) ((8 : Int32) - (1 : Int32)) t), iv (1 : Int32)] [(.ref ra)]))
    refine Go.stp (fun t_ k_ => XS.iload X12.here hx rfl (hb hby d6_42) rfl k_) ?_
    show Go p.tables e below G (T12.setTop (mkF m 44 #[rv r0, lv q1, sd, iv p2, iv (own_it (own_hm8 q1) ((8 : Int32) - (1 : Int32)) t), iv (1 : Int32)] [(.int (own_it (own_hm8 q1) ((8 : Int32) - (1 : Int32)) t)), (.ref ra)]))
    refine Go.stp (fun t_ k_ => XS.iloadN X12.here hx rfl (hb hby d6_44) rfl k_) ?_
    show Go p.tables e below G (T12.setTop (mkF m 45 #[rv r0, lv q1, sd, iv p2, iv (own_it (own_hm8 q1) ((8 : Int32) - (1 : Int32)) t), iv (1 : Int32)] [(.int p2), (.int (own_it (own_hm8 q1) ((8 : Int32) - (1 : Int32)) t)), (.ref ra)]))
    have ib13 : 0 ≤ ((own_it (own_hm8 q1) ((8 : Int32) - (1 : Int32)) t)).toInt ∧ ((own_it (own_hm8 q1) ((8 : Int32) - (1 : Int32)) t)).toInt < ((8 : Nat) : Int) := (own_tb8 q1 t)
    obtain ⟨cl13, Ar13, Sz13, -, -⟩ := id f9
    obtain ⟨T13, h13, X13, e13, W13, st13⟩ := stI X12 hx hZ e12 Ar13 (j := (own_it (own_hm8 q1) ((8 : Int32) - (1 : Int32)) t)) (in_of Sz13 ib13) (g := (mkF m 45 #[rv r0, lv q1, sd, iv p2, iv (own_it (own_hm8 q1) ((8 : Int32) - (1 : Int32)) t), iv (1 : Int32)] [(.int p2), (.int (own_it (own_hm8 q1) ((8 : Int32) - (1 : Int32)) t)), (.ref ra)])) rfl rfl (hb hby d6_45)
    have f14 : Ia Z h13 ra .int 8 Value.int (upf R ((own_it (own_hm8 q1) ((8 : Int32) - (1 : Int32)) t)).toNatClampNeg p2) := f9.set W13 rfl
    have f15 : Fld Z h13 r0 "com/example/chatterbench/chatterbench/data/IdIndex" "rows" "[I" (.ref ra) := f7.other W13 (Or.inl hxr)
    have f16 : Fld Z h13 r0 "com/example/chatterbench/chatterbench/data/IdIndex" "ids" "[J" (.ref ia) := f8.other W13 (Or.inl hxr)
    have f17 : Fld Z h13 r0 "com/example/chatterbench/chatterbench/data/IdIndex" "shift" "I" (.int (61 : Int32)) := f10.other W13 (Or.inl hxr)
    have f18 : Exa Z h13 r0 "com/example/chatterbench/chatterbench/data/IdIndex" := f11.wr W13
    have f19 : Ia Z h13 ia .long 8 Value.long (upf I ((own_it (own_hm8 q1) ((8 : Int32) - (1 : Int32)) t)).toNatClampNeg q1) := f6.other W13 (Ne.symm hri)
    have N13 := Fr.snoc X13 N5 g_ra
    have K13 := K5.wr W13 (Or.inl (List.mem_of_getElem? (i := 0) rfl))
    have Z13 : n0 ≤ h13.size := Nat.le_trans Z5 (Keep.of_wr W13).1
    refine Go.stp (fun t_ k_ => st13 t_ k_) ?_
    show Go p.tables e below G (T13.setTop (mkF m 46 #[rv r0, lv q1, sd, iv p2, iv (own_it (own_hm8 q1) ((8 : Int32) - (1 : Int32)) t), iv (1 : Int32)] []))
    refine Go.stp (fun t_ k_ => XS.iload X13.here hx rfl (hb hby d6_46) rfl k_) ?_
    show Go p.tables e below G (T13.setTop (mkF m 48 #[rv r0, lv q1, sd, iv p2, iv (own_it (own_hm8 q1) ((8 : Int32) - (1 : Int32)) t), iv (1 : Int32)] [(.int (1 : Int32))]))
    obtain ⟨fs, hr, hrun, hended, hW, hsame⟩ := X13.leave (v := some (.int (1 : Int32))) (fun h => by rw [Bd.returns] at h; cases h)
    refine ⟨_, _, retN X13 hx (t := .boolean) Bd.returns (by simp) (hb hby d6_48) hr, hrun, hended, hG _ _ _ ?_ ⟨⟨_, rfl⟩, hW, hsame.mono (by decide) (by decide)⟩⟩
    show Q6_8 Z r0 q1 p2 ra ia R I mp F h0 n0 _ T13.heap _
    rw [e13]
    unfold Q6_8
    have hm' : mp q1 = (-1 : Int32) := hm.symm.trans hc15
    rw [if_pos hm', if_pos hm']
    exact ⟨rfl, N13, K13, _, _, _, f14, f19, rep_add hrep own_Pl8 own_Pi8 hF hp hs hc15 ht hm', Nat.le_refl _⟩
  · refine Go.stp (fun t_ k_ => XS.icmpYes X2.here hx rfl (pc0 := 15) (pc' := 22) rfl (hb hby d6_15) rfl (feq hc15).2 (by decide) (by decide) k_) ?_
    show Go p.tables e below G (T2.setTop (mkF m 22 #[rv r0, lv q1, sd, iv p2, iv (own_it (own_hm8 q1) ((8 : Int32) - (1 : Int32)) t), un] []))
    refine Go.stp (fun t_ k_ => XS.iconst X2.here hx rfl (hb hby d6_22) k_) ?_
    show Go p.tables e below G (T2.setTop (mkF m 23 #[rv r0, lv q1, sd, iv p2, iv (own_it (own_hm8 q1) ((8 : Int32) - (1 : Int32)) t), un] [(.int (0 : Int32))]))
    refine Go.stp (fun t_ k_ => XS.istore X2.here hx rfl (hb hby d6_23) rfl (l' := #[rv r0, lv q1, sd, iv p2, iv (own_it (own_hm8 q1) ((8 : Int32) - (1 : Int32)) t), iv (0 : Int32)]) rfl k_) ?_
    show Go p.tables e below G (T2.setTop (mkF m 25 #[rv r0, lv q1, sd, iv p2, iv (own_it (own_hm8 q1) ((8 : Int32) - (1 : Int32)) t), iv (0 : Int32)] []))
    refine Go.stp (fun t_ k_ => XS.iload X2.here hx rfl (hb hby d6_25) rfl k_) ?_
    show Go p.tables e below G (T2.setTop (mkF m 27 #[rv r0, lv q1, sd, iv p2, iv (own_it (own_hm8 q1) ((8 : Int32) - (1 : Int32)) t), iv (0 : Int32)] [(.int (0 : Int32))]))
    refine Go.stp (fun t_ k_ => XS.ifYes X2.here hx rfl (pc0 := 27) (pc' := 46) rfl (hb hby d6_27) rfl ((if0 _ _).trans (teq (by decide : (0 : Int32) = (0 : Int32))).1) (by decide) (by decide) k_) ?_
    show Go p.tables e below G (T2.setTop (mkF m 46 #[rv r0, lv q1, sd, iv p2, iv (own_it (own_hm8 q1) ((8 : Int32) - (1 : Int32)) t), iv (0 : Int32)] []))
    refine Go.stp (fun t_ k_ => XS.iload X2.here hx rfl (hb hby d6_46) rfl k_) ?_
    show Go p.tables e below G (T2.setTop (mkF m 48 #[rv r0, lv q1, sd, iv p2, iv (own_it (own_hm8 q1) ((8 : Int32) - (1 : Int32)) t), iv (0 : Int32)] [(.int (0 : Int32))]))
    obtain ⟨fs, hr, hrun, hended, hW, hsame⟩ := X2.leave (v := some (.int (0 : Int32))) (fun h => by rw [Bd.returns] at h; cases h)
    refine ⟨_, _, retN X2 hx (t := .boolean) Bd.returns (by simp) (hb hby d6_48) hr, hrun, hended, hG _ _ _ ?_ ⟨⟨_, rfl⟩, hW, hsame.mono (by decide) (by decide)⟩⟩
    show Q6_8 Z r0 q1 p2 ra ia R I mp F h0 n0 _ T2.heap _
    rw [e2]
    unfold Q6_8
    have hm' : ¬ (mp q1 = (-1 : Int32)) := fun q => hc15 (hm.trans q)
    rw [if_neg hm', if_neg hm']
    exact ⟨rfl, N1, K0, _, _, _, I_ra, I_ia, hrep, Nat.le_succ _⟩
theorem d8_0 : decode prog_10_method_4_code 0 = .ok (.aload_n 0, 1) := by decide +kernel
theorem d8_1 : decode prog_10_method_4_code 1 = .ok (.getfield 29, 3) := by decide +kernel
theorem d8_4 : decode prog_10_method_4_code 4 = .ok (.aload_n 0, 1) := by decide +kernel
theorem d8_5 : decode prog_10_method_4_code 5 = .ok (.lload_n 1, 1) := by decide +kernel
theorem d8_6 : decode prog_10_method_4_code 6 = .ok (.invokevirtual 74, 3) := by decide +kernel
theorem d8_9 : decode prog_10_method_4_code 9 = .ok (.iaload, 1) := by decide +kernel
theorem d8_10 : decode prog_10_method_4_code 10 = .ok (.ireturn, 1) := by decide +kernel
theorem ef_8_8 (m : MethodId) (r0 : Addr) (q1 : Int64) : entryFrame m #[(.ref r0), (.long q1)] 3 = mkF m 0 #[rv r0, lv q1, sd] [] := by first | (simp [entryFrame, mkF, argsToLocals, Value.category, iv, rv, lv, un, sd]; done) | rfl
def Q8_8 (Z : State) (r0 : Addr) (q1 : Int64) (ra : Addr) (ia : Addr) (R : Nat → Int32) (I : Nat → Int64) (mp : Int64 → Int32) (F : List Nat) (h0 : Heap) (n0 : Nat) (v : Option Value) (h : Heap) (L : List Loc) : Prop := v = some (.int (mp q1)) ∧ Fr n0 L ∧ h = h0
set_option maxRecDepth 65536 in
set_option maxHeartbeats 40000000 in
theorem rm8_8 (l : Launch) (Z : State) (a0 : Array Value) (hw : ∀ d ∈ tables_1, d.before a0 Z = true) (ws : List Jvm.Cond) (r0 : Addr) (q1 : Int64) (ra : Addr) (ia : Addr) (R : Nat → Int32) (I : Nat → Int64) (mp : Int64 → Int32) (F : List Nat) (h0 : Heap) (n0 : Nat) (Z0 : n0 ≤ h0.size) (F_rows : Fld Z h0 r0 "com/example/chatterbench/chatterbench/data/IdIndex" "rows" "[I" (.ref ra)) (F_ids : Fld Z h0 r0 "com/example/chatterbench/chatterbench/data/IdIndex" "ids" "[J" (.ref ia)) (I_ra : Ia Z h0 ra .int 8 Value.int R) (I_ia : Ia Z h0 ia .long 8 Value.long I) (F_shift : Fld Z h0 r0 "com/example/chatterbench/chatterbench/data/IdIndex" "shift" "I" (.int (61 : Int32))) (E_r0 : Exa Z h0 r0 "com/example/chatterbench/chatterbench/data/IdIndex") (hrep : Rep 8 own_P8 R I mp F) :
    MetFree l (⟨"com/example/chatterbench/chatterbench/data/IdIndex", "row", "(J)I"⟩ : MethodName) (head1 (Jvm.Cond.code (⟨"com/example/chatterbench/chatterbench/data/IdIndex", "row", "(J)I"⟩ : MethodName) prog_10_method_4_code 3 (some .int) :: ws) ({ frames := 1, cells := 0, slots := 0, locals := 16 } : Room)) (fun a U => a = #[(.ref r0), (.long q1)] ∧ Z.Warmed39 U.vm ∧ U.heap = h0) (fun _ _ _ _ _ => True) (fun _ U o U' => ∃ v L, o = .returned v ∧ Q8_8 Z r0 q1 ra ia R I mp F h0 n0 v U'.heap L ∧ FrameEnd U o U' L ({ frames := 1, cells := 0, slots := 0, locals := 16 } : Room).cells ({ frames := 1, cells := 0, slots := 0, locals := 16 } : Room).slots) := by
  refine MetFree.of_bodySF (plainFor_of_name pn_1) hisR ?_
  intro p e s m args below meth c s₁ Bd hml0 hP hK
  obtain ⟨rfl, hZ, hh⟩ := hP
  have hx := Bd.exec
  have hby := Bd.bytes
  have hml : c.maxLocals = 3 := hml0
  have hown : s.vm.findClass "com/example/chatterbench/chatterbench/data/IdIndex" = some m.cls := findClass_of_methodNamed Bd.named
  have hnm := (name_of_methodNamed Bd.named Bd.method).1
  have X0 : Stand p l e ({ frames := 1, cells := 0, slots := 0, locals := 16 } : Room) s m #[(.ref r0), (.long q1)] below meth c s₁ [] 0 0 := Stand.of_body Bd
  have e0 : s₁.heap = h0 := by rw [← hh, Bd.state]; rfl
  have N0 := Fr.nil n0
  suffices HH : ∀ G : Outcome → State → Prop, (∀ v L U', Q8_8 Z r0 q1 ra ia R I mp F h0 n0 v U'.heap L → FrameEnd s (.returned v) U' L ({ frames := 1, cells := 0, slots := 0, locals := 16 } : Room).cells ({ frames := 1, cells := 0, slots := 0, locals := 16 } : Room).slots → G (.returned v) U') → Go p.tables e below G (s₁.setTop (mkF m 0 #[rv r0, lv q1, sd] [])) by
    obtain ⟨s2, o, h1, h2, h3, h4⟩ := HH (fun o U' => ∃ v L, o = .returned v ∧ Q8_8 Z r0 q1 ra ia R I mp F h0 n0 v U'.heap L ∧ FrameEnd s o U' L ({ frames := 1, cells := 0, slots := 0, locals := 16 } : Room).cells ({ frames := 1, cells := 0, slots := 0, locals := 16 } : Room).slots) (fun v L U' q f => ⟨v, L, rfl, q, f⟩)
    exact ⟨s2, o, castTop (ef_8_8 m r0 q1) h1, h2, h3, h4⟩
  intro G hG
  obtain ⟨t, ht, hs, hm⟩ := hrep.2.1 q1
  show Go p.tables e below G (s₁.setTop (mkF m 0 #[rv r0, lv q1, sd] []))
  refine Go.stp (fun t_ k_ => XS.aloadN X0.here hx rfl (hb hby d8_0) rfl rfl k_) ?_
  show Go p.tables e below G (s₁.setTop (mkF m 1 #[rv r0, lv q1, sd] [(.ref r0)]))
  obtain ⟨T1, X1, e1, st1⟩ := getF X0 hx hZ hown (host := "") (Or.inl (hw _ (List.mem_of_getElem? (i := 25) rfl))) Via.refl e0 F_rows (g := (mkF m 1 #[rv r0, lv q1, sd] [(.ref r0)])) rfl rfl (hb hby d8_1)
  refine Go.stp (fun t_ k_ => st1 t_ k_) ?_
  show Go p.tables e below G (T1.setTop (mkF m 4 #[rv r0, lv q1, sd] [(.ref ra)]))
  refine Go.stp (fun t_ k_ => XS.aloadN X1.here hx rfl (hb hby d8_4) rfl rfl k_) ?_
  show Go p.tables e below G (T1.setTop (mkF m 5 #[rv r0, lv q1, sd] [(.ref r0), (.ref ra)]))
  refine Go.stp (fun t_ k_ => XS.lloadN X1.here hx rfl (hb hby d8_5) rfl k_) ?_
  show Go p.tables e below G (T1.setTop (mkF m 6 #[rv r0, lv q1, sd] [(.long q1), (.ref r0), (.ref ra)]))
  obtain ⟨cq2, qq2, qq2'⟩ := E_r0.cell
  obtain ⟨_, _, ⟨T2, L2, k2, n2⟩, -, X2, ⟨Lc2, hQ2, l2, y2, z2⟩, st2⟩ := X1.privateBack hx (y := (⟨"com/example/chatterbench/chatterbench/data/IdIndex", "slot", "(J)I"⟩ : MethodName)) hown (mvT hZ (hw _ (List.mem_of_getElem? (i := 38) rfl))) (mvT hZ (hw _ (List.mem_of_getElem? (i := 39) rfl))) (sel_priv (mvT hZ (hw _ (List.mem_of_getElem? (i := 2) rfl))) (Cond.privateMethod_at (mvP hZ (hw _ (List.mem_of_getElem? (i := 40) rfl)) (args := #[]))) (mvT hZ (hw _ (List.mem_of_getElem? (i := 39) rfl))) (by decide)) (Cond.privateMethod_at (mvP hZ (hw _ (List.mem_of_getElem? (i := 40) rfl)) (args := #[]))) (mvT hZ (hw _ (List.mem_of_getElem? (i := 41) rfl))) (by decide) (backOf (W := 1) (rm7_8 l Z a0 hw [] r0 q1 ra ia R I t h0 n0 Z0 F_rows F_ids I_ra I_ia F_shift hs) hZ (hw _ (List.mem_of_getElem? (i := 41) rfl)) (hw _ (List.mem_of_getElem? (i := 3) rfl)) (by decide) (by decide)) (g := (mkF m 6 #[rv r0, lv q1, sd] [(.long q1), (.ref r0), (.ref ra)])) rfl (by rw [hml]; rfl) (Steps.refl _) (a := r0) (by rw [e1]; exact qq2) qq2' (argsL := [(.long q1)]) (rest := [(.ref ra)]) (lenOf pd_3 rfl) rfl (by show 2 * 0 + _ ≤ _; exact Nat.le_of_eq rfl) (hb hby d8_6) (fun _ _ => ⟨rfl, e1, (by decide : 0 + 0 ≤ _), (by decide : 0 + 0 ≤ _)⟩)
  dsimp only [Pt.U, Pt.locs, Pt.cells, Pt.slots] at X2 l2 y2 z2 st2 hQ2
  subst l2 y2 z2
  obtain ⟨rfl, Nq2, e2⟩ := hQ2
  have N2 := Fr.app N0 Nq2
  refine Go.stp (fun t_ k_ => st2.trans k_) ?_
  show Go p.tables e below G (T2.setTop (mkF m 9 #[rv r0, lv q1, sd] [(.int (own_it (own_hm8 q1) ((8 : Int32) - (1 : Int32)) t)), (.ref ra)]))
  obtain ⟨cl3, Ar3, Sz3, -, Hs3⟩ := id I_ra
  have ib3 : 0 ≤ ((own_it (own_hm8 q1) ((8 : Int32) - (1 : Int32)) t)).toInt ∧ ((own_it (own_hm8 q1) ((8 : Int32) - (1 : Int32)) t)).toInt < ((8 : Nat) : Int) := (own_tb8 q1 t)
  refine Go.stp (fun t_ k_ => X2.iaload hx (j := (own_it (own_hm8 q1) ((8 : Int32) - (1 : Int32)) t)) (v := (Value.int (R ((own_it (own_hm8 q1) ((8 : Int32) - (1 : Int32)) t)).toNatClampNeg))) (by rw [e2]; exact Ar3.1) (State.isArrayOf_alike hZ.alike Ar3.2.1) Ar3.2.2 (in_of Sz3 ib3) (Hs3 _ (at_of ib3)) (g := (mkF m 9 #[rv r0, lv q1, sd] [(.int (own_it (own_hm8 q1) ((8 : Int32) - (1 : Int32)) t)), (.ref ra)])) rfl rfl (hb hby d8_9) t_ k_) ?_
  show Go p.tables e below G (T2.setTop (mkF m 10 #[rv r0, lv q1, sd] [(.int (R ((own_it (own_hm8 q1) ((8 : Int32) - (1 : Int32)) t)).toNatClampNeg))]))
  obtain ⟨fs, hr, hrun, hended, hW, hsame⟩ := X2.leave (v := some (.int (R ((own_it (own_hm8 q1) ((8 : Int32) - (1 : Int32)) t)).toNatClampNeg))) (fun h => by rw [Bd.returns] at h; cases h)
  refine ⟨_, _, retI X2 hx Bd.returns (hb hby d8_10) hr, hrun, hended, hG _ _ _ ?_ ⟨⟨_, rfl⟩, hW, hsame.mono (by decide) (by decide)⟩⟩
  show Q8_8 Z r0 q1 ra ia R I mp F h0 n0 _ T2.heap _
  rw [e2]
  exact ⟨by rw [← hm]; rfl, N2, rfl⟩
theorem ef_7_16 (m : MethodId) (r0 : Addr) (q1 : Int64) : entryFrame m #[(.ref r0), (.long q1)] 4 = mkF m 0 #[rv r0, lv q1, sd, un] [] := by first | (simp [entryFrame, mkF, argsToLocals, Value.category, iv, rv, lv, un, sd]; done) | rfl
def Q7_16 (Z : State) (r0 : Addr) (q1 : Int64) (ra : Addr) (ia : Addr) (R : Nat → Int32) (I : Nat → Int64) (t : Nat) (h0 : Heap) (n0 : Nat) (v : Option Value) (h : Heap) (L : List Loc) : Prop := v = some (.int (own_it (own_hm16 q1) ((16 : Int32) - (1 : Int32)) t)) ∧ Fr n0 L ∧ h = h0
set_option maxRecDepth 65536 in
set_option maxHeartbeats 40000000 in
theorem rm7_16 (l : Launch) (Z : State) (a0 : Array Value) (hw : ∀ d ∈ tables_1, d.before a0 Z = true) (ws : List Jvm.Cond) (r0 : Addr) (q1 : Int64) (ra : Addr) (ia : Addr) (R : Nat → Int32) (I : Nat → Int64) (t : Nat) (h0 : Heap) (n0 : Nat) (Z0 : n0 ≤ h0.size) (F_rows : Fld Z h0 r0 "com/example/chatterbench/chatterbench/data/IdIndex" "rows" "[I" (.ref ra)) (F_ids : Fld Z h0 r0 "com/example/chatterbench/chatterbench/data/IdIndex" "ids" "[J" (.ref ia)) (I_ra : Ia Z h0 ra .int 16 Value.int R) (I_ia : Ia Z h0 ia .long 16 Value.long I) (F_shift : Fld Z h0 r0 "com/example/chatterbench/chatterbench/data/IdIndex" "shift" "I" (.int (60 : Int32))) (hs : Stop R I (own_P16 q1) q1 t) :
    MetFree l (⟨"com/example/chatterbench/chatterbench/data/IdIndex", "slot", "(J)I"⟩ : MethodName) (head1 (Jvm.Cond.code (⟨"com/example/chatterbench/chatterbench/data/IdIndex", "slot", "(J)I"⟩ : MethodName) prog_10_method_7_code 4 (some .int) :: ws) ({ frames := 0, cells := 0, slots := 0, locals := 0 } : Room)) (fun a U => a = #[(.ref r0), (.long q1)] ∧ Z.Warmed39 U.vm ∧ U.heap = h0) (fun _ _ _ _ _ => True) (fun _ U o U' => ∃ v L, o = .returned v ∧ Q7_16 Z r0 q1 ra ia R I t h0 n0 v U'.heap L ∧ FrameEnd U o U' L ({ frames := 0, cells := 0, slots := 0, locals := 0 } : Room).cells ({ frames := 0, cells := 0, slots := 0, locals := 0 } : Room).slots) := by
  refine MetFree.of_bodySF (plainFor_of_name pn_1) hisR ?_
  intro p e s m args below meth c s₁ Bd hml0 hP hK
  obtain ⟨rfl, hZ, hh⟩ := hP
  have hx := Bd.exec
  have hby := Bd.bytes
  have hml : c.maxLocals = 4 := hml0
  have hown : s.vm.findClass "com/example/chatterbench/chatterbench/data/IdIndex" = some m.cls := findClass_of_methodNamed Bd.named
  have hnm := (name_of_methodNamed Bd.named Bd.method).1
  have X0 : Stand p l e ({ frames := 0, cells := 0, slots := 0, locals := 0 } : Room) s m #[(.ref r0), (.long q1)] below meth c s₁ [] 0 0 := Stand.of_body Bd
  have e0 : s₁.heap = h0 := by rw [← hh, Bd.state]; rfl
  have N0 := Fr.nil n0
  suffices HH : ∀ G : Outcome → State → Prop, (∀ v L U', Q7_16 Z r0 q1 ra ia R I t h0 n0 v U'.heap L → FrameEnd s (.returned v) U' L ({ frames := 0, cells := 0, slots := 0, locals := 0 } : Room).cells ({ frames := 0, cells := 0, slots := 0, locals := 0 } : Room).slots → G (.returned v) U') → Go p.tables e below G (s₁.setTop (mkF m 0 #[rv r0, lv q1, sd, un] [])) by
    obtain ⟨s2, o, h1, h2, h3, h4⟩ := HH (fun o U' => ∃ v L, o = .returned v ∧ Q7_16 Z r0 q1 ra ia R I t h0 n0 v U'.heap L ∧ FrameEnd s o U' L ({ frames := 0, cells := 0, slots := 0, locals := 0 } : Room).cells ({ frames := 0, cells := 0, slots := 0, locals := 0 } : Room).slots) (fun v L U' q f => ⟨v, L, rfl, q, f⟩)
    exact ⟨s2, o, castTop (ef_7_16 m r0 q1) h1, h2, h3, h4⟩
  intro G hG
  show Go p.tables e below G (s₁.setTop (mkF m 0 #[rv r0, lv q1, sd, un] []))
  refine Go.stp (fun t_ k_ => XS.lloadN X0.here hx rfl (hb hby d7_0) rfl k_) ?_
  show Go p.tables e below G (s₁.setTop (mkF m 1 #[rv r0, lv q1, sd, un] [(.long q1)]))
  refine Go.stp (fun t_ k_ => X0.ldc2Long hx hown (mvT hZ (hw _ (List.mem_of_getElem? (i := 42) rfl))) (g := (mkF m 1 #[rv r0, lv q1, sd, un] [(.long q1)])) rfl (hb hby d7_1) t_ k_) ?_
  show Go p.tables e below G (s₁.setTop (mkF m 4 #[rv r0, lv q1, sd, un] [(.long (-7046029254386353131 : Int64)), (.long q1)]))
  refine Go.stp (fun t_ k_ => XS.lmul X0.here hx rfl (hb hby d7_4) rfl k_) ?_
  show Go p.tables e below G (s₁.setTop (mkF m 5 #[rv r0, lv q1, sd, un] [(.long (q1 * (-7046029254386353131 : Int64)))]))
  refine Go.stp (fun t_ k_ => XS.aloadN X0.here hx rfl (hb hby d7_5) rfl rfl k_) ?_
  show Go p.tables e below G (s₁.setTop (mkF m 6 #[rv r0, lv q1, sd, un] [(.ref r0), (.long (q1 * (-7046029254386353131 : Int64)))]))
  obtain ⟨T1, X1, e1, st1⟩ := getF X0 hx hZ hown (host := "") (Or.inl (hw _ (List.mem_of_getElem? (i := 31) rfl))) Via.refl e0 F_shift (g := (mkF m 6 #[rv r0, lv q1, sd, un] [(.ref r0), (.long (q1 * (-7046029254386353131 : Int64)))])) rfl rfl (hb hby d7_6)
  refine Go.stp (fun t_ k_ => st1 t_ k_) ?_
  show Go p.tables e below G (T1.setTop (mkF m 9 #[rv r0, lv q1, sd, un] [(.int (60 : Int32)), (.long (q1 * (-7046029254386353131 : Int64)))]))
  refine Go.stp (fun t_ k_ => XS.lushr X1.here hx rfl (hb hby d7_9) rfl k_) ?_
  show Go p.tables e below G (T1.setTop (mkF m 10 #[rv r0, lv q1, sd, un] [(.long (((q1 * (-7046029254386353131 : Int64)).toUInt64 >>> ((60 : Int32) &&& 0x3f).toInt64.toUInt64).toInt64))]))
  refine Go.stp (fun t_ k_ => XS.l2i X1.here hx rfl (hb hby d7_10) rfl k_) ?_
  show Go p.tables e below G (T1.setTop (mkF m 11 #[rv r0, lv q1, sd, un] [(.int ((((q1 * (-7046029254386353131 : Int64)).toUInt64 >>> ((60 : Int32) &&& 0x3f).toInt64.toUInt64).toInt64).toInt32))]))
  refine Go.stp (fun t_ k_ => XS.istoreN X1.here hx rfl (hb hby d7_11) rfl (l' := #[rv r0, lv q1, sd, iv ((((q1 * (-7046029254386353131 : Int64)).toUInt64 >>> ((60 : Int32) &&& 0x3f).toInt64.toUInt64).toInt64).toInt32)]) rfl k_) ?_
  show Go p.tables e below G (T1.setTop (mkF m 12 #[rv r0, lv q1, sd, iv ((((q1 * (-7046029254386353131 : Int64)).toUInt64 >>> ((60 : Int32) &&& 0x3f).toInt64.toUInt64).toInt64).toInt32)] []))
  show Go p.tables e below G (T1.setTop (mkF m 12 #[.val (.ref r0), .val (.long q1), .second, .val (.int (own_it (own_hm16 q1) ((16 : Int32) - (1 : Int32)) 0))] []))
  suffices LP : ∀ (k : Nat) (T : State) (locs : List Loc) (u : Nat), Stand p l e ({ frames := 0, cells := 0, slots := 0, locals := 0 } : Room) s m #[(.ref r0), (.long q1)] below meth c T locs 0 0 → Fr n0 locs → T.heap = h0 → (u + k = t) → Go p.tables e below G (T.setTop (mkF m 12 #[rv r0, lv q1, sd, iv (own_it (own_hm16 q1) ((16 : Int32) - (1 : Int32)) u)] [])) from LP (t) _ _ (0) X1 N0 e1 (by omega)
  intro k
  induction k with
  | zero =>
    intro T locs u X N E hu
    obtain rfl : t = u := by omega
    show Go p.tables e below G (T.setTop (mkF m 12 #[rv r0, lv q1, sd, iv (own_it (own_hm16 q1) ((16 : Int32) - (1 : Int32)) t)] []))
    refine Go.stp (fun t_ k_ => XS.aloadN X.here hx rfl (hb hby d7_12) rfl rfl k_) ?_
    show Go p.tables e below G (T.setTop (mkF m 13 #[rv r0, lv q1, sd, iv (own_it (own_hm16 q1) ((16 : Int32) - (1 : Int32)) t)] [(.ref r0)]))
    obtain ⟨T2, X2, e2, st2⟩ := getF X hx hZ hown (host := "") (Or.inl (hw _ (List.mem_of_getElem? (i := 25) rfl))) Via.refl E F_rows (g := (mkF m 13 #[rv r0, lv q1, sd, iv (own_it (own_hm16 q1) ((16 : Int32) - (1 : Int32)) t)] [(.ref r0)])) rfl rfl (hb hby d7_13)
    refine Go.stp (fun t_ k_ => st2 t_ k_) ?_
    show Go p.tables e below G (T2.setTop (mkF m 16 #[rv r0, lv q1, sd, iv (own_it (own_hm16 q1) ((16 : Int32) - (1 : Int32)) t)] [(.ref ra)]))
    refine Go.stp (fun t_ k_ => XS.iloadN X2.here hx rfl (hb hby d7_16) rfl k_) ?_
    show Go p.tables e below G (T2.setTop (mkF m 17 #[rv r0, lv q1, sd, iv (own_it (own_hm16 q1) ((16 : Int32) - (1 : Int32)) t)] [(.int (own_it (own_hm16 q1) ((16 : Int32) - (1 : Int32)) t)), (.ref ra)]))
    obtain ⟨cl3, Ar3, Sz3, -, Hs3⟩ := id I_ra
    have ib3 : 0 ≤ ((own_it (own_hm16 q1) ((16 : Int32) - (1 : Int32)) t)).toInt ∧ ((own_it (own_hm16 q1) ((16 : Int32) - (1 : Int32)) t)).toInt < ((16 : Nat) : Int) := (own_tb16 q1 t)
    refine Go.stp (fun t_ k_ => X2.iaload hx (j := (own_it (own_hm16 q1) ((16 : Int32) - (1 : Int32)) t)) (v := (Value.int (R ((own_it (own_hm16 q1) ((16 : Int32) - (1 : Int32)) t)).toNatClampNeg))) (by rw [e2]; exact Ar3.1) (State.isArrayOf_alike hZ.alike Ar3.2.1) Ar3.2.2 (in_of Sz3 ib3) (Hs3 _ (at_of ib3)) (g := (mkF m 17 #[rv r0, lv q1, sd, iv (own_it (own_hm16 q1) ((16 : Int32) - (1 : Int32)) t)] [(.int (own_it (own_hm16 q1) ((16 : Int32) - (1 : Int32)) t)), (.ref ra)])) rfl rfl (hb hby d7_17) t_ k_) ?_
    show Go p.tables e below G (T2.setTop (mkF m 18 #[rv r0, lv q1, sd, iv (own_it (own_hm16 q1) ((16 : Int32) - (1 : Int32)) t)] [(.int (R ((own_it (own_hm16 q1) ((16 : Int32) - (1 : Int32)) t)).toNatClampNeg))]))
    refine Go.stp (fun t_ k_ => XS.iconst X2.here hx rfl (hb hby d7_18) k_) ?_
    show Go p.tables e below G (T2.setTop (mkF m 19 #[rv r0, lv q1, sd, iv (own_it (own_hm16 q1) ((16 : Int32) - (1 : Int32)) t)] [(.int (-1 : Int32)), (.int (R ((own_it (own_hm16 q1) ((16 : Int32) - (1 : Int32)) t)).toNatClampNeg))]))
    by_cases hc19 : (R ((own_it (own_hm16 q1) ((16 : Int32) - (1 : Int32)) t)).toNatClampNeg) = (-1 : Int32)
    · refine Go.stp (fun t_ k_ => XS.icmpYes X2.here hx rfl (pc0 := 19) (pc' := 48) rfl (hb hby d7_19) rfl (teq hc19).1 (by decide) (by decide) k_) ?_
      show Go p.tables e below G (T2.setTop (mkF m 48 #[rv r0, lv q1, sd, iv (own_it (own_hm16 q1) ((16 : Int32) - (1 : Int32)) t)] []))
      refine Go.stp (fun t_ k_ => XS.iloadN X2.here hx rfl (hb hby d7_48) rfl k_) ?_
      show Go p.tables e below G (T2.setTop (mkF m 49 #[rv r0, lv q1, sd, iv (own_it (own_hm16 q1) ((16 : Int32) - (1 : Int32)) t)] [(.int (own_it (own_hm16 q1) ((16 : Int32) - (1 : Int32)) t))]))
      obtain ⟨fs, hr, hrun, hended, hW, hsame⟩ := X2.leave (v := some (.int (own_it (own_hm16 q1) ((16 : Int32) - (1 : Int32)) t))) (fun h => by rw [Bd.returns] at h; cases h)
      refine ⟨_, _, retI X2 hx Bd.returns (hb hby d7_49) hr, hrun, hended, hG _ _ _ ?_ ⟨⟨_, rfl⟩, hW, hsame.mono (by decide) (by decide)⟩⟩
      show Q7_16 Z r0 q1 ra ia R I t h0 n0 _ T2.heap _
      rw [e2]
      exact ⟨rfl, N, rfl⟩
    · refine Go.stp (fun t_ k_ => XS.icmpNo X2.here hx rfl (hb hby d7_19) rfl (feq hc19).1 k_) ?_
      show Go p.tables e below G (T2.setTop (mkF m 22 #[rv r0, lv q1, sd, iv (own_it (own_hm16 q1) ((16 : Int32) - (1 : Int32)) t)] []))
      refine Go.stp (fun t_ k_ => XS.aloadN X2.here hx rfl (hb hby d7_22) rfl rfl k_) ?_
      show Go p.tables e below G (T2.setTop (mkF m 23 #[rv r0, lv q1, sd, iv (own_it (own_hm16 q1) ((16 : Int32) - (1 : Int32)) t)] [(.ref r0)]))
      obtain ⟨T4, X4, e4, st4⟩ := getF X2 hx hZ hown (host := "") (Or.inl (hw _ (List.mem_of_getElem? (i := 22) rfl))) Via.refl e2 F_ids (g := (mkF m 23 #[rv r0, lv q1, sd, iv (own_it (own_hm16 q1) ((16 : Int32) - (1 : Int32)) t)] [(.ref r0)])) rfl rfl (hb hby d7_23)
      refine Go.stp (fun t_ k_ => st4 t_ k_) ?_
      show Go p.tables e below G (T4.setTop (mkF m 26 #[rv r0, lv q1, sd, iv (own_it (own_hm16 q1) ((16 : Int32) - (1 : Int32)) t)] [(.ref ia)]))
      refine Go.stp (fun t_ k_ => XS.iloadN X4.here hx rfl (hb hby d7_26) rfl k_) ?_
      show Go p.tables e below G (T4.setTop (mkF m 27 #[rv r0, lv q1, sd, iv (own_it (own_hm16 q1) ((16 : Int32) - (1 : Int32)) t)] [(.int (own_it (own_hm16 q1) ((16 : Int32) - (1 : Int32)) t)), (.ref ia)]))
      obtain ⟨cl5, Ar5, Sz5, -, Hs5⟩ := id I_ia
      have ib5 : 0 ≤ ((own_it (own_hm16 q1) ((16 : Int32) - (1 : Int32)) t)).toInt ∧ ((own_it (own_hm16 q1) ((16 : Int32) - (1 : Int32)) t)).toInt < ((16 : Nat) : Int) := (own_tb16 q1 t)
      refine Go.stp (fun t_ k_ => X4.laload hx (j := (own_it (own_hm16 q1) ((16 : Int32) - (1 : Int32)) t)) (v := (Value.long (I ((own_it (own_hm16 q1) ((16 : Int32) - (1 : Int32)) t)).toNatClampNeg))) (by rw [e4]; exact Ar5.1) (State.isArrayOf_alike hZ.alike Ar5.2.1) Ar5.2.2 (in_of Sz5 ib5) (Hs5 _ (at_of ib5)) (g := (mkF m 27 #[rv r0, lv q1, sd, iv (own_it (own_hm16 q1) ((16 : Int32) - (1 : Int32)) t)] [(.int (own_it (own_hm16 q1) ((16 : Int32) - (1 : Int32)) t)), (.ref ia)])) rfl rfl (hb hby d7_27) t_ k_) ?_
      show Go p.tables e below G (T4.setTop (mkF m 28 #[rv r0, lv q1, sd, iv (own_it (own_hm16 q1) ((16 : Int32) - (1 : Int32)) t)] [(.long (I ((own_it (own_hm16 q1) ((16 : Int32) - (1 : Int32)) t)).toNatClampNeg))]))
      refine Go.stp (fun t_ k_ => XS.lloadN X4.here hx rfl (hb hby d7_28) rfl k_) ?_
      show Go p.tables e below G (T4.setTop (mkF m 29 #[rv r0, lv q1, sd, iv (own_it (own_hm16 q1) ((16 : Int32) - (1 : Int32)) t)] [(.long q1), (.long (I ((own_it (own_hm16 q1) ((16 : Int32) - (1 : Int32)) t)).toNatClampNeg))]))
      refine Go.stp (fun t_ k_ => XS.lcmp X4.here hx rfl (hb hby d7_29) rfl k_) ?_
      show Go p.tables e below G (T4.setTop (mkF m 30 #[rv r0, lv q1, sd, iv (own_it (own_hm16 q1) ((16 : Int32) - (1 : Int32)) t)] [(.int (lcmpW (I ((own_it (own_hm16 q1) ((16 : Int32) - (1 : Int32)) t)).toNatClampNeg) q1))]))
      have hd30 : (I ((own_it (own_hm16 q1) ((16 : Int32) - (1 : Int32)) t)).toNatClampNeg) = q1 := (hs.2.resolve_left hc19)
      refine Go.stp (fun t_ k_ => XS.ifYes X4.here hx rfl (pc0 := 30) (pc' := 48) rfl (hb hby d7_30) rfl ((if0 _ _).trans (teq ((lw_eq (I ((own_it (own_hm16 q1) ((16 : Int32) - (1 : Int32)) t)).toNatClampNeg) q1).mpr hd30)).1) (by decide) (by decide) k_) ?_
      show Go p.tables e below G (T4.setTop (mkF m 48 #[rv r0, lv q1, sd, iv (own_it (own_hm16 q1) ((16 : Int32) - (1 : Int32)) t)] []))
      refine Go.stp (fun t_ k_ => XS.iloadN X4.here hx rfl (hb hby d7_48) rfl k_) ?_
      show Go p.tables e below G (T4.setTop (mkF m 49 #[rv r0, lv q1, sd, iv (own_it (own_hm16 q1) ((16 : Int32) - (1 : Int32)) t)] [(.int (own_it (own_hm16 q1) ((16 : Int32) - (1 : Int32)) t))]))
      obtain ⟨fs, hr, hrun, hended, hW, hsame⟩ := X4.leave (v := some (.int (own_it (own_hm16 q1) ((16 : Int32) - (1 : Int32)) t))) (fun h => by rw [Bd.returns] at h; cases h)
      refine ⟨_, _, retI X4 hx Bd.returns (hb hby d7_49) hr, hrun, hended, hG _ _ _ ?_ ⟨⟨_, rfl⟩, hW, hsame.mono (by decide) (by decide)⟩⟩
      show Q7_16 Z r0 q1 ra ia R I t h0 n0 _ T4.heap _
      rw [e4]
      exact ⟨rfl, N, rfl⟩
  | succ k ih =>
    intro T locs u X N E hu
    have hsu := hs.1 u (by omega)
    show Go p.tables e below G (T.setTop (mkF m 12 #[rv r0, lv q1, sd, iv (own_it (own_hm16 q1) ((16 : Int32) - (1 : Int32)) u)] []))
    refine Go.stp (fun t_ k_ => XS.aloadN X.here hx rfl (hb hby d7_12) rfl rfl k_) ?_
    show Go p.tables e below G (T.setTop (mkF m 13 #[rv r0, lv q1, sd, iv (own_it (own_hm16 q1) ((16 : Int32) - (1 : Int32)) u)] [(.ref r0)]))
    obtain ⟨T6, X6, e6, st6⟩ := getF X hx hZ hown (host := "") (Or.inl (hw _ (List.mem_of_getElem? (i := 25) rfl))) Via.refl E F_rows (g := (mkF m 13 #[rv r0, lv q1, sd, iv (own_it (own_hm16 q1) ((16 : Int32) - (1 : Int32)) u)] [(.ref r0)])) rfl rfl (hb hby d7_13)
    refine Go.stp (fun t_ k_ => st6 t_ k_) ?_
    show Go p.tables e below G (T6.setTop (mkF m 16 #[rv r0, lv q1, sd, iv (own_it (own_hm16 q1) ((16 : Int32) - (1 : Int32)) u)] [(.ref ra)]))
    refine Go.stp (fun t_ k_ => XS.iloadN X6.here hx rfl (hb hby d7_16) rfl k_) ?_
    show Go p.tables e below G (T6.setTop (mkF m 17 #[rv r0, lv q1, sd, iv (own_it (own_hm16 q1) ((16 : Int32) - (1 : Int32)) u)] [(.int (own_it (own_hm16 q1) ((16 : Int32) - (1 : Int32)) u)), (.ref ra)]))
    obtain ⟨cl7, Ar7, Sz7, -, Hs7⟩ := id I_ra
    have ib7 : 0 ≤ ((own_it (own_hm16 q1) ((16 : Int32) - (1 : Int32)) u)).toInt ∧ ((own_it (own_hm16 q1) ((16 : Int32) - (1 : Int32)) u)).toInt < ((16 : Nat) : Int) := (own_tb16 q1 u)
    refine Go.stp (fun t_ k_ => X6.iaload hx (j := (own_it (own_hm16 q1) ((16 : Int32) - (1 : Int32)) u)) (v := (Value.int (R ((own_it (own_hm16 q1) ((16 : Int32) - (1 : Int32)) u)).toNatClampNeg))) (by rw [e6]; exact Ar7.1) (State.isArrayOf_alike hZ.alike Ar7.2.1) Ar7.2.2 (in_of Sz7 ib7) (Hs7 _ (at_of ib7)) (g := (mkF m 17 #[rv r0, lv q1, sd, iv (own_it (own_hm16 q1) ((16 : Int32) - (1 : Int32)) u)] [(.int (own_it (own_hm16 q1) ((16 : Int32) - (1 : Int32)) u)), (.ref ra)])) rfl rfl (hb hby d7_17) t_ k_) ?_
    show Go p.tables e below G (T6.setTop (mkF m 18 #[rv r0, lv q1, sd, iv (own_it (own_hm16 q1) ((16 : Int32) - (1 : Int32)) u)] [(.int (R ((own_it (own_hm16 q1) ((16 : Int32) - (1 : Int32)) u)).toNatClampNeg))]))
    refine Go.stp (fun t_ k_ => XS.iconst X6.here hx rfl (hb hby d7_18) k_) ?_
    show Go p.tables e below G (T6.setTop (mkF m 19 #[rv r0, lv q1, sd, iv (own_it (own_hm16 q1) ((16 : Int32) - (1 : Int32)) u)] [(.int (-1 : Int32)), (.int (R ((own_it (own_hm16 q1) ((16 : Int32) - (1 : Int32)) u)).toNatClampNeg))]))
    have hd19 : ¬ ((R ((own_it (own_hm16 q1) ((16 : Int32) - (1 : Int32)) u)).toNatClampNeg) = (-1 : Int32)) := hsu.1
    refine Go.stp (fun t_ k_ => XS.icmpNo X6.here hx rfl (hb hby d7_19) rfl (feq hd19).1 k_) ?_
    show Go p.tables e below G (T6.setTop (mkF m 22 #[rv r0, lv q1, sd, iv (own_it (own_hm16 q1) ((16 : Int32) - (1 : Int32)) u)] []))
    refine Go.stp (fun t_ k_ => XS.aloadN X6.here hx rfl (hb hby d7_22) rfl rfl k_) ?_
    show Go p.tables e below G (T6.setTop (mkF m 23 #[rv r0, lv q1, sd, iv (own_it (own_hm16 q1) ((16 : Int32) - (1 : Int32)) u)] [(.ref r0)]))
    obtain ⟨T8, X8, e8, st8⟩ := getF X6 hx hZ hown (host := "") (Or.inl (hw _ (List.mem_of_getElem? (i := 22) rfl))) Via.refl e6 F_ids (g := (mkF m 23 #[rv r0, lv q1, sd, iv (own_it (own_hm16 q1) ((16 : Int32) - (1 : Int32)) u)] [(.ref r0)])) rfl rfl (hb hby d7_23)
    refine Go.stp (fun t_ k_ => st8 t_ k_) ?_
    show Go p.tables e below G (T8.setTop (mkF m 26 #[rv r0, lv q1, sd, iv (own_it (own_hm16 q1) ((16 : Int32) - (1 : Int32)) u)] [(.ref ia)]))
    refine Go.stp (fun t_ k_ => XS.iloadN X8.here hx rfl (hb hby d7_26) rfl k_) ?_
    show Go p.tables e below G (T8.setTop (mkF m 27 #[rv r0, lv q1, sd, iv (own_it (own_hm16 q1) ((16 : Int32) - (1 : Int32)) u)] [(.int (own_it (own_hm16 q1) ((16 : Int32) - (1 : Int32)) u)), (.ref ia)]))
    obtain ⟨cl9, Ar9, Sz9, -, Hs9⟩ := id I_ia
    have ib9 : 0 ≤ ((own_it (own_hm16 q1) ((16 : Int32) - (1 : Int32)) u)).toInt ∧ ((own_it (own_hm16 q1) ((16 : Int32) - (1 : Int32)) u)).toInt < ((16 : Nat) : Int) := (own_tb16 q1 u)
    refine Go.stp (fun t_ k_ => X8.laload hx (j := (own_it (own_hm16 q1) ((16 : Int32) - (1 : Int32)) u)) (v := (Value.long (I ((own_it (own_hm16 q1) ((16 : Int32) - (1 : Int32)) u)).toNatClampNeg))) (by rw [e8]; exact Ar9.1) (State.isArrayOf_alike hZ.alike Ar9.2.1) Ar9.2.2 (in_of Sz9 ib9) (Hs9 _ (at_of ib9)) (g := (mkF m 27 #[rv r0, lv q1, sd, iv (own_it (own_hm16 q1) ((16 : Int32) - (1 : Int32)) u)] [(.int (own_it (own_hm16 q1) ((16 : Int32) - (1 : Int32)) u)), (.ref ia)])) rfl rfl (hb hby d7_27) t_ k_) ?_
    show Go p.tables e below G (T8.setTop (mkF m 28 #[rv r0, lv q1, sd, iv (own_it (own_hm16 q1) ((16 : Int32) - (1 : Int32)) u)] [(.long (I ((own_it (own_hm16 q1) ((16 : Int32) - (1 : Int32)) u)).toNatClampNeg))]))
    refine Go.stp (fun t_ k_ => XS.lloadN X8.here hx rfl (hb hby d7_28) rfl k_) ?_
    show Go p.tables e below G (T8.setTop (mkF m 29 #[rv r0, lv q1, sd, iv (own_it (own_hm16 q1) ((16 : Int32) - (1 : Int32)) u)] [(.long q1), (.long (I ((own_it (own_hm16 q1) ((16 : Int32) - (1 : Int32)) u)).toNatClampNeg))]))
    refine Go.stp (fun t_ k_ => XS.lcmp X8.here hx rfl (hb hby d7_29) rfl k_) ?_
    show Go p.tables e below G (T8.setTop (mkF m 30 #[rv r0, lv q1, sd, iv (own_it (own_hm16 q1) ((16 : Int32) - (1 : Int32)) u)] [(.int (lcmpW (I ((own_it (own_hm16 q1) ((16 : Int32) - (1 : Int32)) u)).toNatClampNeg) q1))]))
    have hd30 : ¬ ((I ((own_it (own_hm16 q1) ((16 : Int32) - (1 : Int32)) u)).toNatClampNeg) = q1) := hsu.2
    refine Go.stp (fun t_ k_ => XS.ifNo X8.here hx rfl (hb hby d7_30) rfl ((if0 _ _).trans (feq (fun q => hd30 ((lw_eq (I ((own_it (own_hm16 q1) ((16 : Int32) - (1 : Int32)) u)).toNatClampNeg) q1).mp q))).1) k_) ?_
    show Go p.tables e below G (T8.setTop (mkF m 33 #[rv r0, lv q1, sd, iv (own_it (own_hm16 q1) ((16 : Int32) - (1 : Int32)) u)] []))
    refine Go.stp (fun t_ k_ => XS.iloadN X8.here hx rfl (hb hby d7_33) rfl k_) ?_
    show Go p.tables e below G (T8.setTop (mkF m 34 #[rv r0, lv q1, sd, iv (own_it (own_hm16 q1) ((16 : Int32) - (1 : Int32)) u)] [(.int (own_it (own_hm16 q1) ((16 : Int32) - (1 : Int32)) u))]))
    refine Go.stp (fun t_ k_ => XS.iconst X8.here hx rfl (hb hby d7_34) k_) ?_
    show Go p.tables e below G (T8.setTop (mkF m 35 #[rv r0, lv q1, sd, iv (own_it (own_hm16 q1) ((16 : Int32) - (1 : Int32)) u)] [(.int (1 : Int32)), (.int (own_it (own_hm16 q1) ((16 : Int32) - (1 : Int32)) u))]))
    refine Go.stp (fun t_ k_ => XS.iadd X8.here hx rfl (hb hby d7_35) rfl k_) ?_
    show Go p.tables e below G (T8.setTop (mkF m 36 #[rv r0, lv q1, sd, iv (own_it (own_hm16 q1) ((16 : Int32) - (1 : Int32)) u)] [(.int ((own_it (own_hm16 q1) ((16 : Int32) - (1 : Int32)) u) + (1 : Int32)))]))
    refine Go.stp (fun t_ k_ => XS.aloadN X8.here hx rfl (hb hby d7_36) rfl rfl k_) ?_
    show Go p.tables e below G (T8.setTop (mkF m 37 #[rv r0, lv q1, sd, iv (own_it (own_hm16 q1) ((16 : Int32) - (1 : Int32)) u)] [(.ref r0), (.int ((own_it (own_hm16 q1) ((16 : Int32) - (1 : Int32)) u) + (1 : Int32)))]))
    obtain ⟨T10, X10, e10, st10⟩ := getF X8 hx hZ hown (host := "") (Or.inl (hw _ (List.mem_of_getElem? (i := 25) rfl))) Via.refl e8 F_rows (g := (mkF m 37 #[rv r0, lv q1, sd, iv (own_it (own_hm16 q1) ((16 : Int32) - (1 : Int32)) u)] [(.ref r0), (.int ((own_it (own_hm16 q1) ((16 : Int32) - (1 : Int32)) u) + (1 : Int32)))])) rfl rfl (hb hby d7_37)
    refine Go.stp (fun t_ k_ => st10 t_ k_) ?_
    show Go p.tables e below G (T10.setTop (mkF m 40 #[rv r0, lv q1, sd, iv (own_it (own_hm16 q1) ((16 : Int32) - (1 : Int32)) u)] [(.ref ra), (.int ((own_it (own_hm16 q1) ((16 : Int32) - (1 : Int32)) u) + (1 : Int32)))]))
    obtain ⟨cl11, Ar11, Sz11, -, -⟩ := id I_ra
    refine Go.stp (fun t_ k_ => X10.arraylength hx (by rw [e10]; exact Ar11.1) (State.isArrayOf_alike hZ.alike Ar11.2.1) (g := (mkF m 40 #[rv r0, lv q1, sd, iv (own_it (own_hm16 q1) ((16 : Int32) - (1 : Int32)) u)] [(.ref ra), (.int ((own_it (own_hm16 q1) ((16 : Int32) - (1 : Int32)) u) + (1 : Int32)))])) rfl rfl (hb hby d7_40) t_ k_) ?_
    rw [Sz11]
    show Go p.tables e below G (T10.setTop (mkF m 41 #[rv r0, lv q1, sd, iv (own_it (own_hm16 q1) ((16 : Int32) - (1 : Int32)) u)] [(.int (16 : Int32)), (.int ((own_it (own_hm16 q1) ((16 : Int32) - (1 : Int32)) u) + (1 : Int32)))]))
    refine Go.stp (fun t_ k_ => XS.iconst X10.here hx rfl (hb hby d7_41) k_) ?_
    show Go p.tables e below G (T10.setTop (mkF m 42 #[rv r0, lv q1, sd, iv (own_it (own_hm16 q1) ((16 : Int32) - (1 : Int32)) u)] [(.int (1 : Int32)), (.int (16 : Int32)), (.int ((own_it (own_hm16 q1) ((16 : Int32) - (1 : Int32)) u) + (1 : Int32)))]))
    refine Go.stp (fun t_ k_ => XS.isub X10.here hx rfl (hb hby d7_42) rfl k_) ?_
    show Go p.tables e below G (T10.setTop (mkF m 43 #[rv r0, lv q1, sd, iv (own_it (own_hm16 q1) ((16 : Int32) - (1 : Int32)) u)] [(.int ((16 : Int32) - (1 : Int32))), (.int ((own_it (own_hm16 q1) ((16 : Int32) - (1 : Int32)) u) + (1 : Int32)))]))
    refine Go.stp (fun t_ k_ => XS.iand X10.here hx rfl (hb hby d7_43) rfl k_) ?_
    show Go p.tables e below G (T10.setTop (mkF m 44 #[rv r0, lv q1, sd, iv (own_it (own_hm16 q1) ((16 : Int32) - (1 : Int32)) u)] [(.int (((own_it (own_hm16 q1) ((16 : Int32) - (1 : Int32)) u) + (1 : Int32)) &&& ((16 : Int32) - (1 : Int32))))]))
    refine Go.stp (fun t_ k_ => XS.istoreN X10.here hx rfl (hb hby d7_44) rfl (l' := #[rv r0, lv q1, sd, iv (((own_it (own_hm16 q1) ((16 : Int32) - (1 : Int32)) u) + (1 : Int32)) &&& ((16 : Int32) - (1 : Int32)))]) rfl k_) ?_
    show Go p.tables e below G (T10.setTop (mkF m 45 #[rv r0, lv q1, sd, iv (((own_it (own_hm16 q1) ((16 : Int32) - (1 : Int32)) u) + (1 : Int32)) &&& ((16 : Int32) - (1 : Int32)))] []))
    refine Go.stp (fun t_ k_ => XS.goto X10.here hx rfl (pc0 := 45) (pc' := 12) rfl (hb hby d7_45) (by decide) (by decide) k_) ?_
    show Go p.tables e below G (T10.setTop (mkF m 12 #[rv r0, lv q1, sd, iv (((own_it (own_hm16 q1) ((16 : Int32) - (1 : Int32)) u) + (1 : Int32)) &&& ((16 : Int32) - (1 : Int32)))] []))
    exact ih _ _ (u + 1) X10 N e10 (by omega)
theorem ef_6_16 (m : MethodId) (r0 : Addr) (q1 : Int64) (p2 : Int32) : entryFrame m #[(.ref r0), (.long q1), (.int p2)] 6 = mkF m 0 #[rv r0, lv q1, sd, iv p2, un, un] [] := by first | (simp [entryFrame, mkF, argsToLocals, Value.category, iv, rv, lv, un, sd]; done) | rfl
def Q6_16 (Z : State) (r0 : Addr) (q1 : Int64) (p2 : Int32) (ra : Addr) (ia : Addr) (R : Nat → Int32) (I : Nat → Int64) (mp : Int64 → Int32) (F : List Nat) (h0 : Heap) (n0 : Nat) (v : Option Value) (h : Heap) (L : List Loc) : Prop := v = some (.int (if mp q1 = (-1 : Int32) then (1 : Int32) else (0 : Int32))) ∧ Fr n0 L ∧ Keep h0 h [ra, ia] ∧ ∃ (R' : Nat → Int32) (I' : Nat → Int64) (F' : List Nat), Ia Z h ra .int 16 Value.int R' ∧ Ia Z h ia .long 16 Value.long I' ∧ Rep 16 own_P16 R' I' (if mp q1 = (-1 : Int32) then updm mp q1 p2 else mp) F' ∧ F'.length ≤ F.length + 1
set_option maxRecDepth 65536 in
set_option maxHeartbeats 40000000 in
theorem rm6_16 (l : Launch) (Z : State) (a0 : Array Value) (hw : ∀ d ∈ tables_1, d.before a0 Z = true) (ws : List Jvm.Cond) (r0 : Addr) (q1 : Int64) (p2 : Int32) (ra : Addr) (ia : Addr) (R : Nat → Int32) (I : Nat → Int64) (mp : Int64 → Int32) (F : List Nat) (h0 : Heap) (n0 : Nat) (Z0 : n0 ≤ h0.size) (F_rows : Fld Z h0 r0 "com/example/chatterbench/chatterbench/data/IdIndex" "rows" "[I" (.ref ra)) (F_ids : Fld Z h0 r0 "com/example/chatterbench/chatterbench/data/IdIndex" "ids" "[J" (.ref ia)) (I_ra : Ia Z h0 ra .int 16 Value.int R) (I_ia : Ia Z h0 ia .long 16 Value.long I) (F_shift : Fld Z h0 r0 "com/example/chatterbench/chatterbench/data/IdIndex" "shift" "I" (.int (60 : Int32))) (E_r0 : Exa Z h0 r0 "com/example/chatterbench/chatterbench/data/IdIndex") (g_ra : n0 ≤ ra) (g_ia : n0 ≤ ia) (hri : ra ≠ ia) (hxr : r0 ≠ ra) (hxi : r0 ≠ ia) (hrep : Rep 16 own_P16 R I mp F) (hF : F.length + 1 < 16) (hp : p2 ≠ (-1 : Int32)) :
    MetFree l (⟨"com/example/chatterbench/chatterbench/data/IdIndex", "add", "(JI)Z"⟩ : MethodName) (head1 (Jvm.Cond.code (⟨"com/example/chatterbench/chatterbench/data/IdIndex", "add", "(JI)Z"⟩ : MethodName) prog_10_method_3_code 6 (some .boolean) :: ws) ({ frames := 1, cells := 0, slots := 0, locals := 15 } : Room)) (fun a U => a = #[(.ref r0), (.long q1), (.int p2)] ∧ Z.Warmed39 U.vm ∧ U.heap = h0) (fun _ _ _ _ _ => True) (fun _ U o U' => ∃ v L, o = .returned v ∧ Q6_16 Z r0 q1 p2 ra ia R I mp F h0 n0 v U'.heap L ∧ FrameEnd U o U' L ({ frames := 1, cells := 0, slots := 0, locals := 15 } : Room).cells ({ frames := 1, cells := 0, slots := 0, locals := 15 } : Room).slots) := by
  refine MetFree.of_bodySF (plainFor_of_name pn_1) hisR ?_
  intro p e s m args below meth c s₁ Bd hml0 hP hK
  obtain ⟨rfl, hZ, hh⟩ := hP
  have hx := Bd.exec
  have hby := Bd.bytes
  have hml : c.maxLocals = 6 := hml0
  have hown : s.vm.findClass "com/example/chatterbench/chatterbench/data/IdIndex" = some m.cls := findClass_of_methodNamed Bd.named
  have hnm := (name_of_methodNamed Bd.named Bd.method).1
  have X0 : Stand p l e ({ frames := 1, cells := 0, slots := 0, locals := 15 } : Room) s m #[(.ref r0), (.long q1), (.int p2)] below meth c s₁ [] 0 0 := Stand.of_body Bd
  have e0 : s₁.heap = h0 := by rw [← hh, Bd.state]; rfl
  have N0 := Fr.nil n0
  suffices HH : ∀ G : Outcome → State → Prop, (∀ v L U', Q6_16 Z r0 q1 p2 ra ia R I mp F h0 n0 v U'.heap L → FrameEnd s (.returned v) U' L ({ frames := 1, cells := 0, slots := 0, locals := 15 } : Room).cells ({ frames := 1, cells := 0, slots := 0, locals := 15 } : Room).slots → G (.returned v) U') → Go p.tables e below G (s₁.setTop (mkF m 0 #[rv r0, lv q1, sd, iv p2, un, un] [])) by
    obtain ⟨s2, o, h1, h2, h3, h4⟩ := HH (fun o U' => ∃ v L, o = .returned v ∧ Q6_16 Z r0 q1 p2 ra ia R I mp F h0 n0 v U'.heap L ∧ FrameEnd s o U' L ({ frames := 1, cells := 0, slots := 0, locals := 15 } : Room).cells ({ frames := 1, cells := 0, slots := 0, locals := 15 } : Room).slots) (fun v L U' q f => ⟨v, L, rfl, q, f⟩)
    exact ⟨s2, o, castTop (ef_6_16 m r0 q1 p2) h1, h2, h3, h4⟩
  intro G hG
  have K0 := Keep.refl h0 [ra, ia]
  obtain ⟨t, ht, hs, hm⟩ := hrep.2.1 q1
  show Go p.tables e below G (s₁.setTop (mkF m 0 #[rv r0, lv q1, sd, iv p2, un, un] []))
  refine Go.stp (fun t_ k_ => XS.aloadN X0.here hx rfl (hb hby d6_0) rfl rfl k_) ?_
  show Go p.tables e below G (s₁.setTop (mkF m 1 #[rv r0, lv q1, sd, iv p2, un, un] [(.ref r0)]))
  refine Go.stp (fun t_ k_ => XS.lloadN X0.here hx rfl (hb hby d6_1) rfl k_) ?_
  show Go p.tables e below G (s₁.setTop (mkF m 2 #[rv r0, lv q1, sd, iv p2, un, un] [(.long q1), (.ref r0)]))
  obtain ⟨cq1, qq1, qq1'⟩ := E_r0.cell
  obtain ⟨_, _, ⟨T1, L1, k1, n1⟩, -, X1, ⟨Lc1, hQ1, l1, y1, z1⟩, st1⟩ := X0.privateBack hx (y := (⟨"com/example/chatterbench/chatterbench/data/IdIndex", "slot", "(J)I"⟩ : MethodName)) hown (mvT hZ (hw _ (List.mem_of_getElem? (i := 38) rfl))) (mvT hZ (hw _ (List.mem_of_getElem? (i := 39) rfl))) (sel_priv (mvT hZ (hw _ (List.mem_of_getElem? (i := 2) rfl))) (Cond.privateMethod_at (mvP hZ (hw _ (List.mem_of_getElem? (i := 40) rfl)) (args := #[]))) (mvT hZ (hw _ (List.mem_of_getElem? (i := 39) rfl))) (by decide)) (Cond.privateMethod_at (mvP hZ (hw _ (List.mem_of_getElem? (i := 40) rfl)) (args := #[]))) (mvT hZ (hw _ (List.mem_of_getElem? (i := 41) rfl))) (by decide) (backOf (W := 0) (rm7_16 l Z a0 hw [] r0 q1 ra ia R I t h0 n0 Z0 F_rows F_ids I_ra I_ia F_shift hs) hZ (hw _ (List.mem_of_getElem? (i := 41) rfl)) (hw _ (List.mem_of_getElem? (i := 3) rfl)) (by decide) (by decide)) (g := (mkF m 2 #[rv r0, lv q1, sd, iv p2, un, un] [(.long q1), (.ref r0)])) rfl (by rw [hml]; rfl) (Steps.refl _) (a := r0) (by rw [e0]; exact qq1) qq1' (argsL := [(.long q1)]) (rest := []) (lenOf pd_3 rfl) rfl (by show 2 * 0 + _ ≤ _; exact Nat.le_of_eq rfl) (hb hby d6_2) (fun _ _ => ⟨rfl, e0, (by decide : 0 + 0 ≤ _), (by decide : 0 + 0 ≤ _)⟩)
  dsimp only [Pt.U, Pt.locs, Pt.cells, Pt.slots] at X1 l1 y1 z1 st1 hQ1
  subst l1 y1 z1
  obtain ⟨rfl, Nq1, e1⟩ := hQ1
  have N1 := Fr.app N0 Nq1
  refine Go.stp (fun t_ k_ => st1.trans k_) ?_
  show Go p.tables e below G (T1.setTop (mkF m 5 #[rv r0, lv q1, sd, iv p2, un, un] [(.int (own_it (own_hm16 q1) ((16 : Int32) - (1 : Int32)) t))]))
  refine Go.stp (fun t_ k_ => XS.istore X1.here hx rfl (hb hby d6_5) rfl (l' := #[rv r0, lv q1, sd, iv p2, iv (own_it (own_hm16 q1) ((16 : Int32) - (1 : Int32)) t), un]) rfl k_) ?_
  show Go p.tables e below G (T1.setTop (mkF m 7 #[rv r0, lv q1, sd, iv p2, iv (own_it (own_hm16 q1) ((16 : Int32) - (1 : Int32)) t), un] []))
  refine Go.stp (fun t_ k_ => XS.aloadN X1.here hx rfl (hb hby d6_7) rfl rfl k_) ?_
  show Go p.tables e below G (T1.setTop (mkF m 8 #[rv r0, lv q1, sd, iv p2, iv (own_it (own_hm16 q1) ((16 : Int32) - (1 : Int32)) t), un] [(.ref r0)]))
  obtain ⟨T2, X2, e2, st2⟩ := getF X1 hx hZ hown (host := "") (Or.inl (hw _ (List.mem_of_getElem? (i := 25) rfl))) Via.refl e1 F_rows (g := (mkF m 8 #[rv r0, lv q1, sd, iv p2, iv (own_it (own_hm16 q1) ((16 : Int32) - (1 : Int32)) t), un] [(.ref r0)])) rfl rfl (hb hby d6_8)
  refine Go.stp (fun t_ k_ => st2 t_ k_) ?_
  show Go p.tables e below G (T2.setTop (mkF m 11 #[rv r0, lv q1, sd, iv p2, iv (own_it (own_hm16 q1) ((16 : Int32) - (1 : Int32)) t), un] [(.ref ra)]))
  refine Go.stp (fun t_ k_ => XS.iload X2.here hx rfl (hb hby d6_11) rfl k_) ?_
  show Go p.tables e below G (T2.setTop (mkF m 13 #[rv r0, lv q1, sd, iv p2, iv (own_it (own_hm16 q1) ((16 : Int32) - (1 : Int32)) t), un] [(.int (own_it (own_hm16 q1) ((16 : Int32) - (1 : Int32)) t)), (.ref ra)]))
  obtain ⟨cl3, Ar3, Sz3, -, Hs3⟩ := id I_ra
  have ib3 : 0 ≤ ((own_it (own_hm16 q1) ((16 : Int32) - (1 : Int32)) t)).toInt ∧ ((own_it (own_hm16 q1) ((16 : Int32) - (1 : Int32)) t)).toInt < ((16 : Nat) : Int) := (own_tb16 q1 t)
  refine Go.stp (fun t_ k_ => X2.iaload hx (j := (own_it (own_hm16 q1) ((16 : Int32) - (1 : Int32)) t)) (v := (Value.int (R ((own_it (own_hm16 q1) ((16 : Int32) - (1 : Int32)) t)).toNatClampNeg))) (by rw [e2]; exact Ar3.1) (State.isArrayOf_alike hZ.alike Ar3.2.1) Ar3.2.2 (in_of Sz3 ib3) (Hs3 _ (at_of ib3)) (g := (mkF m 13 #[rv r0, lv q1, sd, iv p2, iv (own_it (own_hm16 q1) ((16 : Int32) - (1 : Int32)) t), un] [(.int (own_it (own_hm16 q1) ((16 : Int32) - (1 : Int32)) t)), (.ref ra)])) rfl rfl (hb hby d6_13) t_ k_) ?_
  show Go p.tables e below G (T2.setTop (mkF m 14 #[rv r0, lv q1, sd, iv p2, iv (own_it (own_hm16 q1) ((16 : Int32) - (1 : Int32)) t), un] [(.int (R ((own_it (own_hm16 q1) ((16 : Int32) - (1 : Int32)) t)).toNatClampNeg))]))
  refine Go.stp (fun t_ k_ => XS.iconst X2.here hx rfl (hb hby d6_14) k_) ?_
  show Go p.tables e below G (T2.setTop (mkF m 15 #[rv r0, lv q1, sd, iv p2, iv (own_it (own_hm16 q1) ((16 : Int32) - (1 : Int32)) t), un] [(.int (-1 : Int32)), (.int (R ((own_it (own_hm16 q1) ((16 : Int32) - (1 : Int32)) t)).toNatClampNeg))]))
  by_cases hc15 : (R ((own_it (own_hm16 q1) ((16 : Int32) - (1 : Int32)) t)).toNatClampNeg) = (-1 : Int32)
  · refine Go.stp (fun t_ k_ => XS.icmpNo X2.here hx rfl (hb hby d6_15) rfl (teq hc15).2 k_) ?_
    show Go p.tables e below G (T2.setTop (mkF m 18 #[rv r0, lv q1, sd, iv p2, iv (own_it (own_hm16 q1) ((16 : Int32) - (1 : Int32)) t), un] []))
    refine Go.stp (fun t_ k_ => XS.iconst X2.here hx rfl (hb hby d6_18) k_) ?_
    show Go p.tables e below G (T2.setTop (mkF m 19 #[rv r0, lv q1, sd, iv p2, iv (own_it (own_hm16 q1) ((16 : Int32) - (1 : Int32)) t), un] [(.int (1 : Int32))]))
    refine Go.stp (fun t_ k_ => XS.goto X2.here hx rfl (pc0 := 19) (pc' := 23) rfl (hb hby d6_19) (by decide) (by decide) k_) ?_
    show Go p.tables e below G (T2.setTop (mkF m 23 #[rv r0, lv q1, sd, iv p2, iv (own_it (own_hm16 q1) ((16 : Int32) - (1 : Int32)) t), un] [(.int (1 : Int32))]))
    refine Go.stp (fun t_ k_ => XS.istore X2.here hx rfl (hb hby d6_23) rfl (l' := #[rv r0, lv q1, sd, iv p2, iv (own_it (own_hm16 q1) ((16 : Int32) - (1 : Int32)) t), iv (1 : Int32)]) rfl k_) ?_
    show Go p.tables e below G (T2.setTop (mkF m 25 #[rv r0, lv q1, sd, iv p2, iv (own_it (own_hm16 q1) ((16 : Int32) - (1 : Int32)) t), iv (1 : Int32)] []))
    refine Go.stp (fun t_ k_ => XS.iload X2.here hx rfl (hb hby d6_25) rfl k_) ?_
    show Go p.tables e below G (T2.setTop (mkF m 27 #[rv r0, lv q1, sd, iv p2, iv (own_it (own_hm16 q1) ((16 : Int32) - (1 : Int32)) t), iv (1 : Int32)] [(.int (1 : Int32))]))
    refine Go.stp (fun t_ k_ => XS.ifNo X2.here hx rfl (hb hby d6_27) rfl ((if0 _ _).trans (feq (by decide : ¬ ((1 : Int32) = (0 : Int32)))).1) k_) ?_
    show Go p.tables e below G (T2.setTop (mkF m 30 #[rv r0, lv q1, sd, iv p2, iv (own_it (own_hm16 q1) ((16 : Int32) - (1 : Int32)) t), iv (1 : Int32)] []))
    refine Go.stp (fun t_ k_ => XS.aloadN X2.here hx rfl (hb hby d6_30) rfl rfl k_) ?_
    show Go p.tables e below G (T2.setTop (mkF m 31 #[rv r0, lv q1, sd, iv p2, iv (own_it (own_hm16 q1) ((16 : Int32) - (1 : Int32)) t), iv (1 : Int32)] [(.ref r0)]))
    obtain ⟨T4, X4, e4, st4⟩ := getF X2 hx hZ hown (host := "") (Or.inl (hw _ (List.mem_of_getElem? (i := 22) rfl))) Via.refl e2 F_ids (g := (mkF m 31 #[rv r0, lv q1, sd, iv p2, iv (own_it (own_hm16 q1) ((16 : Int32) - (1 : Int32)) t), iv (1 : Int32)] [(.ref r0)])) rfl rfl (hb hby d6_31)
    refine Go.stp (fun t_ k_ => st4 t_ k_) ?_
    show Go p.tables e below G (T4.setTop (mkF m 34 #[rv r0, lv q1, sd, iv p2, iv (own_it (own_hm16 q1) ((16 : Int32) - (1 : Int32)) t), iv (1 : Int32)] [(.ref ia)]))
    refine Go.stp (fun t_ k_ => XS.iload X4.here hx rfl (hb hby d6_34) rfl k_) ?_
    show Go p.tables e below G (T4.setTop (mkF m 36 #[rv r0, lv q1, sd, iv p2, iv (own_it (own_hm16 q1) ((16 : Int32) - (1 : Int32)) t), iv (1 : Int32)] [(.int (own_it (own_hm16 q1) ((16 : Int32) - (1 : Int32)) t)), (.ref ia)]))
    refine Go.stp (fun t_ k_ => XS.lloadN X4.here hx rfl (hb hby d6_36) rfl k_) ?_
    show Go p.tables e below G (T4.setTop (mkF m 37 #[rv r0, lv q1, sd, iv p2, iv (own_it (own_hm16 q1) ((16 : Int32) - (1 : Int32)) t), iv (1 : Int32)] [(.long q1), (.int (own_it (own_hm16 q1) ((16 : Int32) - (1 : Int32)) t)), (.ref ia)]))
    have ib5 : 0 ≤ ((own_it (own_hm16 q1) ((16 : Int32) - (1 : Int32)) t)).toInt ∧ ((own_it (own_hm16 q1) ((16 : Int32) - (1 : Int32)) t)).toInt < ((16 : Nat) : Int) := (own_tb16 q1 t)
    obtain ⟨cl5, Ar5, Sz5, -, -⟩ := id I_ia
    obtain ⟨T5, h5, X5, e5, W5, st5⟩ := stJ X4 hx hZ e4 Ar5 (j := (own_it (own_hm16 q1) ((16 : Int32) - (1 : Int32)) t)) (in_of Sz5 ib5) (g := (mkF m 37 #[rv r0, lv q1, sd, iv p2, iv (own_it (own_hm16 q1) ((16 : Int32) - (1 : Int32)) t), iv (1 : Int32)] [(.long q1), (.int (own_it (own_hm16 q1) ((16 : Int32) - (1 : Int32)) t)), (.ref ia)])) rfl rfl (hb hby d6_37)
    have f6 : Ia Z h5 ia .long 16 Value.long (upf I ((own_it (own_hm16 q1) ((16 : Int32) - (1 : Int32)) t)).toNatClampNeg q1) := I_ia.set W5 rfl
    have f7 : Fld Z h5 r0 "com/example/chatterbench/chatterbench/data/IdIndex" "rows" "[I" (.ref ra) := F_rows.other W5 (Or.inl hxi)
    have f8 : Fld Z h5 r0 "com/example/chatterbench/chatterbench/data/IdIndex" "ids" "[J" (.ref ia) := F_ids.other W5 (Or.inl hxi)
    have f9 : Ia Z h5 ra .int 16 Value.int R := I_ra.other W5 hri
    have f10 : Fld Z h5 r0 "com/example/chatterbench/chatterbench/data/IdIndex" "shift" "I" (.int (60 : Int32)) := F_shift.other W5 (Or.inl hxi)
    have f11 : Exa Z h5 r0 "com/example/chatterbench/chatterbench/data/IdIndex" := E_r0.wr W5
    have N5 := Fr.snoc X5 N1 g_ia
    have K5 := K0.wr W5 (Or.inl (List.mem_of_getElem? (i := 1) rfl))
    have Z5 : n0 ≤ h5.size := Nat.le_trans Z0 (Keep.of_wr W5).1
    refine Go.stp (fun t_ k_ => st5 t_ k_) ?_
    show Go p.tables e below G (T5.setTop (mkF m 38 #[rv r0, lv q1, sd, iv p2, iv (own_it (own_hm16 q1) ((16 : Int32) - (1 : Int32)) t), iv (1 : Int32)] []))
    refine Go.stp (fun t_ k_ => XS.aloadN X5.here hx rfl (hb hby d6_38) rfl rfl k_) ?_
    show Go p.tables e below G (T5.setTop (mkF m 39 #[rv r0, lv q1, sd, iv p2, iv (own_it (own_hm16 q1) ((16 : Int32) - (1 : Int32)) t), iv (1 : Int32)] [(.ref r0)]))
    obtain ⟨T12, X12, e12, st12⟩ := getF X5 hx hZ hown (host := "") (Or.inl (hw _ (List.mem_of_getElem? (i := 25) rfl))) Via.refl e5 f7 (g := (mkF m 39 #[rv r0, lv q1, sd, iv p2, iv (own_it (own_hm16 q1) ((16 : Int32) - (1 : Int32)) t), iv (1 : Int32)] [(.ref r0)])) rfl rfl (hb hby d6_39)
    refine Go.stp (fun t_ k_ => st12 t_ k_) ?_
    show Go p.tables e below G (T12.setTop (mkF m 42 #[rv r0, lv q1, sd, iv p2, iv (own_it (own_hm16 q1) ((16 : Int32) - (1 : Int32)) t), iv (1 : Int32)] [(.ref ra)]))
    refine Go.stp (fun t_ k_ => XS.iload X12.here hx rfl (hb hby d6_42) rfl k_) ?_
    show Go p.tables e below G (T12.setTop (mkF m 44 #[rv r0, lv q1, sd, iv p2, iv (own_it (own_hm16 q1) ((16 : Int32) - (1 : Int32)) t), iv (1 : Int32)] [(.int (own_it (own_hm16 q1) ((16 : Int32) - (1 : Int32)) t)), (.ref ra)]))
    refine Go.stp (fun t_ k_ => XS.iloadN X12.here hx rfl (hb hby d6_44) rfl k_) ?_
    show Go p.tables e below G (T12.setTop (mkF m 45 #[rv r0, lv q1, sd, iv p2, iv (own_it (own_hm16 q1) ((16 : Int32) - (1 : Int32)) t), iv (1 : Int32)] [(.int p2), (.int (own_it (own_hm16 q1) ((16 : Int32) - (1 : Int32)) t)), (.ref ra)]))
    have ib13 : 0 ≤ ((own_it (own_hm16 q1) ((16 : Int32) - (1 : Int32)) t)).toInt ∧ ((own_it (own_hm16 q1) ((16 : Int32) - (1 : Int32)) t)).toInt < ((16 : Nat) : Int) := (own_tb16 q1 t)
    obtain ⟨cl13, Ar13, Sz13, -, -⟩ := id f9
    obtain ⟨T13, h13, X13, e13, W13, st13⟩ := stI X12 hx hZ e12 Ar13 (j := (own_it (own_hm16 q1) ((16 : Int32) - (1 : Int32)) t)) (in_of Sz13 ib13) (g := (mkF m 45 #[rv r0, lv q1, sd, iv p2, iv (own_it (own_hm16 q1) ((16 : Int32) - (1 : Int32)) t), iv (1 : Int32)] [(.int p2), (.int (own_it (own_hm16 q1) ((16 : Int32) - (1 : Int32)) t)), (.ref ra)])) rfl rfl (hb hby d6_45)
    have f14 : Ia Z h13 ra .int 16 Value.int (upf R ((own_it (own_hm16 q1) ((16 : Int32) - (1 : Int32)) t)).toNatClampNeg p2) := f9.set W13 rfl
    have f15 : Fld Z h13 r0 "com/example/chatterbench/chatterbench/data/IdIndex" "rows" "[I" (.ref ra) := f7.other W13 (Or.inl hxr)
    have f16 : Fld Z h13 r0 "com/example/chatterbench/chatterbench/data/IdIndex" "ids" "[J" (.ref ia) := f8.other W13 (Or.inl hxr)
    have f17 : Fld Z h13 r0 "com/example/chatterbench/chatterbench/data/IdIndex" "shift" "I" (.int (60 : Int32)) := f10.other W13 (Or.inl hxr)
    have f18 : Exa Z h13 r0 "com/example/chatterbench/chatterbench/data/IdIndex" := f11.wr W13
    have f19 : Ia Z h13 ia .long 16 Value.long (upf I ((own_it (own_hm16 q1) ((16 : Int32) - (1 : Int32)) t)).toNatClampNeg q1) := f6.other W13 (Ne.symm hri)
    have N13 := Fr.snoc X13 N5 g_ra
    have K13 := K5.wr W13 (Or.inl (List.mem_of_getElem? (i := 0) rfl))
    have Z13 : n0 ≤ h13.size := Nat.le_trans Z5 (Keep.of_wr W13).1
    refine Go.stp (fun t_ k_ => st13 t_ k_) ?_
    show Go p.tables e below G (T13.setTop (mkF m 46 #[rv r0, lv q1, sd, iv p2, iv (own_it (own_hm16 q1) ((16 : Int32) - (1 : Int32)) t), iv (1 : Int32)] []))
    refine Go.stp (fun t_ k_ => XS.iload X13.here hx rfl (hb hby d6_46) rfl k_) ?_
    show Go p.tables e below G (T13.setTop (mkF m 48 #[rv r0, lv q1, sd, iv p2, iv (own_it (own_hm16 q1) ((16 : Int32) - (1 : Int32)) t), iv (1 : Int32)] [(.int (1 : Int32))]))
    obtain ⟨fs, hr, hrun, hended, hW, hsame⟩ := X13.leave (v := some (.int (1 : Int32))) (fun h => by rw [Bd.returns] at h; cases h)
    refine ⟨_, _, retN X13 hx (t := .boolean) Bd.returns (by simp) (hb hby d6_48) hr, hrun, hended, hG _ _ _ ?_ ⟨⟨_, rfl⟩, hW, hsame.mono (by decide) (by decide)⟩⟩
    show Q6_16 Z r0 q1 p2 ra ia R I mp F h0 n0 _ T13.heap _
    rw [e13]
    unfold Q6_16
    have hm' : mp q1 = (-1 : Int32) := hm.symm.trans hc15
    rw [if_pos hm', if_pos hm']
    exact ⟨rfl, N13, K13, _, _, _, f14, f19, rep_add hrep own_Pl16 own_Pi16 hF hp hs hc15 ht hm', Nat.le_refl _⟩
  · refine Go.stp (fun t_ k_ => XS.icmpYes X2.here hx rfl (pc0 := 15) (pc' := 22) rfl (hb hby d6_15) rfl (feq hc15).2 (by decide) (by decide) k_) ?_
    show Go p.tables e below G (T2.setTop (mkF m 22 #[rv r0, lv q1, sd, iv p2, iv (own_it (own_hm16 q1) ((16 : Int32) - (1 : Int32)) t), un] []))
    refine Go.stp (fun t_ k_ => XS.iconst X2.here hx rfl (hb hby d6_22) k_) ?_
    show Go p.tables e below G (T2.setTop (mkF m 23 #[rv r0, lv q1, sd, iv p2, iv (own_it (own_hm16 q1) ((16 : Int32) - (1 : Int32)) t), un] [(.int (0 : Int32))]))
    refine Go.stp (fun t_ k_ => XS.istore X2.here hx rfl (hb hby d6_23) rfl (l' := #[rv r0, lv q1, sd, iv p2, iv (own_it (own_hm16 q1) ((16 : Int32) - (1 : Int32)) t), iv (0 : Int32)]) rfl k_) ?_
    show Go p.tables e below G (T2.setTop (mkF m 25 #[rv r0, lv q1, sd, iv p2, iv (own_it (own_hm16 q1) ((16 : Int32) - (1 : Int32)) t), iv (0 : Int32)] []))
    refine Go.stp (fun t_ k_ => XS.iload X2.here hx rfl (hb hby d6_25) rfl k_) ?_
    show Go p.tables e below G (T2.setTop (mkF m 27 #[rv r0, lv q1, sd, iv p2, iv (own_it (own_hm16 q1) ((16 : Int32) - (1 : Int32)) t), iv (0 : Int32)] [(.int (0 : Int32))]))
    refine Go.stp (fun t_ k_ => XS.ifYes X2.here hx rfl (pc0 := 27) (pc' := 46) rfl (hb hby d6_27) rfl ((if0 _ _).trans (teq (by decide : (0 : Int32) = (0 : Int32))).1) (by decide) (by decide) k_) ?_
    show Go p.tables e below G (T2.setTop (mkF m 46 #[rv r0, lv q1, sd, iv p2, iv (own_it (own_hm16 q1) ((16 : Int32) - (1 : Int32)) t), iv (0 : Int32)] []))
    refine Go.stp (fun t_ k_ => XS.iload X2.here hx rfl (hb hby d6_46) rfl k_) ?_
    show Go p.tables e below G (T2.setTop (mkF m 48 #[rv r0, lv q1, sd, iv p2, iv (own_it (own_hm16 q1) ((16 : Int32) - (1 : Int32)) t), iv (0 : Int32)] [(.int (0 : Int32))]))
    obtain ⟨fs, hr, hrun, hended, hW, hsame⟩ := X2.leave (v := some (.int (0 : Int32))) (fun h => by rw [Bd.returns] at h; cases h)
    refine ⟨_, _, retN X2 hx (t := .boolean) Bd.returns (by simp) (hb hby d6_48) hr, hrun, hended, hG _ _ _ ?_ ⟨⟨_, rfl⟩, hW, hsame.mono (by decide) (by decide)⟩⟩
    show Q6_16 Z r0 q1 p2 ra ia R I mp F h0 n0 _ T2.heap _
    rw [e2]
    unfold Q6_16
    have hm' : ¬ (mp q1 = (-1 : Int32)) := fun q => hc15 (hm.trans q)
    rw [if_neg hm', if_neg hm']
    exact ⟨rfl, N1, K0, _, _, _, I_ra, I_ia, hrep, Nat.le_succ _⟩
theorem ef_8_16 (m : MethodId) (r0 : Addr) (q1 : Int64) : entryFrame m #[(.ref r0), (.long q1)] 3 = mkF m 0 #[rv r0, lv q1, sd] [] := by first | (simp [entryFrame, mkF, argsToLocals, Value.category, iv, rv, lv, un, sd]; done) | rfl
def Q8_16 (Z : State) (r0 : Addr) (q1 : Int64) (ra : Addr) (ia : Addr) (R : Nat → Int32) (I : Nat → Int64) (mp : Int64 → Int32) (F : List Nat) (h0 : Heap) (n0 : Nat) (v : Option Value) (h : Heap) (L : List Loc) : Prop := v = some (.int (mp q1)) ∧ Fr n0 L ∧ h = h0
set_option maxRecDepth 65536 in
set_option maxHeartbeats 40000000 in
theorem rm8_16 (l : Launch) (Z : State) (a0 : Array Value) (hw : ∀ d ∈ tables_1, d.before a0 Z = true) (ws : List Jvm.Cond) (r0 : Addr) (q1 : Int64) (ra : Addr) (ia : Addr) (R : Nat → Int32) (I : Nat → Int64) (mp : Int64 → Int32) (F : List Nat) (h0 : Heap) (n0 : Nat) (Z0 : n0 ≤ h0.size) (F_rows : Fld Z h0 r0 "com/example/chatterbench/chatterbench/data/IdIndex" "rows" "[I" (.ref ra)) (F_ids : Fld Z h0 r0 "com/example/chatterbench/chatterbench/data/IdIndex" "ids" "[J" (.ref ia)) (I_ra : Ia Z h0 ra .int 16 Value.int R) (I_ia : Ia Z h0 ia .long 16 Value.long I) (F_shift : Fld Z h0 r0 "com/example/chatterbench/chatterbench/data/IdIndex" "shift" "I" (.int (60 : Int32))) (E_r0 : Exa Z h0 r0 "com/example/chatterbench/chatterbench/data/IdIndex") (hrep : Rep 16 own_P16 R I mp F) :
    MetFree l (⟨"com/example/chatterbench/chatterbench/data/IdIndex", "row", "(J)I"⟩ : MethodName) (head1 (Jvm.Cond.code (⟨"com/example/chatterbench/chatterbench/data/IdIndex", "row", "(J)I"⟩ : MethodName) prog_10_method_4_code 3 (some .int) :: ws) ({ frames := 1, cells := 0, slots := 0, locals := 16 } : Room)) (fun a U => a = #[(.ref r0), (.long q1)] ∧ Z.Warmed39 U.vm ∧ U.heap = h0) (fun _ _ _ _ _ => True) (fun _ U o U' => ∃ v L, o = .returned v ∧ Q8_16 Z r0 q1 ra ia R I mp F h0 n0 v U'.heap L ∧ FrameEnd U o U' L ({ frames := 1, cells := 0, slots := 0, locals := 16 } : Room).cells ({ frames := 1, cells := 0, slots := 0, locals := 16 } : Room).slots) := by
  refine MetFree.of_bodySF (plainFor_of_name pn_1) hisR ?_
  intro p e s m args below meth c s₁ Bd hml0 hP hK
  obtain ⟨rfl, hZ, hh⟩ := hP
  have hx := Bd.exec
  have hby := Bd.bytes
  have hml : c.maxLocals = 3 := hml0
  have hown : s.vm.findClass "com/example/chatterbench/chatterbench/data/IdIndex" = some m.cls := findClass_of_methodNamed Bd.named
  have hnm := (name_of_methodNamed Bd.named Bd.method).1
  have X0 : Stand p l e ({ frames := 1, cells := 0, slots := 0, locals := 16 } : Room) s m #[(.ref r0), (.long q1)] below meth c s₁ [] 0 0 := Stand.of_body Bd
  have e0 : s₁.heap = h0 := by rw [← hh, Bd.state]; rfl
  have N0 := Fr.nil n0
  suffices HH : ∀ G : Outcome → State → Prop, (∀ v L U', Q8_16 Z r0 q1 ra ia R I mp F h0 n0 v U'.heap L → FrameEnd s (.returned v) U' L ({ frames := 1, cells := 0, slots := 0, locals := 16 } : Room).cells ({ frames := 1, cells := 0, slots := 0, locals := 16 } : Room).slots → G (.returned v) U') → Go p.tables e below G (s₁.setTop (mkF m 0 #[rv r0, lv q1, sd] [])) by
    obtain ⟨s2, o, h1, h2, h3, h4⟩ := HH (fun o U' => ∃ v L, o = .returned v ∧ Q8_16 Z r0 q1 ra ia R I mp F h0 n0 v U'.heap L ∧ FrameEnd s o U' L ({ frames := 1, cells := 0, slots := 0, locals := 16 } : Room).cells ({ frames := 1, cells := 0, slots := 0, locals := 16 } : Room).slots) (fun v L U' q f => ⟨v, L, rfl, q, f⟩)
    exact ⟨s2, o, castTop (ef_8_16 m r0 q1) h1, h2, h3, h4⟩
  intro G hG
  obtain ⟨t, ht, hs, hm⟩ := hrep.2.1 q1
  show Go p.tables e below G (s₁.setTop (mkF m 0 #[rv r0, lv q1, sd] []))
  refine Go.stp (fun t_ k_ => XS.aloadN X0.here hx rfl (hb hby d8_0) rfl rfl k_) ?_
  show Go p.tables e below G (s₁.setTop (mkF m 1 #[rv r0, lv q1, sd] [(.ref r0)]))
  obtain ⟨T1, X1, e1, st1⟩ := getF X0 hx hZ hown (host := "") (Or.inl (hw _ (List.mem_of_getElem? (i := 25) rfl))) Via.refl e0 F_rows (g := (mkF m 1 #[rv r0, lv q1, sd] [(.ref r0)])) rfl rfl (hb hby d8_1)
  refine Go.stp (fun t_ k_ => st1 t_ k_) ?_
  show Go p.tables e below G (T1.setTop (mkF m 4 #[rv r0, lv q1, sd] [(.ref ra)]))
  refine Go.stp (fun t_ k_ => XS.aloadN X1.here hx rfl (hb hby d8_4) rfl rfl k_) ?_
  show Go p.tables e below G (T1.setTop (mkF m 5 #[rv r0, lv q1, sd] [(.ref r0), (.ref ra)]))
  refine Go.stp (fun t_ k_ => XS.lloadN X1.here hx rfl (hb hby d8_5) rfl k_) ?_
  show Go p.tables e below G (T1.setTop (mkF m 6 #[rv r0, lv q1, sd] [(.long q1), (.ref r0), (.ref ra)]))
  obtain ⟨cq2, qq2, qq2'⟩ := E_r0.cell
  obtain ⟨_, _, ⟨T2, L2, k2, n2⟩, -, X2, ⟨Lc2, hQ2, l2, y2, z2⟩, st2⟩ := X1.privateBack hx (y := (⟨"com/example/chatterbench/chatterbench/data/IdIndex", "slot", "(J)I"⟩ : MethodName)) hown (mvT hZ (hw _ (List.mem_of_getElem? (i := 38) rfl))) (mvT hZ (hw _ (List.mem_of_getElem? (i := 39) rfl))) (sel_priv (mvT hZ (hw _ (List.mem_of_getElem? (i := 2) rfl))) (Cond.privateMethod_at (mvP hZ (hw _ (List.mem_of_getElem? (i := 40) rfl)) (args := #[]))) (mvT hZ (hw _ (List.mem_of_getElem? (i := 39) rfl))) (by decide)) (Cond.privateMethod_at (mvP hZ (hw _ (List.mem_of_getElem? (i := 40) rfl)) (args := #[]))) (mvT hZ (hw _ (List.mem_of_getElem? (i := 41) rfl))) (by decide) (backOf (W := 1) (rm7_16 l Z a0 hw [] r0 q1 ra ia R I t h0 n0 Z0 F_rows F_ids I_ra I_ia F_shift hs) hZ (hw _ (List.mem_of_getElem? (i := 41) rfl)) (hw _ (List.mem_of_getElem? (i := 3) rfl)) (by decide) (by decide)) (g := (mkF m 6 #[rv r0, lv q1, sd] [(.long q1), (.ref r0), (.ref ra)])) rfl (by rw [hml]; rfl) (Steps.refl _) (a := r0) (by rw [e1]; exact qq2) qq2' (argsL := [(.long q1)]) (rest := [(.ref ra)]) (lenOf pd_3 rfl) rfl (by show 2 * 0 + _ ≤ _; exact Nat.le_of_eq rfl) (hb hby d8_6) (fun _ _ => ⟨rfl, e1, (by decide : 0 + 0 ≤ _), (by decide : 0 + 0 ≤ _)⟩)
  dsimp only [Pt.U, Pt.locs, Pt.cells, Pt.slots] at X2 l2 y2 z2 st2 hQ2
  subst l2 y2 z2
  obtain ⟨rfl, Nq2, e2⟩ := hQ2
  have N2 := Fr.app N0 Nq2
  refine Go.stp (fun t_ k_ => st2.trans k_) ?_
  show Go p.tables e below G (T2.setTop (mkF m 9 #[rv r0, lv q1, sd] [(.int (own_it (own_hm16 q1) ((16 : Int32) - (1 : Int32)) t)), (.ref ra)]))
  obtain ⟨cl3, Ar3, Sz3, -, Hs3⟩ := id I_ra
  have ib3 : 0 ≤ ((own_it (own_hm16 q1) ((16 : Int32) - (1 : Int32)) t)).toInt ∧ ((own_it (own_hm16 q1) ((16 : Int32) - (1 : Int32)) t)).toInt < ((16 : Nat) : Int) := (own_tb16 q1 t)
  refine Go.stp (fun t_ k_ => X2.iaload hx (j := (own_it (own_hm16 q1) ((16 : Int32) - (1 : Int32)) t)) (v := (Value.int (R ((own_it (own_hm16 q1) ((16 : Int32) - (1 : Int32)) t)).toNatClampNeg))) (by rw [e2]; exact Ar3.1) (State.isArrayOf_alike hZ.alike Ar3.2.1) Ar3.2.2 (in_of Sz3 ib3) (Hs3 _ (at_of ib3)) (g := (mkF m 9 #[rv r0, lv q1, sd] [(.int (own_it (own_hm16 q1) ((16 : Int32) - (1 : Int32)) t)), (.ref ra)])) rfl rfl (hb hby d8_9) t_ k_) ?_
  show Go p.tables e below G (T2.setTop (mkF m 10 #[rv r0, lv q1, sd] [(.int (R ((own_it (own_hm16 q1) ((16 : Int32) - (1 : Int32)) t)).toNatClampNeg))]))
  obtain ⟨fs, hr, hrun, hended, hW, hsame⟩ := X2.leave (v := some (.int (R ((own_it (own_hm16 q1) ((16 : Int32) - (1 : Int32)) t)).toNatClampNeg))) (fun h => by rw [Bd.returns] at h; cases h)
  refine ⟨_, _, retI X2 hx Bd.returns (hb hby d8_10) hr, hrun, hended, hG _ _ _ ?_ ⟨⟨_, rfl⟩, hW, hsame.mono (by decide) (by decide)⟩⟩
  show Q8_16 Z r0 q1 ra ia R I mp F h0 n0 _ T2.heap _
  rw [e2]
  exact ⟨by rw [← hm]; rfl, N2, rfl⟩
theorem pn_0 : plainName "com/example/chatterbench/chatterbench/data/IdIndexAddPinLaw" = true := by first | (simp [plainName, overriddenIn]; done) | decide +kernel
theorem ef_0 (m : MethodId) (q0 : Int64) (q1 : Int64) (q2 : Int64) (q3 : Int64) (p4 : Int32) (p5 : Int32) : entryFrame m #[(.long q0), (.long q1), (.long q2), (.long q3), (.int p4), (.int p5)] maxLocals = mkF m 0 #[lv q0, sd, lv q1, sd, lv q2, sd, lv q3, sd, iv p4, iv p5, un, un, un, un, un, un, un, un, un, un, un, un, un, un, un, un, un, un, un, un, un, un, un, un, un, un] [] := by first | (simp [entryFrame, mkF, argsToLocals, Value.category, iv, rv, lv, un, sd, maxLocals]; done) | rfl
def Q0 (Z : State) (q0 : Int64) (q1 : Int64) (q2 : Int64) (q3 : Int64) (p4 : Int32) (p5 : Int32) (h0 : Heap) (n0 : Nat) (v : Option Value) (h : Heap) (L : List Loc) : Prop := v = some (.int (1 : Int32)) ∧ Fr n0 L
set_option maxRecDepth 65536 in
set_option maxHeartbeats 40000000 in
theorem rm0 (l : Launch) (Z : State) (a0 : Array Value) (hw : ∀ d ∈ tables_1, d.before a0 Z = true) (ws : List Jvm.Cond) (q0 : Int64) (q1 : Int64) (q2 : Int64) (q3 : Int64) (p4 : Int32) (p5 : Int32) (h0 : Heap) (n0 : Nat) (Z0 : n0 ≤ h0.size) :
    MetFree l x (head1 (Jvm.Cond.code x code maxLocals ret :: ws) room_1) (fun a U => a = #[(.long q0), (.long q1), (.long q2), (.long q3), (.int p4), (.int p5)] ∧ Z.Warmed39 U.vm ∧ U.heap = h0) (fun _ _ _ _ _ => True) (fun _ U o U' => ∃ v L, o = .returned v ∧ Q0 Z q0 q1 q2 q3 p4 p5 h0 n0 v U'.heap L ∧ FrameEnd U o U' L room_1.cells room_1.slots) := by
  refine MetFree.of_bodySF (plainFor_of_name pn_0) hisR ?_
  intro p e s m args below meth c s₁ Bd hml0 hP hK
  obtain ⟨rfl, hZ, hh⟩ := hP
  have hx := Bd.exec
  have hby := Bd.bytes
  have hml : c.maxLocals = 36 := hml0
  have hown : s.vm.findClass "com/example/chatterbench/chatterbench/data/IdIndexAddPinLaw" = some m.cls := findClass_of_methodNamed Bd.named
  have hnm := (name_of_methodNamed Bd.named Bd.method).1
  have X0 : Stand p l e room_1 s m #[(.long q0), (.long q1), (.long q2), (.long q3), (.int p4), (.int p5)] below meth c s₁ [] 0 0 := Stand.of_body Bd
  have e0 : s₁.heap = h0 := by rw [← hh, Bd.state]; rfl
  have N0 := Fr.nil n0
  suffices HH : ∀ G : Outcome → State → Prop, (∀ v L U', Q0 Z q0 q1 q2 q3 p4 p5 h0 n0 v U'.heap L → FrameEnd s (.returned v) U' L room_1.cells room_1.slots → G (.returned v) U') → Go p.tables e below G (s₁.setTop (mkF m 0 #[lv q0, sd, lv q1, sd, lv q2, sd, lv q3, sd, iv p4, iv p5, un, un, un, un, un, un, un, un, un, un, un, un, un, un, un, un, un, un, un, un, un, un, un, un, un, un] [])) by
    obtain ⟨s2, o, h1, h2, h3, h4⟩ := HH (fun o U' => ∃ v L, o = .returned v ∧ Q0 Z q0 q1 q2 q3 p4 p5 h0 n0 v U'.heap L ∧ FrameEnd s o U' L room_1.cells room_1.slots) (fun v L U' q f => ⟨v, L, rfl, q, f⟩)
    exact ⟨s2, o, castTop (ef_0 m q0 q1 q2 q3 p4 p5) h1, h2, h3, h4⟩
  intro G hG
  show Go p.tables e below G (s₁.setTop (mkF m 0 #[lv q0, sd, lv q1, sd, lv q2, sd, lv q3, sd, iv p4, iv p5, un, un, un, un, un, un, un, un, un, un, un, un, un, un, un, un, un, un, un, un, un, un, un, un, un, un] []))
  refine Go.stp (fun t_ k_ => XS.iload X0.here hx rfl (hb hby at_0) rfl k_) ?_
  show Go p.tables e below G (s₁.setTop (mkF m 2 #[lv q0, sd, lv q1, sd, lv q2, sd, lv q3, sd, iv p4, iv p5, un, un, un, un, un, un, un, un, un, un, un, un, un, un, un, un, un, un, un, un, un, un, un, un, un, un] [(.int p5)]))
  refine Go.stp (fun t_ k_ => XS.iconst X0.here hx rfl (hb hby at_2) k_) ?_
  show Go p.tables e below G (s₁.setTop (mkF m 3 #[lv q0, sd, lv q1, sd, lv q2, sd, lv q3, sd, iv p4, iv p5, un, un, un, un, un, un, un, un, un, un, un, un, un, un, un, un, un, un, un, un, un, un, un, un, un, un] [(.int (1 : Int32)), (.int p5)]))
  refine Go.stp (fun t_ k_ => XS.iand X0.here hx rfl (hb hby at_3) rfl k_) ?_
  show Go p.tables e below G (s₁.setTop (mkF m 4 #[lv q0, sd, lv q1, sd, lv q2, sd, lv q3, sd, iv p4, iv p5, un, un, un, un, un, un, un, un, un, un, un, un, un, un, un, un, un, un, un, un, un, un, un, un, un, un] [(.int (p5 &&& (1 : Int32)))]))
  suffices J1 : ∀ (b' : Int64), ((((p5 &&& (1 : Int32)) = (0 : Int32)) ∧ b' = q1) ∨ (¬ ((p5 &&& (1 : Int32)) = (0 : Int32)) ∧ b' = q0)) → Go p.tables e below G (s₁.setTop (mkF m 12 #[lv q0, sd, lv q1, sd, lv q2, sd, lv q3, sd, iv p4, iv p5, un, un, un, un, un, un, un, un, un, un, un, un, un, un, un, un, un, un, un, un, un, un, un, un, un, un] [(.long b')])) by
    by_cases hc4 : (p5 &&& (1 : Int32)) = (0 : Int32)
    · refine Go.stp (fun t_ k_ => XS.ifYes X0.here hx rfl (pc0 := 4) (pc' := 11) rfl (hb hby at_4) rfl ((if0 _ _).trans (teq hc4).1) (by decide) (by decide) k_) ?_
      show Go p.tables e below G (s₁.setTop (mkF m 11 #[lv q0, sd, lv q1, sd, lv q2, sd, lv q3, sd, iv p4, iv p5, un, un, un, un, un, un, un, un, un, un, un, un, un, un, un, un, un, un, un, un, un, un, un, un, un, un] []))
      refine Go.stp (fun t_ k_ => XS.lloadN X0.here hx rfl (hb hby at_11) rfl k_) ?_
      show Go p.tables e below G (s₁.setTop (mkF m 12 #[lv q0, sd, lv q1, sd, lv q2, sd, lv q3, sd, iv p4, iv p5, un, un, un, un, un, un, un, un, un, un, un, un, un, un, un, un, un, un, un, un, un, un, un, un, un, un] [(.long q1)]))
      exact J1 _ (Or.inl ⟨hc4, rfl⟩)
    · refine Go.stp (fun t_ k_ => XS.ifNo X0.here hx rfl (hb hby at_4) rfl ((if0 _ _).trans (feq hc4).1) k_) ?_
      show Go p.tables e below G (s₁.setTop (mkF m 7 #[lv q0, sd, lv q1, sd, lv q2, sd, lv q3, sd, iv p4, iv p5, un, un, un, un, un, un, un, un, un, un, un, un, un, un, un, un, un, un, un, un, un, un, un, un, un, un] []))
      refine Go.stp (fun t_ k_ => XS.lloadN X0.here hx rfl (hb hby at_7) rfl k_) ?_
      show Go p.tables e below G (s₁.setTop (mkF m 8 #[lv q0, sd, lv q1, sd, lv q2, sd, lv q3, sd, iv p4, iv p5, un, un, un, un, un, un, un, un, un, un, un, un, un, un, un, un, un, un, un, un, un, un, un, un, un, un] [(.long q0)]))
      refine Go.stp (fun t_ k_ => XS.goto X0.here hx rfl (pc0 := 8) (pc' := 12) rfl (hb hby at_8) (by decide) (by decide) k_) ?_
      show Go p.tables e below G (s₁.setTop (mkF m 12 #[lv q0, sd, lv q1, sd, lv q2, sd, lv q3, sd, iv p4, iv p5, un, un, un, un, un, un, un, un, un, un, un, un, un, un, un, un, un, un, un, un, un, un, un, un, un, un] [(.long q0)]))
      exact J1 _ (Or.inr ⟨hc4, rfl⟩)
  intro b' hj12
  refine Go.stp (fun t_ k_ => XS.lstore X0.here hx rfl (hb hby at_12) rfl (l' := #[lv q0, sd, lv q1, sd, lv q2, sd, lv q3, sd, iv p4, iv p5, lv b', sd, un, un, un, un, un, un, un, un, un, un, un, un, un, un, un, un, un, un, un, un, un, un, un, un]) rfl k_) ?_
  show Go p.tables e below G (s₁.setTop (mkF m 14 #[lv q0, sd, lv q1, sd, lv q2, sd, lv q3, sd, iv p4, iv p5, lv b', sd, un, un, un, un, un, un, un, un, un, un, un, un, un, un, un, un, un, un, un, un, un, un, un, un] []))
  refine Go.stp (fun t_ k_ => XS.iload X0.here hx rfl (hb hby at_14) rfl k_) ?_
  show Go p.tables e below G (s₁.setTop (mkF m 16 #[lv q0, sd, lv q1, sd, lv q2, sd, lv q3, sd, iv p4, iv p5, lv b', sd, un, un, un, un, un, un, un, un, un, un, un, un, un, un, un, un, un, un, un, un, un, un, un, un] [(.int p5)]))
  refine Go.stp (fun t_ k_ => XS.iconst X0.here hx rfl (hb hby at_16) k_) ?_
  show Go p.tables e below G (s₁.setTop (mkF m 17 #[lv q0, sd, lv q1, sd, lv q2, sd, lv q3, sd, iv p4, iv p5, lv b', sd, un, un, un, un, un, un, un, un, un, un, un, un, un, un, un, un, un, un, un, un, un, un, un, un] [(.int (1 : Int32)), (.int p5)]))
  refine Go.stp (fun t_ k_ => XS.iushr X0.here hx rfl (hb hby at_17) rfl k_) ?_
  show Go p.tables e below G (s₁.setTop (mkF m 18 #[lv q0, sd, lv q1, sd, lv q2, sd, lv q3, sd, iv p4, iv p5, lv b', sd, un, un, un, un, un, un, un, un, un, un, un, un, un, un, un, un, un, un, un, un, un, un, un, un] [(.int ((p5.toUInt32 >>> ((1 : Int32) &&& 31).toUInt32).toInt32))]))
  refine Go.stp (fun t_ k_ => XS.iconst X0.here hx rfl (hb hby at_18) k_) ?_
  show Go p.tables e below G (s₁.setTop (mkF m 19 #[lv q0, sd, lv q1, sd, lv q2, sd, lv q3, sd, iv p4, iv p5, lv b', sd, un, un, un, un, un, un, un, un, un, un, un, un, un, un, un, un, un, un, un, un, un, un, un, un] [(.int (3 : Int32)), (.int ((p5.toUInt32 >>> ((1 : Int32) &&& 31).toUInt32).toInt32))]))
  refine Go.stp (fun t_ k_ => XS.iand X0.here hx rfl (hb hby at_19) rfl k_) ?_
  show Go p.tables e below G (s₁.setTop (mkF m 20 #[lv q0, sd, lv q1, sd, lv q2, sd, lv q3, sd, iv p4, iv p5, lv b', sd, un, un, un, un, un, un, un, un, un, un, un, un, un, un, un, un, un, un, un, un, un, un, un, un] [(.int (((p5.toUInt32 >>> ((1 : Int32) &&& 31).toUInt32).toInt32) &&& (3 : Int32)))]))
  refine Go.stp (fun t_ k_ => XS.istore X0.here hx rfl (hb hby at_20) rfl (l' := #[lv q0, sd, lv q1, sd, lv q2, sd, lv q3, sd, iv p4, iv p5, lv b', sd, iv (((p5.toUInt32 >>> ((1 : Int32) &&& 31).toUInt32).toInt32) &&& (3 : Int32)), un, un, un, un, un, un, un, un, un, un, un, un, un, un, un, un, un, un, un, un, un, un, un]) rfl k_) ?_
  show Go p.tables e below G (s₁.setTop (mkF m 22 #[lv q0, sd, lv q1, sd, lv q2, sd, lv q3, sd, iv p4, iv p5, lv b', sd, iv (((p5.toUInt32 >>> ((1 : Int32) &&& 31).toUInt32).toInt32) &&& (3 : Int32)), un, un, un, un, un, un, un, un, un, un, un, un, un, un, un, un, un, un, un, un, un, un, un] []))
  refine Go.stp (fun t_ k_ => XS.iload X0.here hx rfl (hb hby at_22) rfl k_) ?_
  show Go p.tables e below G (s₁.setTop (mkF m 24 #[lv q0, sd, lv q1, sd, lv q2, sd, lv q3, sd, iv p4, iv p5, lv b', sd, iv (((p5.toUInt32 >>> ((1 : Int32) &&& 31).toUInt32).toInt32) &&& (3 : Int32)), un, un, un, un, un, un, un, un, un, un, un, un, un, un, un, un, un, un, un, un, un, un, un] [(.int (((p5.toUInt32 >>> ((1 : Int32) &&& 31).toUInt32).toInt32) &&& (3 : Int32)))]))
  refine Go.stp (fun t_ k_ => XS.iconst X0.here hx rfl (hb hby at_24) k_) ?_
  show Go p.tables e below G (s₁.setTop (mkF m 25 #[lv q0, sd, lv q1, sd, lv q2, sd, lv q3, sd, iv p4, iv p5, lv b', sd, iv (((p5.toUInt32 >>> ((1 : Int32) &&& 31).toUInt32).toInt32) &&& (3 : Int32)), un, un, un, un, un, un, un, un, un, un, un, un, un, un, un, un, un, un, un, un, un, un, un] [(.int (1 : Int32)), (.int (((p5.toUInt32 >>> ((1 : Int32) &&& 31).toUInt32).toInt32) &&& (3 : Int32)))]))
  suffices J2 : ∀ (c' : Int64), ((((((p5.toUInt32 >>> ((1 : Int32) &&& 31).toUInt32).toInt32) &&& (3 : Int32)) = (1 : Int32)) ∧ c' = q0) ∨ (¬ ((((p5.toUInt32 >>> ((1 : Int32) &&& 31).toUInt32).toInt32) &&& (3 : Int32)) = (1 : Int32)) ∧ ((((p5.toUInt32 >>> ((1 : Int32) &&& 31).toUInt32).toInt32) &&& (3 : Int32)) = (2 : Int32)) ∧ c' = b') ∨ (¬ ((((p5.toUInt32 >>> ((1 : Int32) &&& 31).toUInt32).toInt32) &&& (3 : Int32)) = (1 : Int32)) ∧ ¬ ((((p5.toUInt32 >>> ((1 : Int32) &&& 31).toUInt32).toInt32) &&& (3 : Int32)) = (2 : Int32)) ∧ c' = q2)) → Go p.tables e below G (s₁.setTop (mkF m 45 #[lv q0, sd, lv q1, sd, lv q2, sd, lv q3, sd, iv p4, iv p5, lv b', sd, iv (((p5.toUInt32 >>> ((1 : Int32) &&& 31).toUInt32).toInt32) &&& (3 : Int32)), un, un, un, un, un, un, un, un, un, un, un, un, un, un, un, un, un, un, un, un, un, un, un] [(.long c')])) by
    by_cases hc25 : (((p5.toUInt32 >>> ((1 : Int32) &&& 31).toUInt32).toInt32) &&& (3 : Int32)) = (1 : Int32)
    · refine Go.stp (fun t_ k_ => XS.icmpNo X0.here hx rfl (hb hby at_25) rfl (teq hc25).2 k_) ?_
      show Go p.tables e below G (s₁.setTop (mkF m 28 #[lv q0, sd, lv q1, sd, lv q2, sd, lv q3, sd, iv p4, iv p5, lv b', sd, iv (((p5.toUInt32 >>> ((1 : Int32) &&& 31).toUInt32).toInt32) &&& (3 : Int32)), un, un, un, un, un, un, un, un, un, un, un, un, un, un, un, un, un, un, un, un, un, un, un] []))
      refine Go.stp (fun t_ k_ => XS.lloadN X0.here hx rfl (hb hby at_28) rfl k_) ?_
      show Go p.tables e below G (s₁.setTop (mkF m 29 #[lv q0, sd, lv q1, sd, lv q2, sd, lv q3, sd, iv p4, iv p5, lv b', sd, iv (((p5.toUInt32 >>> ((1 : Int32) &&& 31).toUInt32).toInt32) &&& (3 : Int32)), un, un, un, un, un, un, un, un, un, un, un, un, un, un, un, un, un, un, un, un, un, un, un] [(.long q0)]))
      refine Go.stp (fun t_ k_ => XS.goto X0.here hx rfl (pc0 := 29) (pc' := 45) rfl (hb hby at_29) (by decide) (by decide) k_) ?_
      show Go p.tables e below G (s₁.setTop (mkF m 45 #[lv q0, sd, lv q1, sd, lv q2, sd, lv q3, sd, iv p4, iv p5, lv b', sd, iv (((p5.toUInt32 >>> ((1 : Int32) &&& 31).toUInt32).toInt32) &&& (3 : Int32)), un, un, un, un, un, un, un, un, un, un, un, un, un, un, un, un, un, un, un, un, un, un, un] [(.long q0)]))
      exact J2 _ (Or.inl ⟨hc25, rfl⟩)
    · refine Go.stp (fun t_ k_ => XS.icmpYes X0.here hx rfl (pc0 := 25) (pc' := 32) rfl (hb hby at_25) rfl (feq hc25).2 (by decide) (by decide) k_) ?_
      show Go p.tables e below G (s₁.setTop (mkF m 32 #[lv q0, sd, lv q1, sd, lv q2, sd, lv q3, sd, iv p4, iv p5, lv b', sd, iv (((p5.toUInt32 >>> ((1 : Int32) &&& 31).toUInt32).toInt32) &&& (3 : Int32)), un, un, un, un, un, un, un, un, un, un, un, un, un, un, un, un, un, un, un, un, un, un, un] []))
      refine Go.stp (fun t_ k_ => XS.iload X0.here hx rfl (hb hby at_32) rfl k_) ?_
      show Go p.tables e below G (s₁.setTop (mkF m 34 #[lv q0, sd, lv q1, sd, lv q2, sd, lv q3, sd, iv p4, iv p5, lv b', sd, iv (((p5.toUInt32 >>> ((1 : Int32) &&& 31).toUInt32).toInt32) &&& (3 : Int32)), un, un, un, un, un, un, un, un, un, un, un, un, un, un, un, un, un, un, un, un, un, un, un] [(.int (((p5.toUInt32 >>> ((1 : Int32) &&& 31).toUInt32).toInt32) &&& (3 : Int32)))]))
      refine Go.stp (fun t_ k_ => XS.iconst X0.here hx rfl (hb hby at_34) k_) ?_
      show Go p.tables e below G (s₁.setTop (mkF m 35 #[lv q0, sd, lv q1, sd, lv q2, sd, lv q3, sd, iv p4, iv p5, lv b', sd, iv (((p5.toUInt32 >>> ((1 : Int32) &&& 31).toUInt32).toInt32) &&& (3 : Int32)), un, un, un, un, un, un, un, un, un, un, un, un, un, un, un, un, un, un, un, un, un, un, un] [(.int (2 : Int32)), (.int (((p5.toUInt32 >>> ((1 : Int32) &&& 31).toUInt32).toInt32) &&& (3 : Int32)))]))
      by_cases hc35 : (((p5.toUInt32 >>> ((1 : Int32) &&& 31).toUInt32).toInt32) &&& (3 : Int32)) = (2 : Int32)
      · refine Go.stp (fun t_ k_ => XS.icmpNo X0.here hx rfl (hb hby at_35) rfl (teq hc35).2 k_) ?_
        show Go p.tables e below G (s₁.setTop (mkF m 38 #[lv q0, sd, lv q1, sd, lv q2, sd, lv q3, sd, iv p4, iv p5, lv b', sd, iv (((p5.toUInt32 >>> ((1 : Int32) &&& 31).toUInt32).toInt32) &&& (3 : Int32)), un, un, un, un, un, un, un, un, un, un, un, un, un, un, un, un, un, un, un, un, un, un, un] []))
        refine Go.stp (fun t_ k_ => XS.lload X0.here hx rfl (hb hby at_38) rfl k_) ?_
        show Go p.tables e below G (s₁.setTop (mkF m 40 #[lv q0, sd, lv q1, sd, lv q2, sd, lv q3, sd, iv p4, iv p5, lv b', sd, iv (((p5.toUInt32 >>> ((1 : Int32) &&& 31).toUInt32).toInt32) &&& (3 : Int32)), un, un, un, un, un, un, un, un, un, un, un, un, un, un, un, un, un, un, un, un, un, un, un] [(.long b')]))
        refine Go.stp (fun t_ k_ => XS.goto X0.here hx rfl (pc0 := 40) (pc' := 45) rfl (hb hby at_40) (by decide) (by decide) k_) ?_
        show Go p.tables e below G (s₁.setTop (mkF m 45 #[lv q0, sd, lv q1, sd, lv q2, sd, lv q3, sd, iv p4, iv p5, lv b', sd, iv (((p5.toUInt32 >>> ((1 : Int32) &&& 31).toUInt32).toInt32) &&& (3 : Int32)), un, un, un, un, un, un, un, un, un, un, un, un, un, un, un, un, un, un, un, un, un, un, un] [(.long b')]))
        exact J2 _ (Or.inr (Or.inl ⟨hc25, hc35, rfl⟩))
      · refine Go.stp (fun t_ k_ => XS.icmpYes X0.here hx rfl (pc0 := 35) (pc' := 43) rfl (hb hby at_35) rfl (feq hc35).2 (by decide) (by decide) k_) ?_
        show Go p.tables e below G (s₁.setTop (mkF m 43 #[lv q0, sd, lv q1, sd, lv q2, sd, lv q3, sd, iv p4, iv p5, lv b', sd, iv (((p5.toUInt32 >>> ((1 : Int32) &&& 31).toUInt32).toInt32) &&& (3 : Int32)), un, un, un, un, un, un, un, un, un, un, un, un, un, un, un, un, un, un, un, un, un, un, un] []))
        refine Go.stp (fun t_ k_ => XS.lload X0.here hx rfl (hb hby at_43) rfl k_) ?_
        show Go p.tables e below G (s₁.setTop (mkF m 45 #[lv q0, sd, lv q1, sd, lv q2, sd, lv q3, sd, iv p4, iv p5, lv b', sd, iv (((p5.toUInt32 >>> ((1 : Int32) &&& 31).toUInt32).toInt32) &&& (3 : Int32)), un, un, un, un, un, un, un, un, un, un, un, un, un, un, un, un, un, un, un, un, un, un, un] [(.long q2)]))
        exact J2 _ (Or.inr (Or.inr ⟨hc25, hc35, rfl⟩))
  intro c' hj45
  refine Go.stp (fun t_ k_ => XS.lstore X0.here hx rfl (hb hby at_45) rfl (l' := #[lv q0, sd, lv q1, sd, lv q2, sd, lv q3, sd, iv p4, iv p5, lv b', sd, iv (((p5.toUInt32 >>> ((1 : Int32) &&& 31).toUInt32).toInt32) &&& (3 : Int32)), lv c', sd, un, un, un, un, un, un, un, un, un, un, un, un, un, un, un, un, un, un, un, un, un]) rfl k_) ?_
  show Go p.tables e below G (s₁.setTop (mkF m 47 #[lv q0, sd, lv q1, sd, lv q2, sd, lv q3, sd, iv p4, iv p5, lv b', sd, iv (((p5.toUInt32 >>> ((1 : Int32) &&& 31).toUInt32).toInt32) &&& (3 : Int32)), lv c', sd, un, un, un, un, un, un, un, un, un, un, un, un, un, un, un, un, un, un, un, un, un] []))
  refine Go.stp (fun t_ k_ => XS.iload X0.here hx rfl (hb hby at_47) rfl k_) ?_
  show Go p.tables e below G (s₁.setTop (mkF m 49 #[lv q0, sd, lv q1, sd, lv q2, sd, lv q3, sd, iv p4, iv p5, lv b', sd, iv (((p5.toUInt32 >>> ((1 : Int32) &&& 31).toUInt32).toInt32) &&& (3 : Int32)), lv c', sd, un, un, un, un, un, un, un, un, un, un, un, un, un, un, un, un, un, un, un, un, un] [(.int p5)]))
  refine Go.stp (fun t_ k_ => XS.iconst X0.here hx rfl (hb hby at_49) k_) ?_
  show Go p.tables e below G (s₁.setTop (mkF m 50 #[lv q0, sd, lv q1, sd, lv q2, sd, lv q3, sd, iv p4, iv p5, lv b', sd, iv (((p5.toUInt32 >>> ((1 : Int32) &&& 31).toUInt32).toInt32) &&& (3 : Int32)), lv c', sd, un, un, un, un, un, un, un, un, un, un, un, un, un, un, un, un, un, un, un, un, un] [(.int (3 : Int32)), (.int p5)]))
  refine Go.stp (fun t_ k_ => XS.iushr X0.here hx rfl (hb hby at_50) rfl k_) ?_
  show Go p.tables e below G (s₁.setTop (mkF m 51 #[lv q0, sd, lv q1, sd, lv q2, sd, lv q3, sd, iv p4, iv p5, lv b', sd, iv (((p5.toUInt32 >>> ((1 : Int32) &&& 31).toUInt32).toInt32) &&& (3 : Int32)), lv c', sd, un, un, un, un, un, un, un, un, un, un, un, un, un, un, un, un, un, un, un, un, un] [(.int ((p5.toUInt32 >>> ((3 : Int32) &&& 31).toUInt32).toInt32))]))
  refine Go.stp (fun t_ k_ => XS.iconst X0.here hx rfl (hb hby at_51) k_) ?_
  show Go p.tables e below G (s₁.setTop (mkF m 52 #[lv q0, sd, lv q1, sd, lv q2, sd, lv q3, sd, iv p4, iv p5, lv b', sd, iv (((p5.toUInt32 >>> ((1 : Int32) &&& 31).toUInt32).toInt32) &&& (3 : Int32)), lv c', sd, un, un, un, un, un, un, un, un, un, un, un, un, un, un, un, un, un, un, un, un, un] [(.int (3 : Int32)), (.int ((p5.toUInt32 >>> ((3 : Int32) &&& 31).toUInt32).toInt32))]))
  refine Go.stp (fun t_ k_ => XS.iand X0.here hx rfl (hb hby at_52) rfl k_) ?_
  show Go p.tables e below G (s₁.setTop (mkF m 53 #[lv q0, sd, lv q1, sd, lv q2, sd, lv q3, sd, iv p4, iv p5, lv b', sd, iv (((p5.toUInt32 >>> ((1 : Int32) &&& 31).toUInt32).toInt32) &&& (3 : Int32)), lv c', sd, un, un, un, un, un, un, un, un, un, un, un, un, un, un, un, un, un, un, un, un, un] [(.int (((p5.toUInt32 >>> ((3 : Int32) &&& 31).toUInt32).toInt32) &&& (3 : Int32)))]))
  refine Go.stp (fun t_ k_ => XS.istore X0.here hx rfl (hb hby at_53) rfl (l' := #[lv q0, sd, lv q1, sd, lv q2, sd, lv q3, sd, iv p4, iv p5, lv b', sd, iv (((p5.toUInt32 >>> ((1 : Int32) &&& 31).toUInt32).toInt32) &&& (3 : Int32)), lv c', sd, iv (((p5.toUInt32 >>> ((3 : Int32) &&& 31).toUInt32).toInt32) &&& (3 : Int32)), un, un, un, un, un, un, un, un, un, un, un, un, un, un, un, un, un, un, un, un]) rfl k_) ?_
  show Go p.tables e below G (s₁.setTop (mkF m 55 #[lv q0, sd, lv q1, sd, lv q2, sd, lv q3, sd, iv p4, iv p5, lv b', sd, iv (((p5.toUInt32 >>> ((1 : Int32) &&& 31).toUInt32).toInt32) &&& (3 : Int32)), lv c', sd, iv (((p5.toUInt32 >>> ((3 : Int32) &&& 31).toUInt32).toInt32) &&& (3 : Int32)), un, un, un, un, un, un, un, un, un, un, un, un, un, un, un, un, un, un, un, un] []))
  refine Go.stp (fun t_ k_ => XS.iload X0.here hx rfl (hb hby at_55) rfl k_) ?_
  show Go p.tables e below G (s₁.setTop (mkF m 57 #[lv q0, sd, lv q1, sd, lv q2, sd, lv q3, sd, iv p4, iv p5, lv b', sd, iv (((p5.toUInt32 >>> ((1 : Int32) &&& 31).toUInt32).toInt32) &&& (3 : Int32)), lv c', sd, iv (((p5.toUInt32 >>> ((3 : Int32) &&& 31).toUInt32).toInt32) &&& (3 : Int32)), un, un, un, un, un, un, un, un, un, un, un, un, un, un, un, un, un, un, un, un] [(.int (((p5.toUInt32 >>> ((3 : Int32) &&& 31).toUInt32).toInt32) &&& (3 : Int32)))]))
  refine Go.stp (fun t_ k_ => XS.iconst X0.here hx rfl (hb hby at_57) k_) ?_
  show Go p.tables e below G (s₁.setTop (mkF m 58 #[lv q0, sd, lv q1, sd, lv q2, sd, lv q3, sd, iv p4, iv p5, lv b', sd, iv (((p5.toUInt32 >>> ((1 : Int32) &&& 31).toUInt32).toInt32) &&& (3 : Int32)), lv c', sd, iv (((p5.toUInt32 >>> ((3 : Int32) &&& 31).toUInt32).toInt32) &&& (3 : Int32)), un, un, un, un, un, un, un, un, un, un, un, un, un, un, un, un, un, un, un, un] [(.int (1 : Int32)), (.int (((p5.toUInt32 >>> ((3 : Int32) &&& 31).toUInt32).toInt32) &&& (3 : Int32)))]))
  suffices J3 : ∀ (d' : Int64), ((((((p5.toUInt32 >>> ((3 : Int32) &&& 31).toUInt32).toInt32) &&& (3 : Int32)) = (1 : Int32)) ∧ d' = q0) ∨ (¬ ((((p5.toUInt32 >>> ((3 : Int32) &&& 31).toUInt32).toInt32) &&& (3 : Int32)) = (1 : Int32)) ∧ ((((p5.toUInt32 >>> ((3 : Int32) &&& 31).toUInt32).toInt32) &&& (3 : Int32)) = (2 : Int32)) ∧ d' = b') ∨ (¬ ((((p5.toUInt32 >>> ((3 : Int32) &&& 31).toUInt32).toInt32) &&& (3 : Int32)) = (1 : Int32)) ∧ ¬ ((((p5.toUInt32 >>> ((3 : Int32) &&& 31).toUInt32).toInt32) &&& (3 : Int32)) = (2 : Int32)) ∧ ((((p5.toUInt32 >>> ((3 : Int32) &&& 31).toUInt32).toInt32) &&& (3 : Int32)) = (3 : Int32)) ∧ d' = c') ∨ (¬ ((((p5.toUInt32 >>> ((3 : Int32) &&& 31).toUInt32).toInt32) &&& (3 : Int32)) = (1 : Int32)) ∧ ¬ ((((p5.toUInt32 >>> ((3 : Int32) &&& 31).toUInt32).toInt32) &&& (3 : Int32)) = (2 : Int32)) ∧ ¬ ((((p5.toUInt32 >>> ((3 : Int32) &&& 31).toUInt32).toInt32) &&& (3 : Int32)) = (3 : Int32)) ∧ d' = q3)) → Go p.tables e below G (s₁.setTop (mkF m 89 #[lv q0, sd, lv q1, sd, lv q2, sd, lv q3, sd, iv p4, iv p5, lv b', sd, iv (((p5.toUInt32 >>> ((1 : Int32) &&& 31).toUInt32).toInt32) &&& (3 : Int32)), lv c', sd, iv (((p5.toUInt32 >>> ((3 : Int32) &&& 31).toUInt32).toInt32) &&& (3 : Int32)), un, un, un, un, un, un, un, un, un, un, un, un, un, un, un, un, un, un, un, un] [(.long d')])) by
    by_cases hc58 : (((p5.toUInt32 >>> ((3 : Int32) &&& 31).toUInt32).toInt32) &&& (3 : Int32)) = (1 : Int32)
    · refine Go.stp (fun t_ k_ => XS.icmpNo X0.here hx rfl (hb hby at_58) rfl (teq hc58).2 k_) ?_
      show Go p.tables e below G (s₁.setTop (mkF m 61 #[lv q0, sd, lv q1, sd, lv q2, sd, lv q3, sd, iv p4, iv p5, lv b', sd, iv (((p5.toUInt32 >>> ((1 : Int32) &&& 31).toUInt32).toInt32) &&& (3 : Int32)), lv c', sd, iv (((p5.toUInt32 >>> ((3 : Int32) &&& 31).toUInt32).toInt32) &&& (3 : Int32)), un, un, un, un, un, un, un, un, un, un, un, un, un, un, un, un, un, un, un, un] []))
      refine Go.stp (fun t_ k_ => XS.lloadN X0.here hx rfl (hb hby at_61) rfl k_) ?_
      show Go p.tables e below G (s₁.setTop (mkF m 62 #[lv q0, sd, lv q1, sd, lv q2, sd, lv q3, sd, iv p4, iv p5, lv b', sd, iv (((p5.toUInt32 >>> ((1 : Int32) &&& 31).toUInt32).toInt32) &&& (3 : Int32)), lv c', sd, iv (((p5.toUInt32 >>> ((3 : Int32) &&& 31).toUInt32).toInt32) &&& (3 : Int32)), un, un, un, un, un, un, un, un, un, un, un, un, un, un, un, un, un, un, un, un] [(.long q0)]))
      refine Go.stp (fun t_ k_ => XS.goto X0.here hx rfl (pc0 := 62) (pc' := 89) rfl (hb hby at_62) (by decide) (by decide) k_) ?_
      show Go p.tables e below G (s₁.setTop (mkF m 89 #[lv q0, sd, lv q1, sd, lv q2, sd, lv q3, sd, iv p4, iv p5, lv b', sd, iv (((p5.toUInt32 >>> ((1 : Int32) &&& 31).toUInt32).toInt32) &&& (3 : Int32)), lv c', sd, iv (((p5.toUInt32 >>> ((3 : Int32) &&& 31).toUInt32).toInt32) &&& (3 : Int32)), un, un, un, un, un, un, un, un, un, un, un, un, un, un, un, un, un, un, un, un] [(.long q0)]))
      exact J3 _ (Or.inl ⟨hc58, rfl⟩)
    · refine Go.stp (fun t_ k_ => XS.icmpYes X0.here hx rfl (pc0 := 58) (pc' := 65) rfl (hb hby at_58) rfl (feq hc58).2 (by decide) (by decide) k_) ?_
      show Go p.tables e below G (s₁.setTop (mkF m 65 #[lv q0, sd, lv q1, sd, lv q2, sd, lv q3, sd, iv p4, iv p5, lv b', sd, iv (((p5.toUInt32 >>> ((1 : Int32) &&& 31).toUInt32).toInt32) &&& (3 : Int32)), lv c', sd, iv (((p5.toUInt32 >>> ((3 : Int32) &&& 31).toUInt32).toInt32) &&& (3 : Int32)), un, un, un, un, un, un, un, un, un, un, un, un, un, un, un, un, un, un, un, un] []))
      refine Go.stp (fun t_ k_ => XS.iload X0.here hx rfl (hb hby at_65) rfl k_) ?_
      show Go p.tables e below G (s₁.setTop (mkF m 67 #[lv q0, sd, lv q1, sd, lv q2, sd, lv q3, sd, iv p4, iv p5, lv b', sd, iv (((p5.toUInt32 >>> ((1 : Int32) &&& 31).toUInt32).toInt32) &&& (3 : Int32)), lv c', sd, iv (((p5.toUInt32 >>> ((3 : Int32) &&& 31).toUInt32).toInt32) &&& (3 : Int32)), un, un, un, un, un, un, un, un, un, un, un, un, un, un, un, un, un, un, un, un] [(.int (((p5.toUInt32 >>> ((3 : Int32) &&& 31).toUInt32).toInt32) &&& (3 : Int32)))]))
      refine Go.stp (fun t_ k_ => XS.iconst X0.here hx rfl (hb hby at_67) k_) ?_
      show Go p.tables e below G (s₁.setTop (mkF m 68 #[lv q0, sd, lv q1, sd, lv q2, sd, lv q3, sd, iv p4, iv p5, lv b', sd, iv (((p5.toUInt32 >>> ((1 : Int32) &&& 31).toUInt32).toInt32) &&& (3 : Int32)), lv c', sd, iv (((p5.toUInt32 >>> ((3 : Int32) &&& 31).toUInt32).toInt32) &&& (3 : Int32)), un, un, un, un, un, un, un, un, un, un, un, un, un, un, un, un, un, un, un, un] [(.int (2 : Int32)), (.int (((p5.toUInt32 >>> ((3 : Int32) &&& 31).toUInt32).toInt32) &&& (3 : Int32)))]))
      by_cases hc68 : (((p5.toUInt32 >>> ((3 : Int32) &&& 31).toUInt32).toInt32) &&& (3 : Int32)) = (2 : Int32)
      · refine Go.stp (fun t_ k_ => XS.icmpNo X0.here hx rfl (hb hby at_68) rfl (teq hc68).2 k_) ?_
        show Go p.tables e below G (s₁.setTop (mkF m 71 #[lv q0, sd, lv q1, sd, lv q2, sd, lv q3, sd, iv p4, iv p5, lv b', sd, iv (((p5.toUInt32 >>> ((1 : Int32) &&& 31).toUInt32).toInt32) &&& (3 : Int32)), lv c', sd, iv (((p5.toUInt32 >>> ((3 : Int32) &&& 31).toUInt32).toInt32) &&& (3 : Int32)), un, un, un, un, un, un, un, un, un, un, un, un, un, un, un, un, un, un, un, un] []))
        refine Go.stp (fun t_ k_ => XS.lload X0.here hx rfl (hb hby at_71) rfl k_) ?_
        show Go p.tables e below G (s₁.setTop (mkF m 73 #[lv q0, sd, lv q1, sd, lv q2, sd, lv q3, sd, iv p4, iv p5, lv b', sd, iv (((p5.toUInt32 >>> ((1 : Int32) &&& 31).toUInt32).toInt32) &&& (3 : Int32)), lv c', sd, iv (((p5.toUInt32 >>> ((3 : Int32) &&& 31).toUInt32).toInt32) &&& (3 : Int32)), un, un, un, un, un, un, un, un, un, un, un, un, un, un, un, un, un, un, un, un] [(.long b')]))
        refine Go.stp (fun t_ k_ => XS.goto X0.here hx rfl (pc0 := 73) (pc' := 89) rfl (hb hby at_73) (by decide) (by decide) k_) ?_
        show Go p.tables e below G (s₁.setTop (mkF m 89 #[lv q0, sd, lv q1, sd, lv q2, sd, lv q3, sd, iv p4, iv p5, lv b', sd, iv (((p5.toUInt32 >>> ((1 : Int32) &&& 31).toUInt32).toInt32) &&& (3 : Int32)), lv c', sd, iv (((p5.toUInt32 >>> ((3 : Int32) &&& 31).toUInt32).toInt32) &&& (3 : Int32)), un, un, un, un, un, un, un, un, un, un, un, un, un, un, un, un, un, un, un, un] [(.long b')]))
        exact J3 _ (Or.inr (Or.inl ⟨hc58, hc68, rfl⟩))
      · refine Go.stp (fun t_ k_ => XS.icmpYes X0.here hx rfl (pc0 := 68) (pc' := 76) rfl (hb hby at_68) rfl (feq hc68).2 (by decide) (by decide) k_) ?_
        show Go p.tables e below G (s₁.setTop (mkF m 76 #[lv q0, sd, lv q1, sd, lv q2, sd, lv q3, sd, iv p4, iv p5, lv b', sd, iv (((p5.toUInt32 >>> ((1 : Int32) &&& 31).toUInt32).toInt32) &&& (3 : Int32)), lv c', sd, iv (((p5.toUInt32 >>> ((3 : Int32) &&& 31).toUInt32).toInt32) &&& (3 : Int32)), un, un, un, un, un, un, un, un, un, un, un, un, un, un, un, un, un, un, un, un] []))
        refine Go.stp (fun t_ k_ => XS.iload X0.here hx rfl (hb hby at_76) rfl k_) ?_
        show Go p.tables e below G (s₁.setTop (mkF m 78 #[lv q0, sd, lv q1, sd, lv q2, sd, lv q3, sd, iv p4, iv p5, lv b', sd, iv (((p5.toUInt32 >>> ((1 : Int32) &&& 31).toUInt32).toInt32) &&& (3 : Int32)), lv c', sd, iv (((p5.toUInt32 >>> ((3 : Int32) &&& 31).toUInt32).toInt32) &&& (3 : Int32)), un, un, un, un, un, un, un, un, un, un, un, un, un, un, un, un, un, un, un, un] [(.int (((p5.toUInt32 >>> ((3 : Int32) &&& 31).toUInt32).toInt32) &&& (3 : Int32)))]))
        refine Go.stp (fun t_ k_ => XS.iconst X0.here hx rfl (hb hby at_78) k_) ?_
        show Go p.tables e below G (s₁.setTop (mkF m 79 #[lv q0, sd, lv q1, sd, lv q2, sd, lv q3, sd, iv p4, iv p5, lv b', sd, iv (((p5.toUInt32 >>> ((1 : Int32) &&& 31).toUInt32).toInt32) &&& (3 : Int32)), lv c', sd, iv (((p5.toUInt32 >>> ((3 : Int32) &&& 31).toUInt32).toInt32) &&& (3 : Int32)), un, un, un, un, un, un, un, un, un, un, un, un, un, un, un, un, un, un, un, un] [(.int (3 : Int32)), (.int (((p5.toUInt32 >>> ((3 : Int32) &&& 31).toUInt32).toInt32) &&& (3 : Int32)))]))
        by_cases hc79 : (((p5.toUInt32 >>> ((3 : Int32) &&& 31).toUInt32).toInt32) &&& (3 : Int32)) = (3 : Int32)
        · refine Go.stp (fun t_ k_ => XS.icmpNo X0.here hx rfl (hb hby at_79) rfl (teq hc79).2 k_) ?_
          show Go p.tables e below G (s₁.setTop (mkF m 82 #[lv q0, sd, lv q1, sd, lv q2, sd, lv q3, sd, iv p4, iv p5, lv b', sd, iv (((p5.toUInt32 >>> ((1 : Int32) &&& 31).toUInt32).toInt32) &&& (3 : Int32)), lv c', sd, iv (((p5.toUInt32 >>> ((3 : Int32) &&& 31).toUInt32).toInt32) &&& (3 : Int32)), un, un, un, un, un, un, un, un, un, un, un, un, un, un, un, un, un, un, un, un] []))
          refine Go.stp (fun t_ k_ => XS.lload X0.here hx rfl (hb hby at_82) rfl k_) ?_
          show Go p.tables e below G (s₁.setTop (mkF m 84 #[lv q0, sd, lv q1, sd, lv q2, sd, lv q3, sd, iv p4, iv p5, lv b', sd, iv (((p5.toUInt32 >>> ((1 : Int32) &&& 31).toUInt32).toInt32) &&& (3 : Int32)), lv c', sd, iv (((p5.toUInt32 >>> ((3 : Int32) &&& 31).toUInt32).toInt32) &&& (3 : Int32)), un, un, un, un, un, un, un, un, un, un, un, un, un, un, un, un, un, un, un, un] [(.long c')]))
          refine Go.stp (fun t_ k_ => XS.goto X0.here hx rfl (pc0 := 84) (pc' := 89) rfl (hb hby at_84) (by decide) (by decide) k_) ?_
          show Go p.tables e below G (s₁.setTop (mkF m 89 #[lv q0, sd, lv q1, sd, lv q2, sd, lv q3, sd, iv p4, iv p5, lv b', sd, iv (((p5.toUInt32 >>> ((1 : Int32) &&& 31).toUInt32).toInt32) &&& (3 : Int32)), lv c', sd, iv (((p5.toUInt32 >>> ((3 : Int32) &&& 31).toUInt32).toInt32) &&& (3 : Int32)), un, un, un, un, un, un, un, un, un, un, un, un, un, un, un, un, un, un, un, un] [(.long c')]))
          exact J3 _ (Or.inr (Or.inr (Or.inl ⟨hc58, hc68, hc79, rfl⟩)))
        · refine Go.stp (fun t_ k_ => XS.icmpYes X0.here hx rfl (pc0 := 79) (pc' := 87) rfl (hb hby at_79) rfl (feq hc79).2 (by decide) (by decide) k_) ?_
          show Go p.tables e below G (s₁.setTop (mkF m 87 #[lv q0, sd, lv q1, sd, lv q2, sd, lv q3, sd, iv p4, iv p5, lv b', sd, iv (((p5.toUInt32 >>> ((1 : Int32) &&& 31).toUInt32).toInt32) &&& (3 : Int32)), lv c', sd, iv (((p5.toUInt32 >>> ((3 : Int32) &&& 31).toUInt32).toInt32) &&& (3 : Int32)), un, un, un, un, un, un, un, un, un, un, un, un, un, un, un, un, un, un, un, un] []))
          refine Go.stp (fun t_ k_ => XS.lload X0.here hx rfl (hb hby at_87) rfl k_) ?_
          show Go p.tables e below G (s₁.setTop (mkF m 89 #[lv q0, sd, lv q1, sd, lv q2, sd, lv q3, sd, iv p4, iv p5, lv b', sd, iv (((p5.toUInt32 >>> ((1 : Int32) &&& 31).toUInt32).toInt32) &&& (3 : Int32)), lv c', sd, iv (((p5.toUInt32 >>> ((3 : Int32) &&& 31).toUInt32).toInt32) &&& (3 : Int32)), un, un, un, un, un, un, un, un, un, un, un, un, un, un, un, un, un, un, un, un] [(.long q3)]))
          exact J3 _ (Or.inr (Or.inr (Or.inr ⟨hc58, hc68, hc79, rfl⟩)))
  intro d' hj89
  refine Go.stp (fun t_ k_ => XS.lstore X0.here hx rfl (hb hby at_89) rfl (l' := #[lv q0, sd, lv q1, sd, lv q2, sd, lv q3, sd, iv p4, iv p5, lv b', sd, iv (((p5.toUInt32 >>> ((1 : Int32) &&& 31).toUInt32).toInt32) &&& (3 : Int32)), lv c', sd, iv (((p5.toUInt32 >>> ((3 : Int32) &&& 31).toUInt32).toInt32) &&& (3 : Int32)), lv d', sd, un, un, un, un, un, un, un, un, un, un, un, un, un, un, un, un, un, un]) rfl k_) ?_
  show Go p.tables e below G (s₁.setTop (mkF m 91 #[lv q0, sd, lv q1, sd, lv q2, sd, lv q3, sd, iv p4, iv p5, lv b', sd, iv (((p5.toUInt32 >>> ((1 : Int32) &&& 31).toUInt32).toInt32) &&& (3 : Int32)), lv c', sd, iv (((p5.toUInt32 >>> ((3 : Int32) &&& 31).toUInt32).toInt32) &&& (3 : Int32)), lv d', sd, un, un, un, un, un, un, un, un, un, un, un, un, un, un, un, un, un, un] []))
  refine Go.stp (fun t_ k_ => XS.iconst X0.here hx rfl (hb hby at_91) k_) ?_
  show Go p.tables e below G (s₁.setTop (mkF m 92 #[lv q0, sd, lv q1, sd, lv q2, sd, lv q3, sd, iv p4, iv p5, lv b', sd, iv (((p5.toUInt32 >>> ((1 : Int32) &&& 31).toUInt32).toInt32) &&& (3 : Int32)), lv c', sd, iv (((p5.toUInt32 >>> ((3 : Int32) &&& 31).toUInt32).toInt32) &&& (3 : Int32)), lv d', sd, un, un, un, un, un, un, un, un, un, un, un, un, un, un, un, un, un, un] [(.int (3 : Int32))]))
  refine Go.stp (fun t_ k_ => XS.iload X0.here hx rfl (hb hby at_92) rfl k_) ?_
  show Go p.tables e below G (s₁.setTop (mkF m 94 #[lv q0, sd, lv q1, sd, lv q2, sd, lv q3, sd, iv p4, iv p5, lv b', sd, iv (((p5.toUInt32 >>> ((1 : Int32) &&& 31).toUInt32).toInt32) &&& (3 : Int32)), lv c', sd, iv (((p5.toUInt32 >>> ((3 : Int32) &&& 31).toUInt32).toInt32) &&& (3 : Int32)), lv d', sd, un, un, un, un, un, un, un, un, un, un, un, un, un, un, un, un, un, un] [(.int p5), (.int (3 : Int32))]))
  refine Go.stp (fun t_ k_ => XS.iconst X0.here hx rfl (hb hby at_94) k_) ?_
  show Go p.tables e below G (s₁.setTop (mkF m 95 #[lv q0, sd, lv q1, sd, lv q2, sd, lv q3, sd, iv p4, iv p5, lv b', sd, iv (((p5.toUInt32 >>> ((1 : Int32) &&& 31).toUInt32).toInt32) &&& (3 : Int32)), lv c', sd, iv (((p5.toUInt32 >>> ((3 : Int32) &&& 31).toUInt32).toInt32) &&& (3 : Int32)), lv d', sd, un, un, un, un, un, un, un, un, un, un, un, un, un, un, un, un, un, un] [(.int (5 : Int32)), (.int p5), (.int (3 : Int32))]))
  refine Go.stp (fun t_ k_ => XS.iushr X0.here hx rfl (hb hby at_95) rfl k_) ?_
  show Go p.tables e below G (s₁.setTop (mkF m 96 #[lv q0, sd, lv q1, sd, lv q2, sd, lv q3, sd, iv p4, iv p5, lv b', sd, iv (((p5.toUInt32 >>> ((1 : Int32) &&& 31).toUInt32).toInt32) &&& (3 : Int32)), lv c', sd, iv (((p5.toUInt32 >>> ((3 : Int32) &&& 31).toUInt32).toInt32) &&& (3 : Int32)), lv d', sd, un, un, un, un, un, un, un, un, un, un, un, un, un, un, un, un, un, un] [(.int ((p5.toUInt32 >>> ((5 : Int32) &&& 31).toUInt32).toInt32)), (.int (3 : Int32))]))
  refine Go.stp (fun t_ k_ => XS.iconst X0.here hx rfl (hb hby at_96) k_) ?_
  show Go p.tables e below G (s₁.setTop (mkF m 97 #[lv q0, sd, lv q1, sd, lv q2, sd, lv q3, sd, iv p4, iv p5, lv b', sd, iv (((p5.toUInt32 >>> ((1 : Int32) &&& 31).toUInt32).toInt32) &&& (3 : Int32)), lv c', sd, iv (((p5.toUInt32 >>> ((3 : Int32) &&& 31).toUInt32).toInt32) &&& (3 : Int32)), lv d', sd, un, un, un, un, un, un, un, un, un, un, un, un, un, un, un, un, un, un] [(.int (3 : Int32)), (.int ((p5.toUInt32 >>> ((5 : Int32) &&& 31).toUInt32).toInt32)), (.int (3 : Int32))]))
  refine Go.stp (fun t_ k_ => XS.iand X0.here hx rfl (hb hby at_97) rfl k_) ?_
  show Go p.tables e below G (s₁.setTop (mkF m 98 #[lv q0, sd, lv q1, sd, lv q2, sd, lv q3, sd, iv p4, iv p5, lv b', sd, iv (((p5.toUInt32 >>> ((1 : Int32) &&& 31).toUInt32).toInt32) &&& (3 : Int32)), lv c', sd, iv (((p5.toUInt32 >>> ((3 : Int32) &&& 31).toUInt32).toInt32) &&& (3 : Int32)), lv d', sd, un, un, un, un, un, un, un, un, un, un, un, un, un, un, un, un, un, un] [(.int (((p5.toUInt32 >>> ((5 : Int32) &&& 31).toUInt32).toInt32) &&& (3 : Int32))), (.int (3 : Int32))]))
  refine Go.stp (fun t_ k_ => XS.iadd X0.here hx rfl (hb hby at_98) rfl k_) ?_
  show Go p.tables e below G (s₁.setTop (mkF m 99 #[lv q0, sd, lv q1, sd, lv q2, sd, lv q3, sd, iv p4, iv p5, lv b', sd, iv (((p5.toUInt32 >>> ((1 : Int32) &&& 31).toUInt32).toInt32) &&& (3 : Int32)), lv c', sd, iv (((p5.toUInt32 >>> ((3 : Int32) &&& 31).toUInt32).toInt32) &&& (3 : Int32)), lv d', sd, un, un, un, un, un, un, un, un, un, un, un, un, un, un, un, un, un, un] [(.int ((3 : Int32) + (((p5.toUInt32 >>> ((5 : Int32) &&& 31).toUInt32).toInt32) &&& (3 : Int32))))]))
  refine Go.stp (fun t_ k_ => XS.istore X0.here hx rfl (hb hby at_99) rfl (l' := #[lv q0, sd, lv q1, sd, lv q2, sd, lv q3, sd, iv p4, iv p5, lv b', sd, iv (((p5.toUInt32 >>> ((1 : Int32) &&& 31).toUInt32).toInt32) &&& (3 : Int32)), lv c', sd, iv (((p5.toUInt32 >>> ((3 : Int32) &&& 31).toUInt32).toInt32) &&& (3 : Int32)), lv d', sd, iv ((3 : Int32) + (((p5.toUInt32 >>> ((5 : Int32) &&& 31).toUInt32).toInt32) &&& (3 : Int32))), un, un, un, un, un, un, un, un, un, un, un, un, un, un, un, un, un]) rfl k_) ?_
  show Go p.tables e below G (s₁.setTop (mkF m 101 #[lv q0, sd, lv q1, sd, lv q2, sd, lv q3, sd, iv p4, iv p5, lv b', sd, iv (((p5.toUInt32 >>> ((1 : Int32) &&& 31).toUInt32).toInt32) &&& (3 : Int32)), lv c', sd, iv (((p5.toUInt32 >>> ((3 : Int32) &&& 31).toUInt32).toInt32) &&& (3 : Int32)), lv d', sd, iv ((3 : Int32) + (((p5.toUInt32 >>> ((5 : Int32) &&& 31).toUInt32).toInt32) &&& (3 : Int32))), un, un, un, un, un, un, un, un, un, un, un, un, un, un, un, un, un] []))
  obtain ⟨cap, hcap'⟩ : ∃ z, z = ((3 : Int32) + (((p5.toUInt32 >>> ((5 : Int32) &&& 31).toUInt32).toInt32) &&& (3 : Int32))) := ⟨_, rfl⟩
  have hcc := own_cap (((p5.toUInt32 >>> ((5 : Int32) &&& 31).toUInt32).toInt32))
  rw [← hcap'] at hcc ⊢
  rcases hcc with hcap | hcap
  · show Go p.tables e below G (s₁.setTop (mkF m 101 #[lv q0, sd, lv q1, sd, lv q2, sd, lv q3, sd, iv p4, iv p5, lv b', sd, iv (((p5.toUInt32 >>> ((1 : Int32) &&& 31).toUInt32).toInt32) &&& (3 : Int32)), lv c', sd, iv (((p5.toUInt32 >>> ((3 : Int32) &&& 31).toUInt32).toInt32) &&& (3 : Int32)), lv d', sd, iv cap, un, un, un, un, un, un, un, un, un, un, un, un, un, un, un, un, un] []))
    refine Go.stp (fun t_ k_ => XS.iload X0.here hx rfl (hb hby at_101) rfl k_) ?_
    show Go p.tables e below G (s₁.setTop (mkF m 103 #[lv q0, sd, lv q1, sd, lv q2, sd, lv q3, sd, iv p4, iv p5, lv b', sd, iv (((p5.toUInt32 >>> ((1 : Int32) &&& 31).toUInt32).toInt32) &&& (3 : Int32)), lv c', sd, iv (((p5.toUInt32 >>> ((3 : Int32) &&& 31).toUInt32).toInt32) &&& (3 : Int32)), lv d', sd, iv cap, un, un, un, un, un, un, un, un, un, un, un, un, un, un, un, un, un] [(.int p4)]))
    refine Go.stp (fun t_ k_ => X0.ldcInt hx hown (mvT hZ (hw _ (List.mem_of_getElem? (i := 0) rfl))) (g := (mkF m 103 #[lv q0, sd, lv q1, sd, lv q2, sd, lv q3, sd, iv p4, iv p5, lv b', sd, iv (((p5.toUInt32 >>> ((1 : Int32) &&& 31).toUInt32).toInt32) &&& (3 : Int32)), lv c', sd, iv (((p5.toUInt32 >>> ((3 : Int32) &&& 31).toUInt32).toInt32) &&& (3 : Int32)), lv d', sd, iv cap, un, un, un, un, un, un, un, un, un, un, un, un, un, un, un, un, un] [(.int p4)])) rfl (hb hby at_103) t_ k_) ?_
    show Go p.tables e below G (s₁.setTop (mkF m 105 #[lv q0, sd, lv q1, sd, lv q2, sd, lv q3, sd, iv p4, iv p5, lv b', sd, iv (((p5.toUInt32 >>> ((1 : Int32) &&& 31).toUInt32).toInt32) &&& (3 : Int32)), lv c', sd, iv (((p5.toUInt32 >>> ((3 : Int32) &&& 31).toUInt32).toInt32) &&& (3 : Int32)), lv d', sd, iv cap, un, un, un, un, un, un, un, un, un, un, un, un, un, un, un, un, un] [(.int (2147483647 : Int32)), (.int p4)]))
    refine Go.stp (fun t_ k_ => XS.iand X0.here hx rfl (hb hby at_105) rfl k_) ?_
    show Go p.tables e below G (s₁.setTop (mkF m 106 #[lv q0, sd, lv q1, sd, lv q2, sd, lv q3, sd, iv p4, iv p5, lv b', sd, iv (((p5.toUInt32 >>> ((1 : Int32) &&& 31).toUInt32).toInt32) &&& (3 : Int32)), lv c', sd, iv (((p5.toUInt32 >>> ((3 : Int32) &&& 31).toUInt32).toInt32) &&& (3 : Int32)), lv d', sd, iv cap, un, un, un, un, un, un, un, un, un, un, un, un, un, un, un, un, un] [(.int (p4 &&& (2147483647 : Int32)))]))
    refine Go.stp (fun t_ k_ => XS.istore X0.here hx rfl (hb hby at_106) rfl (l' := #[lv q0, sd, lv q1, sd, lv q2, sd, lv q3, sd, iv p4, iv p5, lv b', sd, iv (((p5.toUInt32 >>> ((1 : Int32) &&& 31).toUInt32).toInt32) &&& (3 : Int32)), lv c', sd, iv (((p5.toUInt32 >>> ((3 : Int32) &&& 31).toUInt32).toInt32) &&& (3 : Int32)), lv d', sd, iv cap, iv (p4 &&& (2147483647 : Int32)), un, un, un, un, un, un, un, un, un, un, un, un, un, un, un, un]) rfl k_) ?_
    show Go p.tables e below G (s₁.setTop (mkF m 108 #[lv q0, sd, lv q1, sd, lv q2, sd, lv q3, sd, iv p4, iv p5, lv b', sd, iv (((p5.toUInt32 >>> ((1 : Int32) &&& 31).toUInt32).toInt32) &&& (3 : Int32)), lv c', sd, iv (((p5.toUInt32 >>> ((3 : Int32) &&& 31).toUInt32).toInt32) &&& (3 : Int32)), lv d', sd, iv cap, iv (p4 &&& (2147483647 : Int32)), un, un, un, un, un, un, un, un, un, un, un, un, un, un, un, un] []))
    suffices K4 : ∀ r0' : Int32, r0' = (p4 &&& (2147483647 : Int32)) → Go p.tables e below G (s₁.setTop (mkF m 108 #[lv q0, sd, lv q1, sd, lv q2, sd, lv q3, sd, iv p4, iv p5, lv b', sd, iv (((p5.toUInt32 >>> ((1 : Int32) &&& 31).toUInt32).toInt32) &&& (3 : Int32)), lv c', sd, iv (((p5.toUInt32 >>> ((3 : Int32) &&& 31).toUInt32).toInt32) &&& (3 : Int32)), lv d', sd, iv cap, iv r0', un, un, un, un, un, un, un, un, un, un, un, un, un, un, un, un] [])) from K4 _ rfl
    intro r0' hr0
    refine Go.stp (fun t_ k_ => XS.iload X0.here hx rfl (hb hby at_108) rfl k_) ?_
    show Go p.tables e below G (s₁.setTop (mkF m 110 #[lv q0, sd, lv q1, sd, lv q2, sd, lv q3, sd, iv p4, iv p5, lv b', sd, iv (((p5.toUInt32 >>> ((1 : Int32) &&& 31).toUInt32).toInt32) &&& (3 : Int32)), lv c', sd, iv (((p5.toUInt32 >>> ((3 : Int32) &&& 31).toUInt32).toInt32) &&& (3 : Int32)), lv d', sd, iv cap, iv r0', un, un, un, un, un, un, un, un, un, un, un, un, un, un, un, un] [(.int r0')]))
    refine Go.stp (fun t_ k_ => XS.iconst X0.here hx rfl (hb hby at_110) k_) ?_
    show Go p.tables e below G (s₁.setTop (mkF m 111 #[lv q0, sd, lv q1, sd, lv q2, sd, lv q3, sd, iv p4, iv p5, lv b', sd, iv (((p5.toUInt32 >>> ((1 : Int32) &&& 31).toUInt32).toInt32) &&& (3 : Int32)), lv c', sd, iv (((p5.toUInt32 >>> ((3 : Int32) &&& 31).toUInt32).toInt32) &&& (3 : Int32)), lv d', sd, iv cap, iv r0', un, un, un, un, un, un, un, un, un, un, un, un, un, un, un, un] [(.int (1 : Int32)), (.int r0')]))
    refine Go.stp (fun t_ k_ => XS.iadd X0.here hx rfl (hb hby at_111) rfl k_) ?_
    show Go p.tables e below G (s₁.setTop (mkF m 112 #[lv q0, sd, lv q1, sd, lv q2, sd, lv q3, sd, iv p4, iv p5, lv b', sd, iv (((p5.toUInt32 >>> ((1 : Int32) &&& 31).toUInt32).toInt32) &&& (3 : Int32)), lv c', sd, iv (((p5.toUInt32 >>> ((3 : Int32) &&& 31).toUInt32).toInt32) &&& (3 : Int32)), lv d', sd, iv cap, iv r0', un, un, un, un, un, un, un, un, un, un, un, un, un, un, un, un] [(.int (r0' + (1 : Int32)))]))
    refine Go.stp (fun t_ k_ => X0.ldcInt hx hown (mvT hZ (hw _ (List.mem_of_getElem? (i := 0) rfl))) (g := (mkF m 112 #[lv q0, sd, lv q1, sd, lv q2, sd, lv q3, sd, iv p4, iv p5, lv b', sd, iv (((p5.toUInt32 >>> ((1 : Int32) &&& 31).toUInt32).toInt32) &&& (3 : Int32)), lv c', sd, iv (((p5.toUInt32 >>> ((3 : Int32) &&& 31).toUInt32).toInt32) &&& (3 : Int32)), lv d', sd, iv cap, iv r0', un, un, un, un, un, un, un, un, un, un, un, un, un, un, un, un] [(.int (r0' + (1 : Int32)))])) rfl (hb hby at_112) t_ k_) ?_
    show Go p.tables e below G (s₁.setTop (mkF m 114 #[lv q0, sd, lv q1, sd, lv q2, sd, lv q3, sd, iv p4, iv p5, lv b', sd, iv (((p5.toUInt32 >>> ((1 : Int32) &&& 31).toUInt32).toInt32) &&& (3 : Int32)), lv c', sd, iv (((p5.toUInt32 >>> ((3 : Int32) &&& 31).toUInt32).toInt32) &&& (3 : Int32)), lv d', sd, iv cap, iv r0', un, un, un, un, un, un, un, un, un, un, un, un, un, un, un, un] [(.int (2147483647 : Int32)), (.int (r0' + (1 : Int32)))]))
    refine Go.stp (fun t_ k_ => XS.iand X0.here hx rfl (hb hby at_114) rfl k_) ?_
    show Go p.tables e below G (s₁.setTop (mkF m 115 #[lv q0, sd, lv q1, sd, lv q2, sd, lv q3, sd, iv p4, iv p5, lv b', sd, iv (((p5.toUInt32 >>> ((1 : Int32) &&& 31).toUInt32).toInt32) &&& (3 : Int32)), lv c', sd, iv (((p5.toUInt32 >>> ((3 : Int32) &&& 31).toUInt32).toInt32) &&& (3 : Int32)), lv d', sd, iv cap, iv r0', un, un, un, un, un, un, un, un, un, un, un, un, un, un, un, un] [(.int ((r0' + (1 : Int32)) &&& (2147483647 : Int32)))]))
    refine Go.stp (fun t_ k_ => XS.istore X0.here hx rfl (hb hby at_115) rfl (l' := #[lv q0, sd, lv q1, sd, lv q2, sd, lv q3, sd, iv p4, iv p5, lv b', sd, iv (((p5.toUInt32 >>> ((1 : Int32) &&& 31).toUInt32).toInt32) &&& (3 : Int32)), lv c', sd, iv (((p5.toUInt32 >>> ((3 : Int32) &&& 31).toUInt32).toInt32) &&& (3 : Int32)), lv d', sd, iv cap, iv r0', iv ((r0' + (1 : Int32)) &&& (2147483647 : Int32)), un, un, un, un, un, un, un, un, un, un, un, un, un, un, un]) rfl k_) ?_
    show Go p.tables e below G (s₁.setTop (mkF m 117 #[lv q0, sd, lv q1, sd, lv q2, sd, lv q3, sd, iv p4, iv p5, lv b', sd, iv (((p5.toUInt32 >>> ((1 : Int32) &&& 31).toUInt32).toInt32) &&& (3 : Int32)), lv c', sd, iv (((p5.toUInt32 >>> ((3 : Int32) &&& 31).toUInt32).toInt32) &&& (3 : Int32)), lv d', sd, iv cap, iv r0', iv ((r0' + (1 : Int32)) &&& (2147483647 : Int32)), un, un, un, un, un, un, un, un, un, un, un, un, un, un, un] []))
    suffices K5 : ∀ r1' : Int32, r1' = ((r0' + (1 : Int32)) &&& (2147483647 : Int32)) → Go p.tables e below G (s₁.setTop (mkF m 117 #[lv q0, sd, lv q1, sd, lv q2, sd, lv q3, sd, iv p4, iv p5, lv b', sd, iv (((p5.toUInt32 >>> ((1 : Int32) &&& 31).toUInt32).toInt32) &&& (3 : Int32)), lv c', sd, iv (((p5.toUInt32 >>> ((3 : Int32) &&& 31).toUInt32).toInt32) &&& (3 : Int32)), lv d', sd, iv cap, iv r0', iv r1', un, un, un, un, un, un, un, un, un, un, un, un, un, un, un] [])) from K5 _ rfl
    intro r1' hr1
    refine Go.stp (fun t_ k_ => XS.iload X0.here hx rfl (hb hby at_117) rfl k_) ?_
    show Go p.tables e below G (s₁.setTop (mkF m 119 #[lv q0, sd, lv q1, sd, lv q2, sd, lv q3, sd, iv p4, iv p5, lv b', sd, iv (((p5.toUInt32 >>> ((1 : Int32) &&& 31).toUInt32).toInt32) &&& (3 : Int32)), lv c', sd, iv (((p5.toUInt32 >>> ((3 : Int32) &&& 31).toUInt32).toInt32) &&& (3 : Int32)), lv d', sd, iv cap, iv r0', iv r1', un, un, un, un, un, un, un, un, un, un, un, un, un, un, un] [(.int r0')]))
    refine Go.stp (fun t_ k_ => XS.iconst X0.here hx rfl (hb hby at_119) k_) ?_
    show Go p.tables e below G (s₁.setTop (mkF m 120 #[lv q0, sd, lv q1, sd, lv q2, sd, lv q3, sd, iv p4, iv p5, lv b', sd, iv (((p5.toUInt32 >>> ((1 : Int32) &&& 31).toUInt32).toInt32) &&& (3 : Int32)), lv c', sd, iv (((p5.toUInt32 >>> ((3 : Int32) &&& 31).toUInt32).toInt32) &&& (3 : Int32)), lv d', sd, iv cap, iv r0', iv r1', un, un, un, un, un, un, un, un, un, un, un, un, un, un, un] [(.int (2 : Int32)), (.int r0')]))
    refine Go.stp (fun t_ k_ => XS.iadd X0.here hx rfl (hb hby at_120) rfl k_) ?_
    show Go p.tables e below G (s₁.setTop (mkF m 121 #[lv q0, sd, lv q1, sd, lv q2, sd, lv q3, sd, iv p4, iv p5, lv b', sd, iv (((p5.toUInt32 >>> ((1 : Int32) &&& 31).toUInt32).toInt32) &&& (3 : Int32)), lv c', sd, iv (((p5.toUInt32 >>> ((3 : Int32) &&& 31).toUInt32).toInt32) &&& (3 : Int32)), lv d', sd, iv cap, iv r0', iv r1', un, un, un, un, un, un, un, un, un, un, un, un, un, un, un] [(.int (r0' + (2 : Int32)))]))
    refine Go.stp (fun t_ k_ => X0.ldcInt hx hown (mvT hZ (hw _ (List.mem_of_getElem? (i := 0) rfl))) (g := (mkF m 121 #[lv q0, sd, lv q1, sd, lv q2, sd, lv q3, sd, iv p4, iv p5, lv b', sd, iv (((p5.toUInt32 >>> ((1 : Int32) &&& 31).toUInt32).toInt32) &&& (3 : Int32)), lv c', sd, iv (((p5.toUInt32 >>> ((3 : Int32) &&& 31).toUInt32).toInt32) &&& (3 : Int32)), lv d', sd, iv cap, iv r0', iv r1', un, un, un, un, un, un, un, un, un, un, un, un, un, un, un] [(.int (r0' + (2 : Int32)))])) rfl (hb hby at_121) t_ k_) ?_
    show Go p.tables e below G (s₁.setTop (mkF m 123 #[lv q0, sd, lv q1, sd, lv q2, sd, lv q3, sd, iv p4, iv p5, lv b', sd, iv (((p5.toUInt32 >>> ((1 : Int32) &&& 31).toUInt32).toInt32) &&& (3 : Int32)), lv c', sd, iv (((p5.toUInt32 >>> ((3 : Int32) &&& 31).toUInt32).toInt32) &&& (3 : Int32)), lv d', sd, iv cap, iv r0', iv r1', un, un, un, un, un, un, un, un, un, un, un, un, un, un, un] [(.int (2147483647 : Int32)), (.int (r0' + (2 : Int32)))]))
    refine Go.stp (fun t_ k_ => XS.iand X0.here hx rfl (hb hby at_123) rfl k_) ?_
    show Go p.tables e below G (s₁.setTop (mkF m 124 #[lv q0, sd, lv q1, sd, lv q2, sd, lv q3, sd, iv p4, iv p5, lv b', sd, iv (((p5.toUInt32 >>> ((1 : Int32) &&& 31).toUInt32).toInt32) &&& (3 : Int32)), lv c', sd, iv (((p5.toUInt32 >>> ((3 : Int32) &&& 31).toUInt32).toInt32) &&& (3 : Int32)), lv d', sd, iv cap, iv r0', iv r1', un, un, un, un, un, un, un, un, un, un, un, un, un, un, un] [(.int ((r0' + (2 : Int32)) &&& (2147483647 : Int32)))]))
    refine Go.stp (fun t_ k_ => XS.istore X0.here hx rfl (hb hby at_124) rfl (l' := #[lv q0, sd, lv q1, sd, lv q2, sd, lv q3, sd, iv p4, iv p5, lv b', sd, iv (((p5.toUInt32 >>> ((1 : Int32) &&& 31).toUInt32).toInt32) &&& (3 : Int32)), lv c', sd, iv (((p5.toUInt32 >>> ((3 : Int32) &&& 31).toUInt32).toInt32) &&& (3 : Int32)), lv d', sd, iv cap, iv r0', iv r1', iv ((r0' + (2 : Int32)) &&& (2147483647 : Int32)), un, un, un, un, un, un, un, un, un, un, un, un, un, un]) rfl k_) ?_
    show Go p.tables e below G (s₁.setTop (mkF m 126 #[lv q0, sd, lv q1, sd, lv q2, sd, lv q3, sd, iv p4, iv p5, lv b', sd, iv (((p5.toUInt32 >>> ((1 : Int32) &&& 31).toUInt32).toInt32) &&& (3 : Int32)), lv c', sd, iv (((p5.toUInt32 >>> ((3 : Int32) &&& 31).toUInt32).toInt32) &&& (3 : Int32)), lv d', sd, iv cap, iv r0', iv r1', iv ((r0' + (2 : Int32)) &&& (2147483647 : Int32)), un, un, un, un, un, un, un, un, un, un, un, un, un, un] []))
    suffices K6 : ∀ r2' : Int32, r2' = ((r0' + (2 : Int32)) &&& (2147483647 : Int32)) → Go p.tables e below G (s₁.setTop (mkF m 126 #[lv q0, sd, lv q1, sd, lv q2, sd, lv q3, sd, iv p4, iv p5, lv b', sd, iv (((p5.toUInt32 >>> ((1 : Int32) &&& 31).toUInt32).toInt32) &&& (3 : Int32)), lv c', sd, iv (((p5.toUInt32 >>> ((3 : Int32) &&& 31).toUInt32).toInt32) &&& (3 : Int32)), lv d', sd, iv cap, iv r0', iv r1', iv r2', un, un, un, un, un, un, un, un, un, un, un, un, un, un] [])) from K6 _ rfl
    intro r2' hr2
    refine Go.stp (fun t_ k_ => XS.iload X0.here hx rfl (hb hby at_126) rfl k_) ?_
    show Go p.tables e below G (s₁.setTop (mkF m 128 #[lv q0, sd, lv q1, sd, lv q2, sd, lv q3, sd, iv p4, iv p5, lv b', sd, iv (((p5.toUInt32 >>> ((1 : Int32) &&& 31).toUInt32).toInt32) &&& (3 : Int32)), lv c', sd, iv (((p5.toUInt32 >>> ((3 : Int32) &&& 31).toUInt32).toInt32) &&& (3 : Int32)), lv d', sd, iv cap, iv r0', iv r1', iv r2', un, un, un, un, un, un, un, un, un, un, un, un, un, un] [(.int r0')]))
    refine Go.stp (fun t_ k_ => XS.iconst X0.here hx rfl (hb hby at_128) k_) ?_
    show Go p.tables e below G (s₁.setTop (mkF m 129 #[lv q0, sd, lv q1, sd, lv q2, sd, lv q3, sd, iv p4, iv p5, lv b', sd, iv (((p5.toUInt32 >>> ((1 : Int32) &&& 31).toUInt32).toInt32) &&& (3 : Int32)), lv c', sd, iv (((p5.toUInt32 >>> ((3 : Int32) &&& 31).toUInt32).toInt32) &&& (3 : Int32)), lv d', sd, iv cap, iv r0', iv r1', iv r2', un, un, un, un, un, un, un, un, un, un, un, un, un, un] [(.int (3 : Int32)), (.int r0')]))
    refine Go.stp (fun t_ k_ => XS.iadd X0.here hx rfl (hb hby at_129) rfl k_) ?_
    show Go p.tables e below G (s₁.setTop (mkF m 130 #[lv q0, sd, lv q1, sd, lv q2, sd, lv q3, sd, iv p4, iv p5, lv b', sd, iv (((p5.toUInt32 >>> ((1 : Int32) &&& 31).toUInt32).toInt32) &&& (3 : Int32)), lv c', sd, iv (((p5.toUInt32 >>> ((3 : Int32) &&& 31).toUInt32).toInt32) &&& (3 : Int32)), lv d', sd, iv cap, iv r0', iv r1', iv r2', un, un, un, un, un, un, un, un, un, un, un, un, un, un] [(.int (r0' + (3 : Int32)))]))
    refine Go.stp (fun t_ k_ => X0.ldcInt hx hown (mvT hZ (hw _ (List.mem_of_getElem? (i := 0) rfl))) (g := (mkF m 130 #[lv q0, sd, lv q1, sd, lv q2, sd, lv q3, sd, iv p4, iv p5, lv b', sd, iv (((p5.toUInt32 >>> ((1 : Int32) &&& 31).toUInt32).toInt32) &&& (3 : Int32)), lv c', sd, iv (((p5.toUInt32 >>> ((3 : Int32) &&& 31).toUInt32).toInt32) &&& (3 : Int32)), lv d', sd, iv cap, iv r0', iv r1', iv r2', un, un, un, un, un, un, un, un, un, un, un, un, un, un] [(.int (r0' + (3 : Int32)))])) rfl (hb hby at_130) t_ k_) ?_
    show Go p.tables e below G (s₁.setTop (mkF m 132 #[lv q0, sd, lv q1, sd, lv q2, sd, lv q3, sd, iv p4, iv p5, lv b', sd, iv (((p5.toUInt32 >>> ((1 : Int32) &&& 31).toUInt32).toInt32) &&& (3 : Int32)), lv c', sd, iv (((p5.toUInt32 >>> ((3 : Int32) &&& 31).toUInt32).toInt32) &&& (3 : Int32)), lv d', sd, iv cap, iv r0', iv r1', iv r2', un, un, un, un, un, un, un, un, un, un, un, un, un, un] [(.int (2147483647 : Int32)), (.int (r0' + (3 : Int32)))]))
    refine Go.stp (fun t_ k_ => XS.iand X0.here hx rfl (hb hby at_132) rfl k_) ?_
    show Go p.tables e below G (s₁.setTop (mkF m 133 #[lv q0, sd, lv q1, sd, lv q2, sd, lv q3, sd, iv p4, iv p5, lv b', sd, iv (((p5.toUInt32 >>> ((1 : Int32) &&& 31).toUInt32).toInt32) &&& (3 : Int32)), lv c', sd, iv (((p5.toUInt32 >>> ((3 : Int32) &&& 31).toUInt32).toInt32) &&& (3 : Int32)), lv d', sd, iv cap, iv r0', iv r1', iv r2', un, un, un, un, un, un, un, un, un, un, un, un, un, un] [(.int ((r0' + (3 : Int32)) &&& (2147483647 : Int32)))]))
    refine Go.stp (fun t_ k_ => XS.istore X0.here hx rfl (hb hby at_133) rfl (l' := #[lv q0, sd, lv q1, sd, lv q2, sd, lv q3, sd, iv p4, iv p5, lv b', sd, iv (((p5.toUInt32 >>> ((1 : Int32) &&& 31).toUInt32).toInt32) &&& (3 : Int32)), lv c', sd, iv (((p5.toUInt32 >>> ((3 : Int32) &&& 31).toUInt32).toInt32) &&& (3 : Int32)), lv d', sd, iv cap, iv r0', iv r1', iv r2', iv ((r0' + (3 : Int32)) &&& (2147483647 : Int32)), un, un, un, un, un, un, un, un, un, un, un, un, un]) rfl k_) ?_
    show Go p.tables e below G (s₁.setTop (mkF m 135 #[lv q0, sd, lv q1, sd, lv q2, sd, lv q3, sd, iv p4, iv p5, lv b', sd, iv (((p5.toUInt32 >>> ((1 : Int32) &&& 31).toUInt32).toInt32) &&& (3 : Int32)), lv c', sd, iv (((p5.toUInt32 >>> ((3 : Int32) &&& 31).toUInt32).toInt32) &&& (3 : Int32)), lv d', sd, iv cap, iv r0', iv r1', iv r2', iv ((r0' + (3 : Int32)) &&& (2147483647 : Int32)), un, un, un, un, un, un, un, un, un, un, un, un, un] []))
    suffices K7 : ∀ r3' : Int32, r3' = ((r0' + (3 : Int32)) &&& (2147483647 : Int32)) → Go p.tables e below G (s₁.setTop (mkF m 135 #[lv q0, sd, lv q1, sd, lv q2, sd, lv q3, sd, iv p4, iv p5, lv b', sd, iv (((p5.toUInt32 >>> ((1 : Int32) &&& 31).toUInt32).toInt32) &&& (3 : Int32)), lv c', sd, iv (((p5.toUInt32 >>> ((3 : Int32) &&& 31).toUInt32).toInt32) &&& (3 : Int32)), lv d', sd, iv cap, iv r0', iv r1', iv r2', iv r3', un, un, un, un, un, un, un, un, un, un, un, un, un] [])) from K7 _ rfl
    intro r3' hr3
    have k0 : r0' ≠ (-1 : Int32) := by rw [hr0]; exact own_row _
    have k1 : r1' ≠ (-1 : Int32) := by rw [hr1]; exact own_row _
    have k2 : r2' ≠ (-1 : Int32) := by rw [hr2]; exact own_row _
    have k3 : r3' ≠ (-1 : Int32) := by rw [hr3]; exact own_row _
    obtain ⟨T8, h8, X8, e8, E8, A8, D8, -, st8⟩ := newO X0 hx hZ hown (hw _ (List.mem_of_getElem? (i := 1) rfl)) (hw _ (List.mem_of_getElem? (i := 2) rfl)) (hw _ (List.mem_of_getElem? (i := 3) rfl)) e0 (g := (mkF m 135 #[lv q0, sd, lv q1, sd, lv q2, sd, lv q3, sd, iv p4, iv p5, lv b', sd, iv (((p5.toUInt32 >>> ((1 : Int32) &&& 31).toUInt32).toInt32) &&& (3 : Int32)), lv c', sd, iv (((p5.toUInt32 >>> ((3 : Int32) &&& 31).toUInt32).toInt32) &&& (3 : Int32)), lv d', sd, iv cap, iv r0', iv r1', iv r2', iv r3', un, un, un, un, un, un, un, un, un, un, un, un, un] [])) rfl (hb hby at_135) (by decide) (by decide)
    obtain ⟨b8, g8⟩ : ∃ z, z = h0.size := ⟨_, rfl⟩
    rw [← g8] at A8 D8 st8
    have g_b8 : n0 ≤ b8 := Nat.le_trans Z0 (Nat.le_of_eq g8.symm)
    have Z8 : n0 ≤ h8.size := Nat.le_trans Z0 E8.1
    have f9 : Fld Z h8 b8 "com/example/chatterbench/chatterbench/data/IdIndex" "entity" "Lcom/example/chatterbench/chatterbench/data/Entity;" .null := D8 (Or.inr (hw _ (List.mem_of_getElem? (i := 11) rfl))) (ty := (.object "com/example/chatterbench/chatterbench/data/Entity")) (by decide)
    have f10 : Fld Z h8 b8 "com/example/chatterbench/chatterbench/data/IdIndex" "ids" "[J" .null := D8 (Or.inr (hw _ (List.mem_of_getElem? (i := 23) rfl))) (ty := (.array .long)) (by decide)
    have f11 : Fld Z h8 b8 "com/example/chatterbench/chatterbench/data/IdIndex" "rows" "[I" .null := D8 (Or.inr (hw _ (List.mem_of_getElem? (i := 26) rfl))) (ty := (.array .int)) (by decide)
    have f12 : Fld Z h8 b8 "com/example/chatterbench/chatterbench/data/IdIndex" "shift" "I" (.int (0 : Int32)) := D8 (Or.inr (hw _ (List.mem_of_getElem? (i := 32) rfl))) (ty := .int) (by decide)
    refine Go.stp (fun t_ k_ => st8 t_ k_) ?_
    show Go p.tables e below G (T8.setTop (mkF m 138 #[lv q0, sd, lv q1, sd, lv q2, sd, lv q3, sd, iv p4, iv p5, lv b', sd, iv (((p5.toUInt32 >>> ((1 : Int32) &&& 31).toUInt32).toInt32) &&& (3 : Int32)), lv c', sd, iv (((p5.toUInt32 >>> ((3 : Int32) &&& 31).toUInt32).toInt32) &&& (3 : Int32)), lv d', sd, iv cap, iv r0', iv r1', iv r2', iv r3', un, un, un, un, un, un, un, un, un, un, un, un, un] [(.ref b8)]))
    refine Go.stp (fun t_ k_ => XS.dup X8.here hx rfl (hb hby at_138) rfl rfl k_) ?_
    show Go p.tables e below G (T8.setTop (mkF m 139 #[lv q0, sd, lv q1, sd, lv q2, sd, lv q3, sd, iv p4, iv p5, lv b', sd, iv (((p5.toUInt32 >>> ((1 : Int32) &&& 31).toUInt32).toInt32) &&& (3 : Int32)), lv c', sd, iv (((p5.toUInt32 >>> ((3 : Int32) &&& 31).toUInt32).toInt32) &&& (3 : Int32)), lv d', sd, iv cap, iv r0', iv r1', iv r2', iv r3', un, un, un, un, un, un, un, un, un, un, un, un, un] [(.ref b8), (.ref b8)]))
    refine Go.stp (fun t_ k_ => XS.aconstNull X8.here hx rfl (hb hby at_139) k_) ?_
    show Go p.tables e below G (T8.setTop (mkF m 140 #[lv q0, sd, lv q1, sd, lv q2, sd, lv q3, sd, iv p4, iv p5, lv b', sd, iv (((p5.toUInt32 >>> ((1 : Int32) &&& 31).toUInt32).toInt32) &&& (3 : Int32)), lv c', sd, iv (((p5.toUInt32 >>> ((3 : Int32) &&& 31).toUInt32).toInt32) &&& (3 : Int32)), lv d', sd, iv cap, iv r0', iv r1', iv r2', iv r3', un, un, un, un, un, un, un, un, un, un, un, un, un] [.null, (.ref b8), (.ref b8)]))
    refine Go.stp (fun t_ k_ => XS.iload X8.here hx rfl (hb hby at_140) rfl k_) ?_
    show Go p.tables e below G (T8.setTop (mkF m 142 #[lv q0, sd, lv q1, sd, lv q2, sd, lv q3, sd, iv p4, iv p5, lv b', sd, iv (((p5.toUInt32 >>> ((1 : Int32) &&& 31).toUInt32).toInt32) &&& (3 : Int32)), lv c', sd, iv (((p5.toUInt32 >>> ((3 : Int32) &&& 31).toUInt32).toInt32) &&& (3 : Int32)), lv d', sd, iv cap, iv r0', iv r1', iv r2', iv r3', un, un, un, un, un, un, un, un, un, un, un, un, un] [(.int cap), .null, (.ref b8), (.ref b8)]))
    obtain ⟨_, _, ⟨T13, L13, k13, n13⟩, -, X13, ⟨Lc13, hQ13, l13, y13, z13⟩, st13⟩ := X8.specialBack hx (y := (⟨"com/example/chatterbench/chatterbench/data/IdIndex", "<init>", "(Lcom/example/chatterbench/chatterbench/data/Entity;I)V"⟩ : MethodName)) rfl hown (mvT hZ (hw _ (List.mem_of_getElem? (i := 4) rfl))) (mvT hZ (hw _ (List.mem_of_getElem? (i := 5) rfl))) (mvT hZ (hw _ (List.mem_of_getElem? (i := 6) rfl))) (by decide) (backOf (W := 1) (rm1_N8 l Z a0 hw [] b8  cap h8 n0 Z8 A8 f9 f10 f11 f12 g_b8 hcap) hZ (hw _ (List.mem_of_getElem? (i := 6) rfl)) (hw _ (List.mem_of_getElem? (i := 3) rfl)) (by decide) (by decide)) (g := (mkF m 142 #[lv q0, sd, lv q1, sd, lv q2, sd, lv q3, sd, iv p4, iv p5, lv b', sd, iv (((p5.toUInt32 >>> ((1 : Int32) &&& 31).toUInt32).toInt32) &&& (3 : Int32)), lv c', sd, iv (((p5.toUInt32 >>> ((3 : Int32) &&& 31).toUInt32).toInt32) &&& (3 : Int32)), lv d', sd, iv cap, iv r0', iv r1', iv r2', iv r3', un, un, un, un, un, un, un, un, un, un, un, un, un] [(.int cap), .null, (.ref b8), (.ref b8)])) rfl (by rw [hml]; rfl) (Steps.refl _) (a := b8) (argsL := [.null, (.int cap)]) (rest := [(.ref b8)]) (lenOf pd_4 rfl) rfl (by show 2 * 0 + _ ≤ _; exact Nat.le_of_eq rfl) (hb hby at_142) (fun _ _ => ⟨rfl, e8, (by decide : 1 + 2 ≤ _), (by decide : 4 + 16 ≤ _)⟩)
    dsimp only [Pt.U, Pt.locs, Pt.cells, Pt.slots] at X13 l13 y13 z13 st13 hQ13
    subst l13 y13 z13
    obtain ⟨rfl, Nq13, Kc13, ra, ia, g_ra, g_ia, hri, hxr, hxi, Ex, Fr', Fi, Fs, Ira, Iia⟩ := hQ13
    have N13 := Fr.app N0 Nq13
    have f14 : Exa Z T13.heap b8 "com/example/chatterbench/chatterbench/data/IdIndex" := A8.keep Kc13
    have Z13 : n0 ≤ T13.heap.size := Nat.le_trans Z8 Kc13.1
    obtain ⟨m0, hm0⟩ : ∃ z : Int64 → Int32, z = (fun _ => (-1 : Int32)) := ⟨_, rfl⟩
    have rp0 : Rep 8 own_P8 (fun _ => (-1 : Int32)) (fun _ => (0 : Int64)) m0 [] := by rw [hm0]; exact rep_nil 8 own_P8 (fun _ => (0 : Int64)) (by decide)
    refine Go.stp (fun t_ k_ => st13.trans k_) ?_
    show Go p.tables e below G (T13.setTop (mkF m 145 #[lv q0, sd, lv q1, sd, lv q2, sd, lv q3, sd, iv p4, iv p5, lv b', sd, iv (((p5.toUInt32 >>> ((1 : Int32) &&& 31).toUInt32).toInt32) &&& (3 : Int32)), lv c', sd, iv (((p5.toUInt32 >>> ((3 : Int32) &&& 31).toUInt32).toInt32) &&& (3 : Int32)), lv d', sd, iv cap, iv r0', iv r1', iv r2', iv r3', un, un, un, un, un, un, un, un, un, un, un, un, un] [(.ref b8)]))
    refine Go.stp (fun t_ k_ => XS.astore X13.here hx rfl (hb hby at_145) rfl rfl (l' := #[lv q0, sd, lv q1, sd, lv q2, sd, lv q3, sd, iv p4, iv p5, lv b', sd, iv (((p5.toUInt32 >>> ((1 : Int32) &&& 31).toUInt32).toInt32) &&& (3 : Int32)), lv c', sd, iv (((p5.toUInt32 >>> ((3 : Int32) &&& 31).toUInt32).toInt32) &&& (3 : Int32)), lv d', sd, iv cap, iv r0', iv r1', iv r2', iv r3', rv b8, un, un, un, un, un, un, un, un, un, un, un, un]) rfl k_) ?_
    show Go p.tables e below G (T13.setTop (mkF m 147 #[lv q0, sd, lv q1, sd, lv q2, sd, lv q3, sd, iv p4, iv p5, lv b', sd, iv (((p5.toUInt32 >>> ((1 : Int32) &&& 31).toUInt32).toInt32) &&& (3 : Int32)), lv c', sd, iv (((p5.toUInt32 >>> ((3 : Int32) &&& 31).toUInt32).toInt32) &&& (3 : Int32)), lv d', sd, iv cap, iv r0', iv r1', iv r2', iv r3', rv b8, un, un, un, un, un, un, un, un, un, un, un, un] []))
    refine Go.stp (fun t_ k_ => XS.aload X13.here hx rfl (hb hby at_147) rfl rfl k_) ?_
    show Go p.tables e below G (T13.setTop (mkF m 149 #[lv q0, sd, lv q1, sd, lv q2, sd, lv q3, sd, iv p4, iv p5, lv b', sd, iv (((p5.toUInt32 >>> ((1 : Int32) &&& 31).toUInt32).toInt32) &&& (3 : Int32)), lv c', sd, iv (((p5.toUInt32 >>> ((3 : Int32) &&& 31).toUInt32).toInt32) &&& (3 : Int32)), lv d', sd, iv cap, iv r0', iv r1', iv r2', iv r3', rv b8, un, un, un, un, un, un, un, un, un, un, un, un] [(.ref b8)]))
    refine Go.stp (fun t_ k_ => XS.lloadN X13.here hx rfl (hb hby at_149) rfl k_) ?_
    show Go p.tables e below G (T13.setTop (mkF m 150 #[lv q0, sd, lv q1, sd, lv q2, sd, lv q3, sd, iv p4, iv p5, lv b', sd, iv (((p5.toUInt32 >>> ((1 : Int32) &&& 31).toUInt32).toInt32) &&& (3 : Int32)), lv c', sd, iv (((p5.toUInt32 >>> ((3 : Int32) &&& 31).toUInt32).toInt32) &&& (3 : Int32)), lv d', sd, iv cap, iv r0', iv r1', iv r2', iv r3', rv b8, un, un, un, un, un, un, un, un, un, un, un, un] [(.long q0), (.ref b8)]))
    refine Go.stp (fun t_ k_ => XS.iload X13.here hx rfl (hb hby at_150) rfl k_) ?_
    show Go p.tables e below G (T13.setTop (mkF m 152 #[lv q0, sd, lv q1, sd, lv q2, sd, lv q3, sd, iv p4, iv p5, lv b', sd, iv (((p5.toUInt32 >>> ((1 : Int32) &&& 31).toUInt32).toInt32) &&& (3 : Int32)), lv c', sd, iv (((p5.toUInt32 >>> ((3 : Int32) &&& 31).toUInt32).toInt32) &&& (3 : Int32)), lv d', sd, iv cap, iv r0', iv r1', iv r2', iv r3', rv b8, un, un, un, un, un, un, un, un, un, un, un, un] [(.int r0'), (.long q0), (.ref b8)]))
    obtain ⟨cq15, kq15, q15a, q15b, q15c⟩ := isOf hZ rfl Ex
    obtain ⟨_, _, ⟨T15, L15, k15, n15⟩, -, X15, ⟨Lc15, hQ15, l15, y15, z15⟩, st15⟩ := X13.virtualBack hx (y := (⟨"com/example/chatterbench/chatterbench/data/IdIndex", "add", "(JI)Z"⟩ : MethodName)) (z := (⟨"com/example/chatterbench/chatterbench/data/IdIndex", "add", "(JI)Z"⟩ : MethodName)) hown (mvT hZ (hw _ (List.mem_of_getElem? (i := 33) rfl))) (mvT hZ (hw _ (List.mem_of_getElem? (i := 34) rfl))) (notFace_of_selects (args := #[]) (mvT hZ (hw _ (List.mem_of_getElem? (i := 36) rfl)))) (mvT hZ (hw _ (List.mem_of_getElem? (i := 36) rfl))) (mvT hZ (hw _ (List.mem_of_getElem? (i := 35) rfl))) (by decide) (backOf (W := 0) (rm6_8 l Z a0 hw [] b8 q0 r0' ra ia (fun _ => (-1 : Int32)) (fun _ => (0 : Int64)) m0 [] T13.heap n0 Z13 Fr' Fi Ira Iia Fs Ex g_ra g_ia hri hxr hxi rp0 (by decide) k0) hZ (hw _ (List.mem_of_getElem? (i := 37) rfl)) (hw _ (List.mem_of_getElem? (i := 3) rfl)) (by decide) (by decide)) q15a q15c (g := (mkF m 152 #[lv q0, sd, lv q1, sd, lv q2, sd, lv q3, sd, iv p4, iv p5, lv b', sd, iv (((p5.toUInt32 >>> ((1 : Int32) &&& 31).toUInt32).toInt32) &&& (3 : Int32)), lv c', sd, iv (((p5.toUInt32 >>> ((3 : Int32) &&& 31).toUInt32).toInt32) &&& (3 : Int32)), lv d', sd, iv cap, iv r0', iv r1', iv r2', iv r3', rv b8, un, un, un, un, un, un, un, un, un, un, un, un] [(.int r0'), (.long q0), (.ref b8)])) rfl (by rw [hml]; rfl) (Steps.refl _) (argsL := [(.long q0), (.int r0')]) (rest := []) (lenOf pd_5 rfl) rfl (by show 2 * 0 + _ ≤ _; exact Nat.le_of_eq rfl) (hb hby at_152) (fun _ _ => ⟨rfl, rfl, (by decide : 3 + 0 ≤ _), (by decide : 20 + 0 ≤ _)⟩)
    dsimp only [Pt.U, Pt.locs, Pt.cells, Pt.slots] at X15 l15 y15 z15 st15 hQ15
    subst l15 y15 z15
    obtain ⟨rfl, Nq15, Kc15, R15, I15, F15, Ja15, Jb15, rp15, hl15⟩ := hQ15
    have N15 := Fr.app N13 Nq15
    have f16 : Exa Z T15.heap b8 "com/example/chatterbench/chatterbench/data/IdIndex" := Ex.keep Kc15
    have f17 : Fld Z T15.heap b8 "com/example/chatterbench/chatterbench/data/IdIndex" "rows" "[I" (.ref ra) := Fr'.keep Kc15 (fun q => by simp only [List.mem_cons, List.not_mem_nil, or_false] at q; exact q.elim (fun q => hxr q) (fun q => hxi q))
    have f18 : Fld Z T15.heap b8 "com/example/chatterbench/chatterbench/data/IdIndex" "ids" "[J" (.ref ia) := Fi.keep Kc15 (fun q => by simp only [List.mem_cons, List.not_mem_nil, or_false] at q; exact q.elim (fun q => hxr q) (fun q => hxi q))
    have f19 : Fld Z T15.heap b8 "com/example/chatterbench/chatterbench/data/IdIndex" "shift" "I" (.int (61 : Int32)) := Fs.keep Kc15 (fun q => by simp only [List.mem_cons, List.not_mem_nil, or_false] at q; exact q.elim (fun q => hxr q) (fun q => hxi q))
    have Z15 : n0 ≤ T15.heap.size := Nat.le_trans Z13 Kc15.1
    obtain ⟨m15, hm15⟩ : ∃ z, z = (if m0 q0 = (-1 : Int32) then updm m0 q0 r0' else m0) := ⟨_, rfl⟩
    rw [← hm15] at rp15
    simp only [List.length_nil] at hl15
    have hF15 : F15.length + 1 < 8 := by omega
    refine Go.stp (fun t_ k_ => st15.trans k_) ?_
    show Go p.tables e below G (T15.setTop (mkF m 155 #[lv q0, sd, lv q1, sd, lv q2, sd, lv q3, sd, iv p4, iv p5, lv b', sd, iv (((p5.toUInt32 >>> ((1 : Int32) &&& 31).toUInt32).toInt32) &&& (3 : Int32)), lv c', sd, iv (((p5.toUInt32 >>> ((3 : Int32) &&& 31).toUInt32).toInt32) &&& (3 : Int32)), lv d', sd, iv cap, iv r0', iv r1', iv r2', iv r3', rv b8, un, un, un, un, un, un, un, un, un, un, un, un] [(.int (if m0 q0 = (-1 : Int32) then (1 : Int32) else (0 : Int32)))]))
    refine Go.stp (fun t_ k_ => XS.istore X15.here hx rfl (hb hby at_155) rfl (l' := #[lv q0, sd, lv q1, sd, lv q2, sd, lv q3, sd, iv p4, iv p5, lv b', sd, iv (((p5.toUInt32 >>> ((1 : Int32) &&& 31).toUInt32).toInt32) &&& (3 : Int32)), lv c', sd, iv (((p5.toUInt32 >>> ((3 : Int32) &&& 31).toUInt32).toInt32) &&& (3 : Int32)), lv d', sd, iv cap, iv r0', iv r1', iv r2', iv r3', rv b8, iv (if m0 q0 = (-1 : Int32) then (1 : Int32) else (0 : Int32)), un, un, un, un, un, un, un, un, un, un, un]) rfl k_) ?_
    show Go p.tables e below G (T15.setTop (mkF m 157 #[lv q0, sd, lv q1, sd, lv q2, sd, lv q3, sd, iv p4, iv p5, lv b', sd, iv (((p5.toUInt32 >>> ((1 : Int32) &&& 31).toUInt32).toInt32) &&& (3 : Int32)), lv c', sd, iv (((p5.toUInt32 >>> ((3 : Int32) &&& 31).toUInt32).toInt32) &&& (3 : Int32)), lv d', sd, iv cap, iv r0', iv r1', iv r2', iv r3', rv b8, iv (if m0 q0 = (-1 : Int32) then (1 : Int32) else (0 : Int32)), un, un, un, un, un, un, un, un, un, un, un] []))
    refine Go.stp (fun t_ k_ => XS.aload X15.here hx rfl (hb hby at_157) rfl rfl k_) ?_
    show Go p.tables e below G (T15.setTop (mkF m 159 #[lv q0, sd, lv q1, sd, lv q2, sd, lv q3, sd, iv p4, iv p5, lv b', sd, iv (((p5.toUInt32 >>> ((1 : Int32) &&& 31).toUInt32).toInt32) &&& (3 : Int32)), lv c', sd, iv (((p5.toUInt32 >>> ((3 : Int32) &&& 31).toUInt32).toInt32) &&& (3 : Int32)), lv d', sd, iv cap, iv r0', iv r1', iv r2', iv r3', rv b8, iv (if m0 q0 = (-1 : Int32) then (1 : Int32) else (0 : Int32)), un, un, un, un, un, un, un, un, un, un, un] [(.ref b8)]))
    refine Go.stp (fun t_ k_ => XS.lload X15.here hx rfl (hb hby at_159) rfl k_) ?_
    show Go p.tables e below G (T15.setTop (mkF m 161 #[lv q0, sd, lv q1, sd, lv q2, sd, lv q3, sd, iv p4, iv p5, lv b', sd, iv (((p5.toUInt32 >>> ((1 : Int32) &&& 31).toUInt32).toInt32) &&& (3 : Int32)), lv c', sd, iv (((p5.toUInt32 >>> ((3 : Int32) &&& 31).toUInt32).toInt32) &&& (3 : Int32)), lv d', sd, iv cap, iv r0', iv r1', iv r2', iv r3', rv b8, iv (if m0 q0 = (-1 : Int32) then (1 : Int32) else (0 : Int32)), un, un, un, un, un, un, un, un, un, un, un] [(.long b'), (.ref b8)]))
    refine Go.stp (fun t_ k_ => XS.iload X15.here hx rfl (hb hby at_161) rfl k_) ?_
    show Go p.tables e below G (T15.setTop (mkF m 163 #[lv q0, sd, lv q1, sd, lv q2, sd, lv q3, sd, iv p4, iv p5, lv b', sd, iv (((p5.toUInt32 >>> ((1 : Int32) &&& 31).toUInt32).toInt32) &&& (3 : Int32)), lv c', sd, iv (((p5.toUInt32 >>> ((3 : Int32) &&& 31).toUInt32).toInt32) &&& (3 : Int32)), lv d', sd, iv cap, iv r0', iv r1', iv r2', iv r3', rv b8, iv (if m0 q0 = (-1 : Int32) then (1 : Int32) else (0 : Int32)), un, un, un, un, un, un, un, un, un, un, un] [(.int r1'), (.long b'), (.ref b8)]))
    obtain ⟨cq20, kq20, q20a, q20b, q20c⟩ := isOf hZ rfl f16
    obtain ⟨_, _, ⟨T20, L20, k20, n20⟩, -, X20, ⟨Lc20, hQ20, l20, y20, z20⟩, st20⟩ := X15.virtualBack hx (y := (⟨"com/example/chatterbench/chatterbench/data/IdIndex", "add", "(JI)Z"⟩ : MethodName)) (z := (⟨"com/example/chatterbench/chatterbench/data/IdIndex", "add", "(JI)Z"⟩ : MethodName)) hown (mvT hZ (hw _ (List.mem_of_getElem? (i := 33) rfl))) (mvT hZ (hw _ (List.mem_of_getElem? (i := 34) rfl))) (notFace_of_selects (args := #[]) (mvT hZ (hw _ (List.mem_of_getElem? (i := 36) rfl)))) (mvT hZ (hw _ (List.mem_of_getElem? (i := 36) rfl))) (mvT hZ (hw _ (List.mem_of_getElem? (i := 35) rfl))) (by decide) (backOf (W := 0) (rm6_8 l Z a0 hw [] b8 b' r1' ra ia R15 I15 m15 F15 T15.heap n0 Z15 f17 f18 Ja15 Jb15 f19 f16 g_ra g_ia hri hxr hxi rp15 hF15 k1) hZ (hw _ (List.mem_of_getElem? (i := 37) rfl)) (hw _ (List.mem_of_getElem? (i := 3) rfl)) (by decide) (by decide)) q20a q20c (g := (mkF m 163 #[lv q0, sd, lv q1, sd, lv q2, sd, lv q3, sd, iv p4, iv p5, lv b', sd, iv (((p5.toUInt32 >>> ((1 : Int32) &&& 31).toUInt32).toInt32) &&& (3 : Int32)), lv c', sd, iv (((p5.toUInt32 >>> ((3 : Int32) &&& 31).toUInt32).toInt32) &&& (3 : Int32)), lv d', sd, iv cap, iv r0', iv r1', iv r2', iv r3', rv b8, iv (if m0 q0 = (-1 : Int32) then (1 : Int32) else (0 : Int32)), un, un, un, un, un, un, un, un, un, un, un] [(.int r1'), (.long b'), (.ref b8)])) rfl (by rw [hml]; rfl) (Steps.refl _) (argsL := [(.long b'), (.int r1')]) (rest := []) (lenOf pd_5 rfl) rfl (by show 2 * 0 + _ ≤ _; exact Nat.le_of_eq rfl) (hb hby at_163) (fun _ _ => ⟨rfl, rfl, (by decide : 3 + 0 ≤ _), (by decide : 20 + 0 ≤ _)⟩)
    dsimp only [Pt.U, Pt.locs, Pt.cells, Pt.slots] at X20 l20 y20 z20 st20 hQ20
    subst l20 y20 z20
    obtain ⟨rfl, Nq20, Kc20, R20, I20, F20, Ja20, Jb20, rp20, hl20⟩ := hQ20
    have N20 := Fr.app N15 Nq20
    have f21 : Exa Z T20.heap b8 "com/example/chatterbench/chatterbench/data/IdIndex" := f16.keep Kc20
    have f22 : Fld Z T20.heap b8 "com/example/chatterbench/chatterbench/data/IdIndex" "rows" "[I" (.ref ra) := f17.keep Kc20 (fun q => by simp only [List.mem_cons, List.not_mem_nil, or_false] at q; exact q.elim (fun q => hxr q) (fun q => hxi q))
    have f23 : Fld Z T20.heap b8 "com/example/chatterbench/chatterbench/data/IdIndex" "ids" "[J" (.ref ia) := f18.keep Kc20 (fun q => by simp only [List.mem_cons, List.not_mem_nil, or_false] at q; exact q.elim (fun q => hxr q) (fun q => hxi q))
    have f24 : Fld Z T20.heap b8 "com/example/chatterbench/chatterbench/data/IdIndex" "shift" "I" (.int (61 : Int32)) := f19.keep Kc20 (fun q => by simp only [List.mem_cons, List.not_mem_nil, or_false] at q; exact q.elim (fun q => hxr q) (fun q => hxi q))
    have Z20 : n0 ≤ T20.heap.size := Nat.le_trans Z15 Kc20.1
    obtain ⟨m20, hm20⟩ : ∃ z, z = (if m15 b' = (-1 : Int32) then updm m15 b' r1' else m15) := ⟨_, rfl⟩
    rw [← hm20] at rp20
    skip
    have hF20 : F20.length + 1 < 8 := by omega
    refine Go.stp (fun t_ k_ => st20.trans k_) ?_
    show Go p.tables e below G (T20.setTop (mkF m 166 #[lv q0, sd, lv q1, sd, lv q2, sd, lv q3, sd, iv p4, iv p5, lv b', sd, iv (((p5.toUInt32 >>> ((1 : Int32) &&& 31).toUInt32).toInt32) &&& (3 : Int32)), lv c', sd, iv (((p5.toUInt32 >>> ((3 : Int32) &&& 31).toUInt32).toInt32) &&& (3 : Int32)), lv d', sd, iv cap, iv r0', iv r1', iv r2', iv r3', rv b8, iv (if m0 q0 = (-1 : Int32) then (1 : Int32) else (0 : Int32)), un, un, un, un, un, un, un, un, un, un, un] [(.int (if m15 b' = (-1 : Int32) then (1 : Int32) else (0 : Int32)))]))
    refine Go.stp (fun t_ k_ => XS.istore X20.here hx rfl (hb hby at_166) rfl (l' := #[lv q0, sd, lv q1, sd, lv q2, sd, lv q3, sd, iv p4, iv p5, lv b', sd, iv (((p5.toUInt32 >>> ((1 : Int32) &&& 31).toUInt32).toInt32) &&& (3 : Int32)), lv c', sd, iv (((p5.toUInt32 >>> ((3 : Int32) &&& 31).toUInt32).toInt32) &&& (3 : Int32)), lv d', sd, iv cap, iv r0', iv r1', iv r2', iv r3', rv b8, iv (if m0 q0 = (-1 : Int32) then (1 : Int32) else (0 : Int32)), iv (if m15 b' = (-1 : Int32) then (1 : Int32) else (0 : Int32)), un, un, un, un, un, un, un, un, un, un]) rfl k_) ?_
    show Go p.tables e below G (T20.setTop (mkF m 168 #[lv q0, sd, lv q1, sd, lv q2, sd, lv q3, sd, iv p4, iv p5, lv b', sd, iv (((p5.toUInt32 >>> ((1 : Int32) &&& 31).toUInt32).toInt32) &&& (3 : Int32)), lv c', sd, iv (((p5.toUInt32 >>> ((3 : Int32) &&& 31).toUInt32).toInt32) &&& (3 : Int32)), lv d', sd, iv cap, iv r0', iv r1', iv r2', iv r3', rv b8, iv (if m0 q0 = (-1 : Int32) then (1 : Int32) else (0 : Int32)), iv (if m15 b' = (-1 : Int32) then (1 : Int32) else (0 : Int32)), un, un, un, un, un, un, un, un, un, un] []))
    refine Go.stp (fun t_ k_ => XS.aload X20.here hx rfl (hb hby at_168) rfl rfl k_) ?_
    show Go p.tables e below G (T20.setTop (mkF m 170 #[lv q0, sd, lv q1, sd, lv q2, sd, lv q3, sd, iv p4, iv p5, lv b', sd, iv (((p5.toUInt32 >>> ((1 : Int32) &&& 31).toUInt32).toInt32) &&& (3 : Int32)), lv c', sd, iv (((p5.toUInt32 >>> ((3 : Int32) &&& 31).toUInt32).toInt32) &&& (3 : Int32)), lv d', sd, iv cap, iv r0', iv r1', iv r2', iv r3', rv b8, iv (if m0 q0 = (-1 : Int32) then (1 : Int32) else (0 : Int32)), iv (if m15 b' = (-1 : Int32) then (1 : Int32) else (0 : Int32)), un, un, un, un, un, un, un, un, un, un] [(.ref b8)]))
    refine Go.stp (fun t_ k_ => XS.lload X20.here hx rfl (hb hby at_170) rfl k_) ?_
    show Go p.tables e below G (T20.setTop (mkF m 172 #[lv q0, sd, lv q1, sd, lv q2, sd, lv q3, sd, iv p4, iv p5, lv b', sd, iv (((p5.toUInt32 >>> ((1 : Int32) &&& 31).toUInt32).toInt32) &&& (3 : Int32)), lv c', sd, iv (((p5.toUInt32 >>> ((3 : Int32) &&& 31).toUInt32).toInt32) &&& (3 : Int32)), lv d', sd, iv cap, iv r0', iv r1', iv r2', iv r3', rv b8, iv (if m0 q0 = (-1 : Int32) then (1 : Int32) else (0 : Int32)), iv (if m15 b' = (-1 : Int32) then (1 : Int32) else (0 : Int32)), un, un, un, un, un, un, un, un, un, un] [(.long c'), (.ref b8)]))
    refine Go.stp (fun t_ k_ => XS.iload X20.here hx rfl (hb hby at_172) rfl k_) ?_
    show Go p.tables e below G (T20.setTop (mkF m 174 #[lv q0, sd, lv q1, sd, lv q2, sd, lv q3, sd, iv p4, iv p5, lv b', sd, iv (((p5.toUInt32 >>> ((1 : Int32) &&& 31).toUInt32).toInt32) &&& (3 : Int32)), lv c', sd, iv (((p5.toUInt32 >>> ((3 : Int32) &&& 31).toUInt32).toInt32) &&& (3 : Int32)), lv d', sd, iv cap, iv r0', iv r1', iv r2', iv r3', rv b8, iv (if m0 q0 = (-1 : Int32) then (1 : Int32) else (0 : Int32)), iv (if m15 b' = (-1 : Int32) then (1 : Int32) else (0 : Int32)), un, un, un, un, un, un, un, un, un, un] [(.int r2'), (.long c'), (.ref b8)]))
    obtain ⟨cq25, kq25, q25a, q25b, q25c⟩ := isOf hZ rfl f21
    obtain ⟨_, _, ⟨T25, L25, k25, n25⟩, -, X25, ⟨Lc25, hQ25, l25, y25, z25⟩, st25⟩ := X20.virtualBack hx (y := (⟨"com/example/chatterbench/chatterbench/data/IdIndex", "add", "(JI)Z"⟩ : MethodName)) (z := (⟨"com/example/chatterbench/chatterbench/data/IdIndex", "add", "(JI)Z"⟩ : MethodName)) hown (mvT hZ (hw _ (List.mem_of_getElem? (i := 33) rfl))) (mvT hZ (hw _ (List.mem_of_getElem? (i := 34) rfl))) (notFace_of_selects (args := #[]) (mvT hZ (hw _ (List.mem_of_getElem? (i := 36) rfl)))) (mvT hZ (hw _ (List.mem_of_getElem? (i := 36) rfl))) (mvT hZ (hw _ (List.mem_of_getElem? (i := 35) rfl))) (by decide) (backOf (W := 0) (rm6_8 l Z a0 hw [] b8 c' r2' ra ia R20 I20 m20 F20 T20.heap n0 Z20 f22 f23 Ja20 Jb20 f24 f21 g_ra g_ia hri hxr hxi rp20 hF20 k2) hZ (hw _ (List.mem_of_getElem? (i := 37) rfl)) (hw _ (List.mem_of_getElem? (i := 3) rfl)) (by decide) (by decide)) q25a q25c (g := (mkF m 174 #[lv q0, sd, lv q1, sd, lv q2, sd, lv q3, sd, iv p4, iv p5, lv b', sd, iv (((p5.toUInt32 >>> ((1 : Int32) &&& 31).toUInt32).toInt32) &&& (3 : Int32)), lv c', sd, iv (((p5.toUInt32 >>> ((3 : Int32) &&& 31).toUInt32).toInt32) &&& (3 : Int32)), lv d', sd, iv cap, iv r0', iv r1', iv r2', iv r3', rv b8, iv (if m0 q0 = (-1 : Int32) then (1 : Int32) else (0 : Int32)), iv (if m15 b' = (-1 : Int32) then (1 : Int32) else (0 : Int32)), un, un, un, un, un, un, un, un, un, un] [(.int r2'), (.long c'), (.ref b8)])) rfl (by rw [hml]; rfl) (Steps.refl _) (argsL := [(.long c'), (.int r2')]) (rest := []) (lenOf pd_5 rfl) rfl (by show 2 * 0 + _ ≤ _; exact Nat.le_of_eq rfl) (hb hby at_174) (fun _ _ => ⟨rfl, rfl, (by decide : 3 + 0 ≤ _), (by decide : 20 + 0 ≤ _)⟩)
    dsimp only [Pt.U, Pt.locs, Pt.cells, Pt.slots] at X25 l25 y25 z25 st25 hQ25
    subst l25 y25 z25
    obtain ⟨rfl, Nq25, Kc25, R25, I25, F25, Ja25, Jb25, rp25, hl25⟩ := hQ25
    have N25 := Fr.app N20 Nq25
    have f26 : Exa Z T25.heap b8 "com/example/chatterbench/chatterbench/data/IdIndex" := f21.keep Kc25
    have f27 : Fld Z T25.heap b8 "com/example/chatterbench/chatterbench/data/IdIndex" "rows" "[I" (.ref ra) := f22.keep Kc25 (fun q => by simp only [List.mem_cons, List.not_mem_nil, or_false] at q; exact q.elim (fun q => hxr q) (fun q => hxi q))
    have f28 : Fld Z T25.heap b8 "com/example/chatterbench/chatterbench/data/IdIndex" "ids" "[J" (.ref ia) := f23.keep Kc25 (fun q => by simp only [List.mem_cons, List.not_mem_nil, or_false] at q; exact q.elim (fun q => hxr q) (fun q => hxi q))
    have f29 : Fld Z T25.heap b8 "com/example/chatterbench/chatterbench/data/IdIndex" "shift" "I" (.int (61 : Int32)) := f24.keep Kc25 (fun q => by simp only [List.mem_cons, List.not_mem_nil, or_false] at q; exact q.elim (fun q => hxr q) (fun q => hxi q))
    have Z25 : n0 ≤ T25.heap.size := Nat.le_trans Z20 Kc25.1
    obtain ⟨m25, hm25⟩ : ∃ z, z = (if m20 c' = (-1 : Int32) then updm m20 c' r2' else m20) := ⟨_, rfl⟩
    rw [← hm25] at rp25
    skip
    have hF25 : F25.length + 1 < 8 := by omega
    refine Go.stp (fun t_ k_ => st25.trans k_) ?_
    show Go p.tables e below G (T25.setTop (mkF m 177 #[lv q0, sd, lv q1, sd, lv q2, sd, lv q3, sd, iv p4, iv p5, lv b', sd, iv (((p5.toUInt32 >>> ((1 : Int32) &&& 31).toUInt32).toInt32) &&& (3 : Int32)), lv c', sd, iv (((p5.toUInt32 >>> ((3 : Int32) &&& 31).toUInt32).toInt32) &&& (3 : Int32)), lv d', sd, iv cap, iv r0', iv r1', iv r2', iv r3', rv b8, iv (if m0 q0 = (-1 : Int32) then (1 : Int32) else (0 : Int32)), iv (if m15 b' = (-1 : Int32) then (1 : Int32) else (0 : Int32)), un, un, un, un, un, un, un, un, un, un] [(.int (if m20 c' = (-1 : Int32) then (1 : Int32) else (0 : Int32)))]))
    refine Go.stp (fun t_ k_ => XS.istore X25.here hx rfl (hb hby at_177) rfl (l' := #[lv q0, sd, lv q1, sd, lv q2, sd, lv q3, sd, iv p4, iv p5, lv b', sd, iv (((p5.toUInt32 >>> ((1 : Int32) &&& 31).toUInt32).toInt32) &&& (3 : Int32)), lv c', sd, iv (((p5.toUInt32 >>> ((3 : Int32) &&& 31).toUInt32).toInt32) &&& (3 : Int32)), lv d', sd, iv cap, iv r0', iv r1', iv r2', iv r3', rv b8, iv (if m0 q0 = (-1 : Int32) then (1 : Int32) else (0 : Int32)), iv (if m15 b' = (-1 : Int32) then (1 : Int32) else (0 : Int32)), iv (if m20 c' = (-1 : Int32) then (1 : Int32) else (0 : Int32)), un, un, un, un, un, un, un, un, un]) rfl k_) ?_
    show Go p.tables e below G (T25.setTop (mkF m 179 #[lv q0, sd, lv q1, sd, lv q2, sd, lv q3, sd, iv p4, iv p5, lv b', sd, iv (((p5.toUInt32 >>> ((1 : Int32) &&& 31).toUInt32).toInt32) &&& (3 : Int32)), lv c', sd, iv (((p5.toUInt32 >>> ((3 : Int32) &&& 31).toUInt32).toInt32) &&& (3 : Int32)), lv d', sd, iv cap, iv r0', iv r1', iv r2', iv r3', rv b8, iv (if m0 q0 = (-1 : Int32) then (1 : Int32) else (0 : Int32)), iv (if m15 b' = (-1 : Int32) then (1 : Int32) else (0 : Int32)), iv (if m20 c' = (-1 : Int32) then (1 : Int32) else (0 : Int32)), un, un, un, un, un, un, un, un, un] []))
    refine Go.stp (fun t_ k_ => XS.aload X25.here hx rfl (hb hby at_179) rfl rfl k_) ?_
    show Go p.tables e below G (T25.setTop (mkF m 181 #[lv q0, sd, lv q1, sd, lv q2, sd, lv q3, sd, iv p4, iv p5, lv b', sd, iv (((p5.toUInt32 >>> ((1 : Int32) &&& 31).toUInt32).toInt32) &&& (3 : Int32)), lv c', sd, iv (((p5.toUInt32 >>> ((3 : Int32) &&& 31).toUInt32).toInt32) &&& (3 : Int32)), lv d', sd, iv cap, iv r0', iv r1', iv r2', iv r3', rv b8, iv (if m0 q0 = (-1 : Int32) then (1 : Int32) else (0 : Int32)), iv (if m15 b' = (-1 : Int32) then (1 : Int32) else (0 : Int32)), iv (if m20 c' = (-1 : Int32) then (1 : Int32) else (0 : Int32)), un, un, un, un, un, un, un, un, un] [(.ref b8)]))
    refine Go.stp (fun t_ k_ => XS.lloadN X25.here hx rfl (hb hby at_181) rfl k_) ?_
    show Go p.tables e below G (T25.setTop (mkF m 182 #[lv q0, sd, lv q1, sd, lv q2, sd, lv q3, sd, iv p4, iv p5, lv b', sd, iv (((p5.toUInt32 >>> ((1 : Int32) &&& 31).toUInt32).toInt32) &&& (3 : Int32)), lv c', sd, iv (((p5.toUInt32 >>> ((3 : Int32) &&& 31).toUInt32).toInt32) &&& (3 : Int32)), lv d', sd, iv cap, iv r0', iv r1', iv r2', iv r3', rv b8, iv (if m0 q0 = (-1 : Int32) then (1 : Int32) else (0 : Int32)), iv (if m15 b' = (-1 : Int32) then (1 : Int32) else (0 : Int32)), iv (if m20 c' = (-1 : Int32) then (1 : Int32) else (0 : Int32)), un, un, un, un, un, un, un, un, un] [(.long q0), (.ref b8)]))
    refine Go.stp (fun t_ k_ => XS.iload X25.here hx rfl (hb hby at_182) rfl k_) ?_
    show Go p.tables e below G (T25.setTop (mkF m 184 #[lv q0, sd, lv q1, sd, lv q2, sd, lv q3, sd, iv p4, iv p5, lv b', sd, iv (((p5.toUInt32 >>> ((1 : Int32) &&& 31).toUInt32).toInt32) &&& (3 : Int32)), lv c', sd, iv (((p5.toUInt32 >>> ((3 : Int32) &&& 31).toUInt32).toInt32) &&& (3 : Int32)), lv d', sd, iv cap, iv r0', iv r1', iv r2', iv r3', rv b8, iv (if m0 q0 = (-1 : Int32) then (1 : Int32) else (0 : Int32)), iv (if m15 b' = (-1 : Int32) then (1 : Int32) else (0 : Int32)), iv (if m20 c' = (-1 : Int32) then (1 : Int32) else (0 : Int32)), un, un, un, un, un, un, un, un, un] [(.int r3'), (.long q0), (.ref b8)]))
    obtain ⟨cq30, kq30, q30a, q30b, q30c⟩ := isOf hZ rfl f26
    obtain ⟨_, _, ⟨T30, L30, k30, n30⟩, -, X30, ⟨Lc30, hQ30, l30, y30, z30⟩, st30⟩ := X25.virtualBack hx (y := (⟨"com/example/chatterbench/chatterbench/data/IdIndex", "add", "(JI)Z"⟩ : MethodName)) (z := (⟨"com/example/chatterbench/chatterbench/data/IdIndex", "add", "(JI)Z"⟩ : MethodName)) hown (mvT hZ (hw _ (List.mem_of_getElem? (i := 33) rfl))) (mvT hZ (hw _ (List.mem_of_getElem? (i := 34) rfl))) (notFace_of_selects (args := #[]) (mvT hZ (hw _ (List.mem_of_getElem? (i := 36) rfl)))) (mvT hZ (hw _ (List.mem_of_getElem? (i := 36) rfl))) (mvT hZ (hw _ (List.mem_of_getElem? (i := 35) rfl))) (by decide) (backOf (W := 0) (rm6_8 l Z a0 hw [] b8 q0 r3' ra ia R25 I25 m25 F25 T25.heap n0 Z25 f27 f28 Ja25 Jb25 f29 f26 g_ra g_ia hri hxr hxi rp25 hF25 k3) hZ (hw _ (List.mem_of_getElem? (i := 37) rfl)) (hw _ (List.mem_of_getElem? (i := 3) rfl)) (by decide) (by decide)) q30a q30c (g := (mkF m 184 #[lv q0, sd, lv q1, sd, lv q2, sd, lv q3, sd, iv p4, iv p5, lv b', sd, iv (((p5.toUInt32 >>> ((1 : Int32) &&& 31).toUInt32).toInt32) &&& (3 : Int32)), lv c', sd, iv (((p5.toUInt32 >>> ((3 : Int32) &&& 31).toUInt32).toInt32) &&& (3 : Int32)), lv d', sd, iv cap, iv r0', iv r1', iv r2', iv r3', rv b8, iv (if m0 q0 = (-1 : Int32) then (1 : Int32) else (0 : Int32)), iv (if m15 b' = (-1 : Int32) then (1 : Int32) else (0 : Int32)), iv (if m20 c' = (-1 : Int32) then (1 : Int32) else (0 : Int32)), un, un, un, un, un, un, un, un, un] [(.int r3'), (.long q0), (.ref b8)])) rfl (by rw [hml]; rfl) (Steps.refl _) (argsL := [(.long q0), (.int r3')]) (rest := []) (lenOf pd_5 rfl) rfl (by show 2 * 0 + _ ≤ _; exact Nat.le_of_eq rfl) (hb hby at_184) (fun _ _ => ⟨rfl, rfl, (by decide : 3 + 0 ≤ _), (by decide : 20 + 0 ≤ _)⟩)
    dsimp only [Pt.U, Pt.locs, Pt.cells, Pt.slots] at X30 l30 y30 z30 st30 hQ30
    subst l30 y30 z30
    obtain ⟨rfl, Nq30, Kc30, R30, I30, F30, Ja30, Jb30, rp30, hl30⟩ := hQ30
    have N30 := Fr.app N25 Nq30
    have f31 : Exa Z T30.heap b8 "com/example/chatterbench/chatterbench/data/IdIndex" := f26.keep Kc30
    have f32 : Fld Z T30.heap b8 "com/example/chatterbench/chatterbench/data/IdIndex" "rows" "[I" (.ref ra) := f27.keep Kc30 (fun q => by simp only [List.mem_cons, List.not_mem_nil, or_false] at q; exact q.elim (fun q => hxr q) (fun q => hxi q))
    have f33 : Fld Z T30.heap b8 "com/example/chatterbench/chatterbench/data/IdIndex" "ids" "[J" (.ref ia) := f28.keep Kc30 (fun q => by simp only [List.mem_cons, List.not_mem_nil, or_false] at q; exact q.elim (fun q => hxr q) (fun q => hxi q))
    have f34 : Fld Z T30.heap b8 "com/example/chatterbench/chatterbench/data/IdIndex" "shift" "I" (.int (61 : Int32)) := f29.keep Kc30 (fun q => by simp only [List.mem_cons, List.not_mem_nil, or_false] at q; exact q.elim (fun q => hxr q) (fun q => hxi q))
    have Z30 : n0 ≤ T30.heap.size := Nat.le_trans Z25 Kc30.1
    obtain ⟨m30, hm30⟩ : ∃ z, z = (if m25 q0 = (-1 : Int32) then updm m25 q0 r3' else m25) := ⟨_, rfl⟩
    rw [← hm30] at rp30
    skip
    have hF30 : F30.length + 1 < 8 := by omega
    refine Go.stp (fun t_ k_ => st30.trans k_) ?_
    show Go p.tables e below G (T30.setTop (mkF m 187 #[lv q0, sd, lv q1, sd, lv q2, sd, lv q3, sd, iv p4, iv p5, lv b', sd, iv (((p5.toUInt32 >>> ((1 : Int32) &&& 31).toUInt32).toInt32) &&& (3 : Int32)), lv c', sd, iv (((p5.toUInt32 >>> ((3 : Int32) &&& 31).toUInt32).toInt32) &&& (3 : Int32)), lv d', sd, iv cap, iv r0', iv r1', iv r2', iv r3', rv b8, iv (if m0 q0 = (-1 : Int32) then (1 : Int32) else (0 : Int32)), iv (if m15 b' = (-1 : Int32) then (1 : Int32) else (0 : Int32)), iv (if m20 c' = (-1 : Int32) then (1 : Int32) else (0 : Int32)), un, un, un, un, un, un, un, un, un] [(.int (if m25 q0 = (-1 : Int32) then (1 : Int32) else (0 : Int32)))]))
    refine Go.stp (fun t_ k_ => XS.istore X30.here hx rfl (hb hby at_187) rfl (l' := #[lv q0, sd, lv q1, sd, lv q2, sd, lv q3, sd, iv p4, iv p5, lv b', sd, iv (((p5.toUInt32 >>> ((1 : Int32) &&& 31).toUInt32).toInt32) &&& (3 : Int32)), lv c', sd, iv (((p5.toUInt32 >>> ((3 : Int32) &&& 31).toUInt32).toInt32) &&& (3 : Int32)), lv d', sd, iv cap, iv r0', iv r1', iv r2', iv r3', rv b8, iv (if m0 q0 = (-1 : Int32) then (1 : Int32) else (0 : Int32)), iv (if m15 b' = (-1 : Int32) then (1 : Int32) else (0 : Int32)), iv (if m20 c' = (-1 : Int32) then (1 : Int32) else (0 : Int32)), iv (if m25 q0 = (-1 : Int32) then (1 : Int32) else (0 : Int32)), un, un, un, un, un, un, un, un]) rfl k_) ?_
    show Go p.tables e below G (T30.setTop (mkF m 189 #[lv q0, sd, lv q1, sd, lv q2, sd, lv q3, sd, iv p4, iv p5, lv b', sd, iv (((p5.toUInt32 >>> ((1 : Int32) &&& 31).toUInt32).toInt32) &&& (3 : Int32)), lv c', sd, iv (((p5.toUInt32 >>> ((3 : Int32) &&& 31).toUInt32).toInt32) &&& (3 : Int32)), lv d', sd, iv cap, iv r0', iv r1', iv r2', iv r3', rv b8, iv (if m0 q0 = (-1 : Int32) then (1 : Int32) else (0 : Int32)), iv (if m15 b' = (-1 : Int32) then (1 : Int32) else (0 : Int32)), iv (if m20 c' = (-1 : Int32) then (1 : Int32) else (0 : Int32)), iv (if m25 q0 = (-1 : Int32) then (1 : Int32) else (0 : Int32)), un, un, un, un, un, un, un, un] []))
    have FN := own_fin (d := d') k0 k1 k2 hm0 hm15 hm20 hm25 hm30
    obtain ⟨fn0, fn1, fn2, fn3, fa, fb, fc, fd⟩ := FN
    refine Go.stp (fun t_ k_ => XS.lload X30.here hx rfl (hb hby at_189) rfl k_) ?_
    show Go p.tables e below G (T30.setTop (mkF m 191 #[lv q0, sd, lv q1, sd, lv q2, sd, lv q3, sd, iv p4, iv p5, lv b', sd, iv (((p5.toUInt32 >>> ((1 : Int32) &&& 31).toUInt32).toInt32) &&& (3 : Int32)), lv c', sd, iv (((p5.toUInt32 >>> ((3 : Int32) &&& 31).toUInt32).toInt32) &&& (3 : Int32)), lv d', sd, iv cap, iv r0', iv r1', iv r2', iv r3', rv b8, iv (if m0 q0 = (-1 : Int32) then (1 : Int32) else (0 : Int32)), iv (if m15 b' = (-1 : Int32) then (1 : Int32) else (0 : Int32)), iv (if m20 c' = (-1 : Int32) then (1 : Int32) else (0 : Int32)), iv (if m25 q0 = (-1 : Int32) then (1 : Int32) else (0 : Int32)), un, un, un, un, un, un, un, un] [(.long b')]))
    refine Go.stp (fun t_ k_ => XS.lloadN X30.here hx rfl (hb hby at_191) rfl k_) ?_
    show Go p.tables e below G (T30.setTop (mkF m 192 #[lv q0, sd, lv q1, sd, lv q2, sd, lv q3, sd, iv p4, iv p5, lv b', sd, iv (((p5.toUInt32 >>> ((1 : Int32) &&& 31).toUInt32).toInt32) &&& (3 : Int32)), lv c', sd, iv (((p5.toUInt32 >>> ((3 : Int32) &&& 31).toUInt32).toInt32) &&& (3 : Int32)), lv d', sd, iv cap, iv r0', iv r1', iv r2', iv r3', rv b8, iv (if m0 q0 = (-1 : Int32) then (1 : Int32) else (0 : Int32)), iv (if m15 b' = (-1 : Int32) then (1 : Int32) else (0 : Int32)), iv (if m20 c' = (-1 : Int32) then (1 : Int32) else (0 : Int32)), iv (if m25 q0 = (-1 : Int32) then (1 : Int32) else (0 : Int32)), un, un, un, un, un, un, un, un] [(.long q0), (.long b')]))
    refine Go.stp (fun t_ k_ => XS.lcmp X30.here hx rfl (hb hby at_192) rfl k_) ?_
    show Go p.tables e below G (T30.setTop (mkF m 193 #[lv q0, sd, lv q1, sd, lv q2, sd, lv q3, sd, iv p4, iv p5, lv b', sd, iv (((p5.toUInt32 >>> ((1 : Int32) &&& 31).toUInt32).toInt32) &&& (3 : Int32)), lv c', sd, iv (((p5.toUInt32 >>> ((3 : Int32) &&& 31).toUInt32).toInt32) &&& (3 : Int32)), lv d', sd, iv cap, iv r0', iv r1', iv r2', iv r3', rv b8, iv (if m0 q0 = (-1 : Int32) then (1 : Int32) else (0 : Int32)), iv (if m15 b' = (-1 : Int32) then (1 : Int32) else (0 : Int32)), iv (if m20 c' = (-1 : Int32) then (1 : Int32) else (0 : Int32)), iv (if m25 q0 = (-1 : Int32) then (1 : Int32) else (0 : Int32)), un, un, un, un, un, un, un, un] [(.int (lcmpW b' q0))]))
    suffices J35 : ∀ (eB : Int32), (((b' = q0) ∧ eB = (0 : Int32)) ∨ (¬ (b' = q0) ∧ eB = (1 : Int32))) → Go p.tables e below G (T30.setTop (mkF m 201 #[lv q0, sd, lv q1, sd, lv q2, sd, lv q3, sd, iv p4, iv p5, lv b', sd, iv (((p5.toUInt32 >>> ((1 : Int32) &&& 31).toUInt32).toInt32) &&& (3 : Int32)), lv c', sd, iv (((p5.toUInt32 >>> ((3 : Int32) &&& 31).toUInt32).toInt32) &&& (3 : Int32)), lv d', sd, iv cap, iv r0', iv r1', iv r2', iv r3', rv b8, iv (if m0 q0 = (-1 : Int32) then (1 : Int32) else (0 : Int32)), iv (if m15 b' = (-1 : Int32) then (1 : Int32) else (0 : Int32)), iv (if m20 c' = (-1 : Int32) then (1 : Int32) else (0 : Int32)), iv (if m25 q0 = (-1 : Int32) then (1 : Int32) else (0 : Int32)), un, un, un, un, un, un, un, un] [(.int eB)])) by
      by_cases hc193 : b' = q0
      · refine Go.stp (fun t_ k_ => XS.ifYes X30.here hx rfl (pc0 := 193) (pc' := 200) rfl (hb hby at_193) rfl ((if0 _ _).trans (teq ((lw_eq b' q0).mpr hc193)).1) (by decide) (by decide) k_) ?_
        show Go p.tables e below G (T30.setTop (mkF m 200 #[lv q0, sd, lv q1, sd, lv q2, sd, lv q3, sd, iv p4, iv p5, lv b', sd, iv (((p5.toUInt32 >>> ((1 : Int32) &&& 31).toUInt32).toInt32) &&& (3 : Int32)), lv c', sd, iv (((p5.toUInt32 >>> ((3 : Int32) &&& 31).toUInt32).toInt32) &&& (3 : Int32)), lv d', sd, iv cap, iv r0', iv r1', iv r2', iv r3', rv b8, iv (if m0 q0 = (-1 : Int32) then (1 : Int32) else (0 : Int32)), iv (if m15 b' = (-1 : Int32) then (1 : Int32) else (0 : Int32)), iv (if m20 c' = (-1 : Int32) then (1 : Int32) else (0 : Int32)), iv (if m25 q0 = (-1 : Int32) then (1 : Int32) else (0 : Int32)), un, un, un, un, un, un, un, un] []))
        refine Go.stp (fun t_ k_ => XS.iconst X30.here hx rfl (hb hby at_200) k_) ?_
        show Go p.tables e below G (T30.setTop (mkF m 201 #[lv q0, sd, lv q1, sd, lv q2, sd, lv q3, sd, iv p4, iv p5, lv b', sd, iv (((p5.toUInt32 >>> ((1 : Int32) &&& 31).toUInt32).toInt32) &&& (3 : Int32)), lv c', sd, iv (((p5.toUInt32 >>> ((3 : Int32) &&& 31).toUInt32).toInt32) &&& (3 : Int32)), lv d', sd, iv cap, iv r0', iv r1', iv r2', iv r3', rv b8, iv (if m0 q0 = (-1 : Int32) then (1 : Int32) else (0 : Int32)), iv (if m15 b' = (-1 : Int32) then (1 : Int32) else (0 : Int32)), iv (if m20 c' = (-1 : Int32) then (1 : Int32) else (0 : Int32)), iv (if m25 q0 = (-1 : Int32) then (1 : Int32) else (0 : Int32)), un, un, un, un, un, un, un, un] [(.int (0 : Int32))]))
        exact J35 _ (Or.inl ⟨hc193, rfl⟩)
      · refine Go.stp (fun t_ k_ => XS.ifNo X30.here hx rfl (hb hby at_193) rfl ((if0 _ _).trans (feq (fun q => hc193 ((lw_eq b' q0).mp q))).1) k_) ?_
        show Go p.tables e below G (T30.setTop (mkF m 196 #[lv q0, sd, lv q1, sd, lv q2, sd, lv q3, sd, iv p4, iv p5, lv b', sd, iv (((p5.toUInt32 >>> ((1 : Int32) &&& 31).toUInt32).toInt32) &&& (3 : Int32)), lv c', sd, iv (((p5.toUInt32 >>> ((3 : Int32) &&& 31).toUInt32).toInt32) &&& (3 : Int32)), lv d', sd, iv cap, iv r0', iv r1', iv r2', iv r3', rv b8, iv (if m0 q0 = (-1 : Int32) then (1 : Int32) else (0 : Int32)), iv (if m15 b' = (-1 : Int32) then (1 : Int32) else (0 : Int32)), iv (if m20 c' = (-1 : Int32) then (1 : Int32) else (0 : Int32)), iv (if m25 q0 = (-1 : Int32) then (1 : Int32) else (0 : Int32)), un, un, un, un, un, un, un, un] []))
        refine Go.stp (fun t_ k_ => XS.iconst X30.here hx rfl (hb hby at_196) k_) ?_
        show Go p.tables e below G (T30.setTop (mkF m 197 #[lv q0, sd, lv q1, sd, lv q2, sd, lv q3, sd, iv p4, iv p5, lv b', sd, iv (((p5.toUInt32 >>> ((1 : Int32) &&& 31).toUInt32).toInt32) &&& (3 : Int32)), lv c', sd, iv (((p5.toUInt32 >>> ((3 : Int32) &&& 31).toUInt32).toInt32) &&& (3 : Int32)), lv d', sd, iv cap, iv r0', iv r1', iv r2', iv r3', rv b8, iv (if m0 q0 = (-1 : Int32) then (1 : Int32) else (0 : Int32)), iv (if m15 b' = (-1 : Int32) then (1 : Int32) else (0 : Int32)), iv (if m20 c' = (-1 : Int32) then (1 : Int32) else (0 : Int32)), iv (if m25 q0 = (-1 : Int32) then (1 : Int32) else (0 : Int32)), un, un, un, un, un, un, un, un] [(.int (1 : Int32))]))
        refine Go.stp (fun t_ k_ => XS.goto X30.here hx rfl (pc0 := 197) (pc' := 201) rfl (hb hby at_197) (by decide) (by decide) k_) ?_
        show Go p.tables e below G (T30.setTop (mkF m 201 #[lv q0, sd, lv q1, sd, lv q2, sd, lv q3, sd, iv p4, iv p5, lv b', sd, iv (((p5.toUInt32 >>> ((1 : Int32) &&& 31).toUInt32).toInt32) &&& (3 : Int32)), lv c', sd, iv (((p5.toUInt32 >>> ((3 : Int32) &&& 31).toUInt32).toInt32) &&& (3 : Int32)), lv d', sd, iv cap, iv r0', iv r1', iv r2', iv r3', rv b8, iv (if m0 q0 = (-1 : Int32) then (1 : Int32) else (0 : Int32)), iv (if m15 b' = (-1 : Int32) then (1 : Int32) else (0 : Int32)), iv (if m20 c' = (-1 : Int32) then (1 : Int32) else (0 : Int32)), iv (if m25 q0 = (-1 : Int32) then (1 : Int32) else (0 : Int32)), un, un, un, un, un, un, un, un] [(.int (1 : Int32))]))
        exact J35 _ (Or.inr ⟨hc193, rfl⟩)
    intro eB hj201
    refine Go.stp (fun t_ k_ => XS.istore X30.here hx rfl (hb hby at_201) rfl (l' := #[lv q0, sd, lv q1, sd, lv q2, sd, lv q3, sd, iv p4, iv p5, lv b', sd, iv (((p5.toUInt32 >>> ((1 : Int32) &&& 31).toUInt32).toInt32) &&& (3 : Int32)), lv c', sd, iv (((p5.toUInt32 >>> ((3 : Int32) &&& 31).toUInt32).toInt32) &&& (3 : Int32)), lv d', sd, iv cap, iv r0', iv r1', iv r2', iv r3', rv b8, iv (if m0 q0 = (-1 : Int32) then (1 : Int32) else (0 : Int32)), iv (if m15 b' = (-1 : Int32) then (1 : Int32) else (0 : Int32)), iv (if m20 c' = (-1 : Int32) then (1 : Int32) else (0 : Int32)), iv (if m25 q0 = (-1 : Int32) then (1 : Int32) else (0 : Int32)), iv eB, un, un, un, un, un, un, un]) rfl k_) ?_
    show Go p.tables e below G (T30.setTop (mkF m 203 #[lv q0, sd, lv q1, sd, lv q2, sd, lv q3, sd, iv p4, iv p5, lv b', sd, iv (((p5.toUInt32 >>> ((1 : Int32) &&& 31).toUInt32).toInt32) &&& (3 : Int32)), lv c', sd, iv (((p5.toUInt32 >>> ((3 : Int32) &&& 31).toUInt32).toInt32) &&& (3 : Int32)), lv d', sd, iv cap, iv r0', iv r1', iv r2', iv r3', rv b8, iv (if m0 q0 = (-1 : Int32) then (1 : Int32) else (0 : Int32)), iv (if m15 b' = (-1 : Int32) then (1 : Int32) else (0 : Int32)), iv (if m20 c' = (-1 : Int32) then (1 : Int32) else (0 : Int32)), iv (if m25 q0 = (-1 : Int32) then (1 : Int32) else (0 : Int32)), iv eB, un, un, un, un, un, un, un] []))
    refine Go.stp (fun t_ k_ => XS.lload X30.here hx rfl (hb hby at_203) rfl k_) ?_
    show Go p.tables e below G (T30.setTop (mkF m 205 #[lv q0, sd, lv q1, sd, lv q2, sd, lv q3, sd, iv p4, iv p5, lv b', sd, iv (((p5.toUInt32 >>> ((1 : Int32) &&& 31).toUInt32).toInt32) &&& (3 : Int32)), lv c', sd, iv (((p5.toUInt32 >>> ((3 : Int32) &&& 31).toUInt32).toInt32) &&& (3 : Int32)), lv d', sd, iv cap, iv r0', iv r1', iv r2', iv r3', rv b8, iv (if m0 q0 = (-1 : Int32) then (1 : Int32) else (0 : Int32)), iv (if m15 b' = (-1 : Int32) then (1 : Int32) else (0 : Int32)), iv (if m20 c' = (-1 : Int32) then (1 : Int32) else (0 : Int32)), iv (if m25 q0 = (-1 : Int32) then (1 : Int32) else (0 : Int32)), iv eB, un, un, un, un, un, un, un] [(.long c')]))
    refine Go.stp (fun t_ k_ => XS.lloadN X30.here hx rfl (hb hby at_205) rfl k_) ?_
    show Go p.tables e below G (T30.setTop (mkF m 206 #[lv q0, sd, lv q1, sd, lv q2, sd, lv q3, sd, iv p4, iv p5, lv b', sd, iv (((p5.toUInt32 >>> ((1 : Int32) &&& 31).toUInt32).toInt32) &&& (3 : Int32)), lv c', sd, iv (((p5.toUInt32 >>> ((3 : Int32) &&& 31).toUInt32).toInt32) &&& (3 : Int32)), lv d', sd, iv cap, iv r0', iv r1', iv r2', iv r3', rv b8, iv (if m0 q0 = (-1 : Int32) then (1 : Int32) else (0 : Int32)), iv (if m15 b' = (-1 : Int32) then (1 : Int32) else (0 : Int32)), iv (if m20 c' = (-1 : Int32) then (1 : Int32) else (0 : Int32)), iv (if m25 q0 = (-1 : Int32) then (1 : Int32) else (0 : Int32)), iv eB, un, un, un, un, un, un, un] [(.long q0), (.long c')]))
    refine Go.stp (fun t_ k_ => XS.lcmp X30.here hx rfl (hb hby at_206) rfl k_) ?_
    show Go p.tables e below G (T30.setTop (mkF m 207 #[lv q0, sd, lv q1, sd, lv q2, sd, lv q3, sd, iv p4, iv p5, lv b', sd, iv (((p5.toUInt32 >>> ((1 : Int32) &&& 31).toUInt32).toInt32) &&& (3 : Int32)), lv c', sd, iv (((p5.toUInt32 >>> ((3 : Int32) &&& 31).toUInt32).toInt32) &&& (3 : Int32)), lv d', sd, iv cap, iv r0', iv r1', iv r2', iv r3', rv b8, iv (if m0 q0 = (-1 : Int32) then (1 : Int32) else (0 : Int32)), iv (if m15 b' = (-1 : Int32) then (1 : Int32) else (0 : Int32)), iv (if m20 c' = (-1 : Int32) then (1 : Int32) else (0 : Int32)), iv (if m25 q0 = (-1 : Int32) then (1 : Int32) else (0 : Int32)), iv eB, un, un, un, un, un, un, un] [(.int (lcmpW c' q0))]))
    suffices J36 : ∀ (eC : Int32), (((c' = q0) ∧ eC = (0 : Int32)) ∨ (¬ (c' = q0) ∧ (c' = b') ∧ eC = (0 : Int32)) ∨ (¬ (c' = q0) ∧ ¬ (c' = b') ∧ eC = (1 : Int32))) → Go p.tables e below G (T30.setTop (mkF m 223 #[lv q0, sd, lv q1, sd, lv q2, sd, lv q3, sd, iv p4, iv p5, lv b', sd, iv (((p5.toUInt32 >>> ((1 : Int32) &&& 31).toUInt32).toInt32) &&& (3 : Int32)), lv c', sd, iv (((p5.toUInt32 >>> ((3 : Int32) &&& 31).toUInt32).toInt32) &&& (3 : Int32)), lv d', sd, iv cap, iv r0', iv r1', iv r2', iv r3', rv b8, iv (if m0 q0 = (-1 : Int32) then (1 : Int32) else (0 : Int32)), iv (if m15 b' = (-1 : Int32) then (1 : Int32) else (0 : Int32)), iv (if m20 c' = (-1 : Int32) then (1 : Int32) else (0 : Int32)), iv (if m25 q0 = (-1 : Int32) then (1 : Int32) else (0 : Int32)), iv eB, un, un, un, un, un, un, un] [(.int eC)])) by
      by_cases hc207 : c' = q0
      · refine Go.stp (fun t_ k_ => XS.ifYes X30.here hx rfl (pc0 := 207) (pc' := 222) rfl (hb hby at_207) rfl ((if0 _ _).trans (teq ((lw_eq c' q0).mpr hc207)).1) (by decide) (by decide) k_) ?_
        show Go p.tables e below G (T30.setTop (mkF m 222 #[lv q0, sd, lv q1, sd, lv q2, sd, lv q3, sd, iv p4, iv p5, lv b', sd, iv (((p5.toUInt32 >>> ((1 : Int32) &&& 31).toUInt32).toInt32) &&& (3 : Int32)), lv c', sd, iv (((p5.toUInt32 >>> ((3 : Int32) &&& 31).toUInt32).toInt32) &&& (3 : Int32)), lv d', sd, iv cap, iv r0', iv r1', iv r2', iv r3', rv b8, iv (if m0 q0 = (-1 : Int32) then (1 : Int32) else (0 : Int32)), iv (if m15 b' = (-1 : Int32) then (1 : Int32) else (0 : Int32)), iv (if m20 c' = (-1 : Int32) then (1 : Int32) else (0 : Int32)), iv (if m25 q0 = (-1 : Int32) then (1 : Int32) else (0 : Int32)), iv eB, un, un, un, un, un, un, un] []))
        refine Go.stp (fun t_ k_ => XS.iconst X30.here hx rfl (hb hby at_222) k_) ?_
        show Go p.tables e below G (T30.setTop (mkF m 223 #[lv q0, sd, lv q1, sd, lv q2, sd, lv q3, sd, iv p4, iv p5, lv b', sd, iv (((p5.toUInt32 >>> ((1 : Int32) &&& 31).toUInt32).toInt32) &&& (3 : Int32)), lv c', sd, iv (((p5.toUInt32 >>> ((3 : Int32) &&& 31).toUInt32).toInt32) &&& (3 : Int32)), lv d', sd, iv cap, iv r0', iv r1', iv r2', iv r3', rv b8, iv (if m0 q0 = (-1 : Int32) then (1 : Int32) else (0 : Int32)), iv (if m15 b' = (-1 : Int32) then (1 : Int32) else (0 : Int32)), iv (if m20 c' = (-1 : Int32) then (1 : Int32) else (0 : Int32)), iv (if m25 q0 = (-1 : Int32) then (1 : Int32) else (0 : Int32)), iv eB, un, un, un, un, un, un, un] [(.int (0 : Int32))]))
        exact J36 _ (Or.inl ⟨hc207, rfl⟩)
      · refine Go.stp (fun t_ k_ => XS.ifNo X30.here hx rfl (hb hby at_207) rfl ((if0 _ _).trans (feq (fun q => hc207 ((lw_eq c' q0).mp q))).1) k_) ?_
        show Go p.tables e below G (T30.setTop (mkF m 210 #[lv q0, sd, lv q1, sd, lv q2, sd, lv q3, sd, iv p4, iv p5, lv b', sd, iv (((p5.toUInt32 >>> ((1 : Int32) &&& 31).toUInt32).toInt32) &&& (3 : Int32)), lv c', sd, iv (((p5.toUInt32 >>> ((3 : Int32) &&& 31).toUInt32).toInt32) &&& (3 : Int32)), lv d', sd, iv cap, iv r0', iv r1', iv r2', iv r3', rv b8, iv (if m0 q0 = (-1 : Int32) then (1 : Int32) else (0 : Int32)), iv (if m15 b' = (-1 : Int32) then (1 : Int32) else (0 : Int32)), iv (if m20 c' = (-1 : Int32) then (1 : Int32) else (0 : Int32)), iv (if m25 q0 = (-1 : Int32) then (1 : Int32) else (0 : Int32)), iv eB, un, un, un, un, un, un, un] []))
        refine Go.stp (fun t_ k_ => XS.lload X30.here hx rfl (hb hby at_210) rfl k_) ?_
        show Go p.tables e below G (T30.setTop (mkF m 212 #[lv q0, sd, lv q1, sd, lv q2, sd, lv q3, sd, iv p4, iv p5, lv b', sd, iv (((p5.toUInt32 >>> ((1 : Int32) &&& 31).toUInt32).toInt32) &&& (3 : Int32)), lv c', sd, iv (((p5.toUInt32 >>> ((3 : Int32) &&& 31).toUInt32).toInt32) &&& (3 : Int32)), lv d', sd, iv cap, iv r0', iv r1', iv r2', iv r3', rv b8, iv (if m0 q0 = (-1 : Int32) then (1 : Int32) else (0 : Int32)), iv (if m15 b' = (-1 : Int32) then (1 : Int32) else (0 : Int32)), iv (if m20 c' = (-1 : Int32) then (1 : Int32) else (0 : Int32)), iv (if m25 q0 = (-1 : Int32) then (1 : Int32) else (0 : Int32)), iv eB, un, un, un, un, un, un, un] [(.long c')]))
        refine Go.stp (fun t_ k_ => XS.lload X30.here hx rfl (hb hby at_212) rfl k_) ?_
        show Go p.tables e below G (T30.setTop (mkF m 214 #[lv q0, sd, lv q1, sd, lv q2, sd, lv q3, sd, iv p4, iv p5, lv b', sd, iv (((p5.toUInt32 >>> ((1 : Int32) &&& 31).toUInt32).toInt32) &&& (3 : Int32)), lv c', sd, iv (((p5.toUInt32 >>> ((3 : Int32) &&& 31).toUInt32).toInt32) &&& (3 : Int32)), lv d', sd, iv cap, iv r0', iv r1', iv r2', iv r3', rv b8, iv (if m0 q0 = (-1 : Int32) then (1 : Int32) else (0 : Int32)), iv (if m15 b' = (-1 : Int32) then (1 : Int32) else (0 : Int32)), iv (if m20 c' = (-1 : Int32) then (1 : Int32) else (0 : Int32)), iv (if m25 q0 = (-1 : Int32) then (1 : Int32) else (0 : Int32)), iv eB, un, un, un, un, un, un, un] [(.long b'), (.long c')]))
        refine Go.stp (fun t_ k_ => XS.lcmp X30.here hx rfl (hb hby at_214) rfl k_) ?_
        show Go p.tables e below G (T30.setTop (mkF m 215 #[lv q0, sd, lv q1, sd, lv q2, sd, lv q3, sd, iv p4, iv p5, lv b', sd, iv (((p5.toUInt32 >>> ((1 : Int32) &&& 31).toUInt32).toInt32) &&& (3 : Int32)), lv c', sd, iv (((p5.toUInt32 >>> ((3 : Int32) &&& 31).toUInt32).toInt32) &&& (3 : Int32)), lv d', sd, iv cap, iv r0', iv r1', iv r2', iv r3', rv b8, iv (if m0 q0 = (-1 : Int32) then (1 : Int32) else (0 : Int32)), iv (if m15 b' = (-1 : Int32) then (1 : Int32) else (0 : Int32)), iv (if m20 c' = (-1 : Int32) then (1 : Int32) else (0 : Int32)), iv (if m25 q0 = (-1 : Int32) then (1 : Int32) else (0 : Int32)), iv eB, un, un, un, un, un, un, un] [(.int (lcmpW c' b'))]))
        by_cases hc215 : c' = b'
        · refine Go.stp (fun t_ k_ => XS.ifYes X30.here hx rfl (pc0 := 215) (pc' := 222) rfl (hb hby at_215) rfl ((if0 _ _).trans (teq ((lw_eq c' b').mpr hc215)).1) (by decide) (by decide) k_) ?_
          show Go p.tables e below G (T30.setTop (mkF m 222 #[lv q0, sd, lv q1, sd, lv q2, sd, lv q3, sd, iv p4, iv p5, lv b', sd, iv (((p5.toUInt32 >>> ((1 : Int32) &&& 31).toUInt32).toInt32) &&& (3 : Int32)), lv c', sd, iv (((p5.toUInt32 >>> ((3 : Int32) &&& 31).toUInt32).toInt32) &&& (3 : Int32)), lv d', sd, iv cap, iv r0', iv r1', iv r2', iv r3', rv b8, iv (if m0 q0 = (-1 : Int32) then (1 : Int32) else (0 : Int32)), iv (if m15 b' = (-1 : Int32) then (1 : Int32) else (0 : Int32)), iv (if m20 c' = (-1 : Int32) then (1 : Int32) else (0 : Int32)), iv (if m25 q0 = (-1 : Int32) then (1 : Int32) else (0 : Int32)), iv eB, un, un, un, un, un, un, un] []))
          refine Go.stp (fun t_ k_ => XS.iconst X30.here hx rfl (hb hby at_222) k_) ?_
          show Go p.tables e below G (T30.setTop (mkF m 223 #[lv q0, sd, lv q1, sd, lv q2, sd, lv q3, sd, iv p4, iv p5, lv b', sd, iv (((p5.toUInt32 >>> ((1 : Int32) &&& 31).toUInt32).toInt32) &&& (3 : Int32)), lv c', sd, iv (((p5.toUInt32 >>> ((3 : Int32) &&& 31).toUInt32).toInt32) &&& (3 : Int32)), lv d', sd, iv cap, iv r0', iv r1', iv r2', iv r3', rv b8, iv (if m0 q0 = (-1 : Int32) then (1 : Int32) else (0 : Int32)), iv (if m15 b' = (-1 : Int32) then (1 : Int32) else (0 : Int32)), iv (if m20 c' = (-1 : Int32) then (1 : Int32) else (0 : Int32)), iv (if m25 q0 = (-1 : Int32) then (1 : Int32) else (0 : Int32)), iv eB, un, un, un, un, un, un, un] [(.int (0 : Int32))]))
          exact J36 _ (Or.inr (Or.inl ⟨hc207, hc215, rfl⟩))
        · refine Go.stp (fun t_ k_ => XS.ifNo X30.here hx rfl (hb hby at_215) rfl ((if0 _ _).trans (feq (fun q => hc215 ((lw_eq c' b').mp q))).1) k_) ?_
          show Go p.tables e below G (T30.setTop (mkF m 218 #[lv q0, sd, lv q1, sd, lv q2, sd, lv q3, sd, iv p4, iv p5, lv b', sd, iv (((p5.toUInt32 >>> ((1 : Int32) &&& 31).toUInt32).toInt32) &&& (3 : Int32)), lv c', sd, iv (((p5.toUInt32 >>> ((3 : Int32) &&& 31).toUInt32).toInt32) &&& (3 : Int32)), lv d', sd, iv cap, iv r0', iv r1', iv r2', iv r3', rv b8, iv (if m0 q0 = (-1 : Int32) then (1 : Int32) else (0 : Int32)), iv (if m15 b' = (-1 : Int32) then (1 : Int32) else (0 : Int32)), iv (if m20 c' = (-1 : Int32) then (1 : Int32) else (0 : Int32)), iv (if m25 q0 = (-1 : Int32) then (1 : Int32) else (0 : Int32)), iv eB, un, un, un, un, un, un, un] []))
          refine Go.stp (fun t_ k_ => XS.iconst X30.here hx rfl (hb hby at_218) k_) ?_
          show Go p.tables e below G (T30.setTop (mkF m 219 #[lv q0, sd, lv q1, sd, lv q2, sd, lv q3, sd, iv p4, iv p5, lv b', sd, iv (((p5.toUInt32 >>> ((1 : Int32) &&& 31).toUInt32).toInt32) &&& (3 : Int32)), lv c', sd, iv (((p5.toUInt32 >>> ((3 : Int32) &&& 31).toUInt32).toInt32) &&& (3 : Int32)), lv d', sd, iv cap, iv r0', iv r1', iv r2', iv r3', rv b8, iv (if m0 q0 = (-1 : Int32) then (1 : Int32) else (0 : Int32)), iv (if m15 b' = (-1 : Int32) then (1 : Int32) else (0 : Int32)), iv (if m20 c' = (-1 : Int32) then (1 : Int32) else (0 : Int32)), iv (if m25 q0 = (-1 : Int32) then (1 : Int32) else (0 : Int32)), iv eB, un, un, un, un, un, un, un] [(.int (1 : Int32))]))
          refine Go.stp (fun t_ k_ => XS.goto X30.here hx rfl (pc0 := 219) (pc' := 223) rfl (hb hby at_219) (by decide) (by decide) k_) ?_
          show Go p.tables e below G (T30.setTop (mkF m 223 #[lv q0, sd, lv q1, sd, lv q2, sd, lv q3, sd, iv p4, iv p5, lv b', sd, iv (((p5.toUInt32 >>> ((1 : Int32) &&& 31).toUInt32).toInt32) &&& (3 : Int32)), lv c', sd, iv (((p5.toUInt32 >>> ((3 : Int32) &&& 31).toUInt32).toInt32) &&& (3 : Int32)), lv d', sd, iv cap, iv r0', iv r1', iv r2', iv r3', rv b8, iv (if m0 q0 = (-1 : Int32) then (1 : Int32) else (0 : Int32)), iv (if m15 b' = (-1 : Int32) then (1 : Int32) else (0 : Int32)), iv (if m20 c' = (-1 : Int32) then (1 : Int32) else (0 : Int32)), iv (if m25 q0 = (-1 : Int32) then (1 : Int32) else (0 : Int32)), iv eB, un, un, un, un, un, un, un] [(.int (1 : Int32))]))
          exact J36 _ (Or.inr (Or.inr ⟨hc207, hc215, rfl⟩))
    intro eC hj223
    refine Go.stp (fun t_ k_ => XS.istore X30.here hx rfl (hb hby at_223) rfl (l' := #[lv q0, sd, lv q1, sd, lv q2, sd, lv q3, sd, iv p4, iv p5, lv b', sd, iv (((p5.toUInt32 >>> ((1 : Int32) &&& 31).toUInt32).toInt32) &&& (3 : Int32)), lv c', sd, iv (((p5.toUInt32 >>> ((3 : Int32) &&& 31).toUInt32).toInt32) &&& (3 : Int32)), lv d', sd, iv cap, iv r0', iv r1', iv r2', iv r3', rv b8, iv (if m0 q0 = (-1 : Int32) then (1 : Int32) else (0 : Int32)), iv (if m15 b' = (-1 : Int32) then (1 : Int32) else (0 : Int32)), iv (if m20 c' = (-1 : Int32) then (1 : Int32) else (0 : Int32)), iv (if m25 q0 = (-1 : Int32) then (1 : Int32) else (0 : Int32)), iv eB, iv eC, un, un, un, un, un, un]) rfl k_) ?_
    show Go p.tables e below G (T30.setTop (mkF m 225 #[lv q0, sd, lv q1, sd, lv q2, sd, lv q3, sd, iv p4, iv p5, lv b', sd, iv (((p5.toUInt32 >>> ((1 : Int32) &&& 31).toUInt32).toInt32) &&& (3 : Int32)), lv c', sd, iv (((p5.toUInt32 >>> ((3 : Int32) &&& 31).toUInt32).toInt32) &&& (3 : Int32)), lv d', sd, iv cap, iv r0', iv r1', iv r2', iv r3', rv b8, iv (if m0 q0 = (-1 : Int32) then (1 : Int32) else (0 : Int32)), iv (if m15 b' = (-1 : Int32) then (1 : Int32) else (0 : Int32)), iv (if m20 c' = (-1 : Int32) then (1 : Int32) else (0 : Int32)), iv (if m25 q0 = (-1 : Int32) then (1 : Int32) else (0 : Int32)), iv eB, iv eC, un, un, un, un, un, un] []))
    refine Go.stp (fun t_ k_ => XS.iload X30.here hx rfl (hb hby at_225) rfl k_) ?_
    show Go p.tables e below G (T30.setTop (mkF m 227 #[lv q0, sd, lv q1, sd, lv q2, sd, lv q3, sd, iv p4, iv p5, lv b', sd, iv (((p5.toUInt32 >>> ((1 : Int32) &&& 31).toUInt32).toInt32) &&& (3 : Int32)), lv c', sd, iv (((p5.toUInt32 >>> ((3 : Int32) &&& 31).toUInt32).toInt32) &&& (3 : Int32)), lv d', sd, iv cap, iv r0', iv r1', iv r2', iv r3', rv b8, iv (if m0 q0 = (-1 : Int32) then (1 : Int32) else (0 : Int32)), iv (if m15 b' = (-1 : Int32) then (1 : Int32) else (0 : Int32)), iv (if m20 c' = (-1 : Int32) then (1 : Int32) else (0 : Int32)), iv (if m25 q0 = (-1 : Int32) then (1 : Int32) else (0 : Int32)), iv eB, iv eC, un, un, un, un, un, un] [(.int r0')]))
    refine Go.stp (fun t_ k_ => XS.istore X30.here hx rfl (hb hby at_227) rfl (l' := #[lv q0, sd, lv q1, sd, lv q2, sd, lv q3, sd, iv p4, iv p5, lv b', sd, iv (((p5.toUInt32 >>> ((1 : Int32) &&& 31).toUInt32).toInt32) &&& (3 : Int32)), lv c', sd, iv (((p5.toUInt32 >>> ((3 : Int32) &&& 31).toUInt32).toInt32) &&& (3 : Int32)), lv d', sd, iv cap, iv r0', iv r1', iv r2', iv r3', rv b8, iv (if m0 q0 = (-1 : Int32) then (1 : Int32) else (0 : Int32)), iv (if m15 b' = (-1 : Int32) then (1 : Int32) else (0 : Int32)), iv (if m20 c' = (-1 : Int32) then (1 : Int32) else (0 : Int32)), iv (if m25 q0 = (-1 : Int32) then (1 : Int32) else (0 : Int32)), iv eB, iv eC, iv r0', un, un, un, un, un]) rfl k_) ?_
    show Go p.tables e below G (T30.setTop (mkF m 229 #[lv q0, sd, lv q1, sd, lv q2, sd, lv q3, sd, iv p4, iv p5, lv b', sd, iv (((p5.toUInt32 >>> ((1 : Int32) &&& 31).toUInt32).toInt32) &&& (3 : Int32)), lv c', sd, iv (((p5.toUInt32 >>> ((3 : Int32) &&& 31).toUInt32).toInt32) &&& (3 : Int32)), lv d', sd, iv cap, iv r0', iv r1', iv r2', iv r3', rv b8, iv (if m0 q0 = (-1 : Int32) then (1 : Int32) else (0 : Int32)), iv (if m15 b' = (-1 : Int32) then (1 : Int32) else (0 : Int32)), iv (if m20 c' = (-1 : Int32) then (1 : Int32) else (0 : Int32)), iv (if m25 q0 = (-1 : Int32) then (1 : Int32) else (0 : Int32)), iv eB, iv eC, iv r0', un, un, un, un, un] []))
    refine Go.stp (fun t_ k_ => XS.lload X30.here hx rfl (hb hby at_229) rfl k_) ?_
    show Go p.tables e below G (T30.setTop (mkF m 231 #[lv q0, sd, lv q1, sd, lv q2, sd, lv q3, sd, iv p4, iv p5, lv b', sd, iv (((p5.toUInt32 >>> ((1 : Int32) &&& 31).toUInt32).toInt32) &&& (3 : Int32)), lv c', sd, iv (((p5.toUInt32 >>> ((3 : Int32) &&& 31).toUInt32).toInt32) &&& (3 : Int32)), lv d', sd, iv cap, iv r0', iv r1', iv r2', iv r3', rv b8, iv (if m0 q0 = (-1 : Int32) then (1 : Int32) else (0 : Int32)), iv (if m15 b' = (-1 : Int32) then (1 : Int32) else (0 : Int32)), iv (if m20 c' = (-1 : Int32) then (1 : Int32) else (0 : Int32)), iv (if m25 q0 = (-1 : Int32) then (1 : Int32) else (0 : Int32)), iv eB, iv eC, iv r0', un, un, un, un, un] [(.long b')]))
    refine Go.stp (fun t_ k_ => XS.lloadN X30.here hx rfl (hb hby at_231) rfl k_) ?_
    show Go p.tables e below G (T30.setTop (mkF m 232 #[lv q0, sd, lv q1, sd, lv q2, sd, lv q3, sd, iv p4, iv p5, lv b', sd, iv (((p5.toUInt32 >>> ((1 : Int32) &&& 31).toUInt32).toInt32) &&& (3 : Int32)), lv c', sd, iv (((p5.toUInt32 >>> ((3 : Int32) &&& 31).toUInt32).toInt32) &&& (3 : Int32)), lv d', sd, iv cap, iv r0', iv r1', iv r2', iv r3', rv b8, iv (if m0 q0 = (-1 : Int32) then (1 : Int32) else (0 : Int32)), iv (if m15 b' = (-1 : Int32) then (1 : Int32) else (0 : Int32)), iv (if m20 c' = (-1 : Int32) then (1 : Int32) else (0 : Int32)), iv (if m25 q0 = (-1 : Int32) then (1 : Int32) else (0 : Int32)), iv eB, iv eC, iv r0', un, un, un, un, un] [(.long q0), (.long b')]))
    refine Go.stp (fun t_ k_ => XS.lcmp X30.here hx rfl (hb hby at_232) rfl k_) ?_
    show Go p.tables e below G (T30.setTop (mkF m 233 #[lv q0, sd, lv q1, sd, lv q2, sd, lv q3, sd, iv p4, iv p5, lv b', sd, iv (((p5.toUInt32 >>> ((1 : Int32) &&& 31).toUInt32).toInt32) &&& (3 : Int32)), lv c', sd, iv (((p5.toUInt32 >>> ((3 : Int32) &&& 31).toUInt32).toInt32) &&& (3 : Int32)), lv d', sd, iv cap, iv r0', iv r1', iv r2', iv r3', rv b8, iv (if m0 q0 = (-1 : Int32) then (1 : Int32) else (0 : Int32)), iv (if m15 b' = (-1 : Int32) then (1 : Int32) else (0 : Int32)), iv (if m20 c' = (-1 : Int32) then (1 : Int32) else (0 : Int32)), iv (if m25 q0 = (-1 : Int32) then (1 : Int32) else (0 : Int32)), iv eB, iv eC, iv r0', un, un, un, un, un] [(.int (lcmpW b' q0))]))
    suffices J37 : ∀ (rB : Int32), (((b' = q0) ∧ rB = r0') ∨ (¬ (b' = q0) ∧ rB = r1')) → Go p.tables e below G (T30.setTop (mkF m 243 #[lv q0, sd, lv q1, sd, lv q2, sd, lv q3, sd, iv p4, iv p5, lv b', sd, iv (((p5.toUInt32 >>> ((1 : Int32) &&& 31).toUInt32).toInt32) &&& (3 : Int32)), lv c', sd, iv (((p5.toUInt32 >>> ((3 : Int32) &&& 31).toUInt32).toInt32) &&& (3 : Int32)), lv d', sd, iv cap, iv r0', iv r1', iv r2', iv r3', rv b8, iv (if m0 q0 = (-1 : Int32) then (1 : Int32) else (0 : Int32)), iv (if m15 b' = (-1 : Int32) then (1 : Int32) else (0 : Int32)), iv (if m20 c' = (-1 : Int32) then (1 : Int32) else (0 : Int32)), iv (if m25 q0 = (-1 : Int32) then (1 : Int32) else (0 : Int32)), iv eB, iv eC, iv r0', un, un, un, un, un] [(.int rB)])) by
      by_cases hc233 : b' = q0
      · refine Go.stp (fun t_ k_ => XS.ifNo X30.here hx rfl (hb hby at_233) rfl ((if0 _ _).trans (teq ((lw_eq b' q0).mpr hc233)).2) k_) ?_
        show Go p.tables e below G (T30.setTop (mkF m 236 #[lv q0, sd, lv q1, sd, lv q2, sd, lv q3, sd, iv p4, iv p5, lv b', sd, iv (((p5.toUInt32 >>> ((1 : Int32) &&& 31).toUInt32).toInt32) &&& (3 : Int32)), lv c', sd, iv (((p5.toUInt32 >>> ((3 : Int32) &&& 31).toUInt32).toInt32) &&& (3 : Int32)), lv d', sd, iv cap, iv r0', iv r1', iv r2', iv r3', rv b8, iv (if m0 q0 = (-1 : Int32) then (1 : Int32) else (0 : Int32)), iv (if m15 b' = (-1 : Int32) then (1 : Int32) else (0 : Int32)), iv (if m20 c' = (-1 : Int32) then (1 : Int32) else (0 : Int32)), iv (if m25 q0 = (-1 : Int32) then (1 : Int32) else (0 : Int32)), iv eB, iv eC, iv r0', un, un, un, un, un] []))
        refine Go.stp (fun t_ k_ => XS.iload X30.here hx rfl (hb hby at_236) rfl k_) ?_
        show Go p.tables e below G (T30.setTop (mkF m 238 #[lv q0, sd, lv q1, sd, lv q2, sd, lv q3, sd, iv p4, iv p5, lv b', sd, iv (((p5.toUInt32 >>> ((1 : Int32) &&& 31).toUInt32).toInt32) &&& (3 : Int32)), lv c', sd, iv (((p5.toUInt32 >>> ((3 : Int32) &&& 31).toUInt32).toInt32) &&& (3 : Int32)), lv d', sd, iv cap, iv r0', iv r1', iv r2', iv r3', rv b8, iv (if m0 q0 = (-1 : Int32) then (1 : Int32) else (0 : Int32)), iv (if m15 b' = (-1 : Int32) then (1 : Int32) else (0 : Int32)), iv (if m20 c' = (-1 : Int32) then (1 : Int32) else (0 : Int32)), iv (if m25 q0 = (-1 : Int32) then (1 : Int32) else (0 : Int32)), iv eB, iv eC, iv r0', un, un, un, un, un] [(.int r0')]))
        refine Go.stp (fun t_ k_ => XS.goto X30.here hx rfl (pc0 := 238) (pc' := 243) rfl (hb hby at_238) (by decide) (by decide) k_) ?_
        show Go p.tables e below G (T30.setTop (mkF m 243 #[lv q0, sd, lv q1, sd, lv q2, sd, lv q3, sd, iv p4, iv p5, lv b', sd, iv (((p5.toUInt32 >>> ((1 : Int32) &&& 31).toUInt32).toInt32) &&& (3 : Int32)), lv c', sd, iv (((p5.toUInt32 >>> ((3 : Int32) &&& 31).toUInt32).toInt32) &&& (3 : Int32)), lv d', sd, iv cap, iv r0', iv r1', iv r2', iv r3', rv b8, iv (if m0 q0 = (-1 : Int32) then (1 : Int32) else (0 : Int32)), iv (if m15 b' = (-1 : Int32) then (1 : Int32) else (0 : Int32)), iv (if m20 c' = (-1 : Int32) then (1 : Int32) else (0 : Int32)), iv (if m25 q0 = (-1 : Int32) then (1 : Int32) else (0 : Int32)), iv eB, iv eC, iv r0', un, un, un, un, un] [(.int r0')]))
        exact J37 _ (Or.inl ⟨hc233, rfl⟩)
      · refine Go.stp (fun t_ k_ => XS.ifYes X30.here hx rfl (pc0 := 233) (pc' := 241) rfl (hb hby at_233) rfl ((if0 _ _).trans (feq (fun q => hc233 ((lw_eq b' q0).mp q))).2) (by decide) (by decide) k_) ?_
        show Go p.tables e below G (T30.setTop (mkF m 241 #[lv q0, sd, lv q1, sd, lv q2, sd, lv q3, sd, iv p4, iv p5, lv b', sd, iv (((p5.toUInt32 >>> ((1 : Int32) &&& 31).toUInt32).toInt32) &&& (3 : Int32)), lv c', sd, iv (((p5.toUInt32 >>> ((3 : Int32) &&& 31).toUInt32).toInt32) &&& (3 : Int32)), lv d', sd, iv cap, iv r0', iv r1', iv r2', iv r3', rv b8, iv (if m0 q0 = (-1 : Int32) then (1 : Int32) else (0 : Int32)), iv (if m15 b' = (-1 : Int32) then (1 : Int32) else (0 : Int32)), iv (if m20 c' = (-1 : Int32) then (1 : Int32) else (0 : Int32)), iv (if m25 q0 = (-1 : Int32) then (1 : Int32) else (0 : Int32)), iv eB, iv eC, iv r0', un, un, un, un, un] []))
        refine Go.stp (fun t_ k_ => XS.iload X30.here hx rfl (hb hby at_241) rfl k_) ?_
        show Go p.tables e below G (T30.setTop (mkF m 243 #[lv q0, sd, lv q1, sd, lv q2, sd, lv q3, sd, iv p4, iv p5, lv b', sd, iv (((p5.toUInt32 >>> ((1 : Int32) &&& 31).toUInt32).toInt32) &&& (3 : Int32)), lv c', sd, iv (((p5.toUInt32 >>> ((3 : Int32) &&& 31).toUInt32).toInt32) &&& (3 : Int32)), lv d', sd, iv cap, iv r0', iv r1', iv r2', iv r3', rv b8, iv (if m0 q0 = (-1 : Int32) then (1 : Int32) else (0 : Int32)), iv (if m15 b' = (-1 : Int32) then (1 : Int32) else (0 : Int32)), iv (if m20 c' = (-1 : Int32) then (1 : Int32) else (0 : Int32)), iv (if m25 q0 = (-1 : Int32) then (1 : Int32) else (0 : Int32)), iv eB, iv eC, iv r0', un, un, un, un, un] [(.int r1')]))
        exact J37 _ (Or.inr ⟨hc233, rfl⟩)
    intro rB hj243
    refine Go.stp (fun t_ k_ => XS.istore X30.here hx rfl (hb hby at_243) rfl (l' := #[lv q0, sd, lv q1, sd, lv q2, sd, lv q3, sd, iv p4, iv p5, lv b', sd, iv (((p5.toUInt32 >>> ((1 : Int32) &&& 31).toUInt32).toInt32) &&& (3 : Int32)), lv c', sd, iv (((p5.toUInt32 >>> ((3 : Int32) &&& 31).toUInt32).toInt32) &&& (3 : Int32)), lv d', sd, iv cap, iv r0', iv r1', iv r2', iv r3', rv b8, iv (if m0 q0 = (-1 : Int32) then (1 : Int32) else (0 : Int32)), iv (if m15 b' = (-1 : Int32) then (1 : Int32) else (0 : Int32)), iv (if m20 c' = (-1 : Int32) then (1 : Int32) else (0 : Int32)), iv (if m25 q0 = (-1 : Int32) then (1 : Int32) else (0 : Int32)), iv eB, iv eC, iv r0', iv rB, un, un, un, un]) rfl k_) ?_
    show Go p.tables e below G (T30.setTop (mkF m 245 #[lv q0, sd, lv q1, sd, lv q2, sd, lv q3, sd, iv p4, iv p5, lv b', sd, iv (((p5.toUInt32 >>> ((1 : Int32) &&& 31).toUInt32).toInt32) &&& (3 : Int32)), lv c', sd, iv (((p5.toUInt32 >>> ((3 : Int32) &&& 31).toUInt32).toInt32) &&& (3 : Int32)), lv d', sd, iv cap, iv r0', iv r1', iv r2', iv r3', rv b8, iv (if m0 q0 = (-1 : Int32) then (1 : Int32) else (0 : Int32)), iv (if m15 b' = (-1 : Int32) then (1 : Int32) else (0 : Int32)), iv (if m20 c' = (-1 : Int32) then (1 : Int32) else (0 : Int32)), iv (if m25 q0 = (-1 : Int32) then (1 : Int32) else (0 : Int32)), iv eB, iv eC, iv r0', iv rB, un, un, un, un] []))
    refine Go.stp (fun t_ k_ => XS.lload X30.here hx rfl (hb hby at_245) rfl k_) ?_
    show Go p.tables e below G (T30.setTop (mkF m 247 #[lv q0, sd, lv q1, sd, lv q2, sd, lv q3, sd, iv p4, iv p5, lv b', sd, iv (((p5.toUInt32 >>> ((1 : Int32) &&& 31).toUInt32).toInt32) &&& (3 : Int32)), lv c', sd, iv (((p5.toUInt32 >>> ((3 : Int32) &&& 31).toUInt32).toInt32) &&& (3 : Int32)), lv d', sd, iv cap, iv r0', iv r1', iv r2', iv r3', rv b8, iv (if m0 q0 = (-1 : Int32) then (1 : Int32) else (0 : Int32)), iv (if m15 b' = (-1 : Int32) then (1 : Int32) else (0 : Int32)), iv (if m20 c' = (-1 : Int32) then (1 : Int32) else (0 : Int32)), iv (if m25 q0 = (-1 : Int32) then (1 : Int32) else (0 : Int32)), iv eB, iv eC, iv r0', iv rB, un, un, un, un] [(.long c')]))
    refine Go.stp (fun t_ k_ => XS.lloadN X30.here hx rfl (hb hby at_247) rfl k_) ?_
    show Go p.tables e below G (T30.setTop (mkF m 248 #[lv q0, sd, lv q1, sd, lv q2, sd, lv q3, sd, iv p4, iv p5, lv b', sd, iv (((p5.toUInt32 >>> ((1 : Int32) &&& 31).toUInt32).toInt32) &&& (3 : Int32)), lv c', sd, iv (((p5.toUInt32 >>> ((3 : Int32) &&& 31).toUInt32).toInt32) &&& (3 : Int32)), lv d', sd, iv cap, iv r0', iv r1', iv r2', iv r3', rv b8, iv (if m0 q0 = (-1 : Int32) then (1 : Int32) else (0 : Int32)), iv (if m15 b' = (-1 : Int32) then (1 : Int32) else (0 : Int32)), iv (if m20 c' = (-1 : Int32) then (1 : Int32) else (0 : Int32)), iv (if m25 q0 = (-1 : Int32) then (1 : Int32) else (0 : Int32)), iv eB, iv eC, iv r0', iv rB, un, un, un, un] [(.long q0), (.long c')]))
    refine Go.stp (fun t_ k_ => XS.lcmp X30.here hx rfl (hb hby at_248) rfl k_) ?_
    show Go p.tables e below G (T30.setTop (mkF m 249 #[lv q0, sd, lv q1, sd, lv q2, sd, lv q3, sd, iv p4, iv p5, lv b', sd, iv (((p5.toUInt32 >>> ((1 : Int32) &&& 31).toUInt32).toInt32) &&& (3 : Int32)), lv c', sd, iv (((p5.toUInt32 >>> ((3 : Int32) &&& 31).toUInt32).toInt32) &&& (3 : Int32)), lv d', sd, iv cap, iv r0', iv r1', iv r2', iv r3', rv b8, iv (if m0 q0 = (-1 : Int32) then (1 : Int32) else (0 : Int32)), iv (if m15 b' = (-1 : Int32) then (1 : Int32) else (0 : Int32)), iv (if m20 c' = (-1 : Int32) then (1 : Int32) else (0 : Int32)), iv (if m25 q0 = (-1 : Int32) then (1 : Int32) else (0 : Int32)), iv eB, iv eC, iv r0', iv rB, un, un, un, un] [(.int (lcmpW c' q0))]))
    suffices J38 : ∀ (rC : Int32), (((c' = q0) ∧ rC = r0') ∨ (¬ (c' = q0) ∧ (c' = b') ∧ rC = rB) ∨ (¬ (c' = q0) ∧ ¬ (c' = b') ∧ rC = r2')) → Go p.tables e below G (T30.setTop (mkF m 272 #[lv q0, sd, lv q1, sd, lv q2, sd, lv q3, sd, iv p4, iv p5, lv b', sd, iv (((p5.toUInt32 >>> ((1 : Int32) &&& 31).toUInt32).toInt32) &&& (3 : Int32)), lv c', sd, iv (((p5.toUInt32 >>> ((3 : Int32) &&& 31).toUInt32).toInt32) &&& (3 : Int32)), lv d', sd, iv cap, iv r0', iv r1', iv r2', iv r3', rv b8, iv (if m0 q0 = (-1 : Int32) then (1 : Int32) else (0 : Int32)), iv (if m15 b' = (-1 : Int32) then (1 : Int32) else (0 : Int32)), iv (if m20 c' = (-1 : Int32) then (1 : Int32) else (0 : Int32)), iv (if m25 q0 = (-1 : Int32) then (1 : Int32) else (0 : Int32)), iv eB, iv eC, iv r0', iv rB, un, un, un, un] [(.int rC)])) by
      by_cases hc249 : c' = q0
      · refine Go.stp (fun t_ k_ => XS.ifNo X30.here hx rfl (hb hby at_249) rfl ((if0 _ _).trans (teq ((lw_eq c' q0).mpr hc249)).2) k_) ?_
        show Go p.tables e below G (T30.setTop (mkF m 252 #[lv q0, sd, lv q1, sd, lv q2, sd, lv q3, sd, iv p4, iv p5, lv b', sd, iv (((p5.toUInt32 >>> ((1 : Int32) &&& 31).toUInt32).toInt32) &&& (3 : Int32)), lv c', sd, iv (((p5.toUInt32 >>> ((3 : Int32) &&& 31).toUInt32).toInt32) &&& (3 : Int32)), lv d', sd, iv cap, iv r0', iv r1', iv r2', iv r3', rv b8, iv (if m0 q0 = (-1 : Int32) then (1 : Int32) else (0 : Int32)), iv (if m15 b' = (-1 : Int32) then (1 : Int32) else (0 : Int32)), iv (if m20 c' = (-1 : Int32) then (1 : Int32) else (0 : Int32)), iv (if m25 q0 = (-1 : Int32) then (1 : Int32) else (0 : Int32)), iv eB, iv eC, iv r0', iv rB, un, un, un, un] []))
        refine Go.stp (fun t_ k_ => XS.iload X30.here hx rfl (hb hby at_252) rfl k_) ?_
        show Go p.tables e below G (T30.setTop (mkF m 254 #[lv q0, sd, lv q1, sd, lv q2, sd, lv q3, sd, iv p4, iv p5, lv b', sd, iv (((p5.toUInt32 >>> ((1 : Int32) &&& 31).toUInt32).toInt32) &&& (3 : Int32)), lv c', sd, iv (((p5.toUInt32 >>> ((3 : Int32) &&& 31).toUInt32).toInt32) &&& (3 : Int32)), lv d', sd, iv cap, iv r0', iv r1', iv r2', iv r3', rv b8, iv (if m0 q0 = (-1 : Int32) then (1 : Int32) else (0 : Int32)), iv (if m15 b' = (-1 : Int32) then (1 : Int32) else (0 : Int32)), iv (if m20 c' = (-1 : Int32) then (1 : Int32) else (0 : Int32)), iv (if m25 q0 = (-1 : Int32) then (1 : Int32) else (0 : Int32)), iv eB, iv eC, iv r0', iv rB, un, un, un, un] [(.int r0')]))
        refine Go.stp (fun t_ k_ => XS.goto X30.here hx rfl (pc0 := 254) (pc' := 272) rfl (hb hby at_254) (by decide) (by decide) k_) ?_
        show Go p.tables e below G (T30.setTop (mkF m 272 #[lv q0, sd, lv q1, sd, lv q2, sd, lv q3, sd, iv p4, iv p5, lv b', sd, iv (((p5.toUInt32 >>> ((1 : Int32) &&& 31).toUInt32).toInt32) &&& (3 : Int32)), lv c', sd, iv (((p5.toUInt32 >>> ((3 : Int32) &&& 31).toUInt32).toInt32) &&& (3 : Int32)), lv d', sd, iv cap, iv r0', iv r1', iv r2', iv r3', rv b8, iv (if m0 q0 = (-1 : Int32) then (1 : Int32) else (0 : Int32)), iv (if m15 b' = (-1 : Int32) then (1 : Int32) else (0 : Int32)), iv (if m20 c' = (-1 : Int32) then (1 : Int32) else (0 : Int32)), iv (if m25 q0 = (-1 : Int32) then (1 : Int32) else (0 : Int32)), iv eB, iv eC, iv r0', iv rB, un, un, un, un] [(.int r0')]))
        exact J38 _ (Or.inl ⟨hc249, rfl⟩)
      · refine Go.stp (fun t_ k_ => XS.ifYes X30.here hx rfl (pc0 := 249) (pc' := 257) rfl (hb hby at_249) rfl ((if0 _ _).trans (feq (fun q => hc249 ((lw_eq c' q0).mp q))).2) (by decide) (by decide) k_) ?_
        show Go p.tables e below G (T30.setTop (mkF m 257 #[lv q0, sd, lv q1, sd, lv q2, sd, lv q3, sd, iv p4, iv p5, lv b', sd, iv (((p5.toUInt32 >>> ((1 : Int32) &&& 31).toUInt32).toInt32) &&& (3 : Int32)), lv c', sd, iv (((p5.toUInt32 >>> ((3 : Int32) &&& 31).toUInt32).toInt32) &&& (3 : Int32)), lv d', sd, iv cap, iv r0', iv r1', iv r2', iv r3', rv b8, iv (if m0 q0 = (-1 : Int32) then (1 : Int32) else (0 : Int32)), iv (if m15 b' = (-1 : Int32) then (1 : Int32) else (0 : Int32)), iv (if m20 c' = (-1 : Int32) then (1 : Int32) else (0 : Int32)), iv (if m25 q0 = (-1 : Int32) then (1 : Int32) else (0 : Int32)), iv eB, iv eC, iv r0', iv rB, un, un, un, un] []))
        refine Go.stp (fun t_ k_ => XS.lload X30.here hx rfl (hb hby at_257) rfl k_) ?_
        show Go p.tables e below G (T30.setTop (mkF m 259 #[lv q0, sd, lv q1, sd, lv q2, sd, lv q3, sd, iv p4, iv p5, lv b', sd, iv (((p5.toUInt32 >>> ((1 : Int32) &&& 31).toUInt32).toInt32) &&& (3 : Int32)), lv c', sd, iv (((p5.toUInt32 >>> ((3 : Int32) &&& 31).toUInt32).toInt32) &&& (3 : Int32)), lv d', sd, iv cap, iv r0', iv r1', iv r2', iv r3', rv b8, iv (if m0 q0 = (-1 : Int32) then (1 : Int32) else (0 : Int32)), iv (if m15 b' = (-1 : Int32) then (1 : Int32) else (0 : Int32)), iv (if m20 c' = (-1 : Int32) then (1 : Int32) else (0 : Int32)), iv (if m25 q0 = (-1 : Int32) then (1 : Int32) else (0 : Int32)), iv eB, iv eC, iv r0', iv rB, un, un, un, un] [(.long c')]))
        refine Go.stp (fun t_ k_ => XS.lload X30.here hx rfl (hb hby at_259) rfl k_) ?_
        show Go p.tables e below G (T30.setTop (mkF m 261 #[lv q0, sd, lv q1, sd, lv q2, sd, lv q3, sd, iv p4, iv p5, lv b', sd, iv (((p5.toUInt32 >>> ((1 : Int32) &&& 31).toUInt32).toInt32) &&& (3 : Int32)), lv c', sd, iv (((p5.toUInt32 >>> ((3 : Int32) &&& 31).toUInt32).toInt32) &&& (3 : Int32)), lv d', sd, iv cap, iv r0', iv r1', iv r2', iv r3', rv b8, iv (if m0 q0 = (-1 : Int32) then (1 : Int32) else (0 : Int32)), iv (if m15 b' = (-1 : Int32) then (1 : Int32) else (0 : Int32)), iv (if m20 c' = (-1 : Int32) then (1 : Int32) else (0 : Int32)), iv (if m25 q0 = (-1 : Int32) then (1 : Int32) else (0 : Int32)), iv eB, iv eC, iv r0', iv rB, un, un, un, un] [(.long b'), (.long c')]))
        refine Go.stp (fun t_ k_ => XS.lcmp X30.here hx rfl (hb hby at_261) rfl k_) ?_
        show Go p.tables e below G (T30.setTop (mkF m 262 #[lv q0, sd, lv q1, sd, lv q2, sd, lv q3, sd, iv p4, iv p5, lv b', sd, iv (((p5.toUInt32 >>> ((1 : Int32) &&& 31).toUInt32).toInt32) &&& (3 : Int32)), lv c', sd, iv (((p5.toUInt32 >>> ((3 : Int32) &&& 31).toUInt32).toInt32) &&& (3 : Int32)), lv d', sd, iv cap, iv r0', iv r1', iv r2', iv r3', rv b8, iv (if m0 q0 = (-1 : Int32) then (1 : Int32) else (0 : Int32)), iv (if m15 b' = (-1 : Int32) then (1 : Int32) else (0 : Int32)), iv (if m20 c' = (-1 : Int32) then (1 : Int32) else (0 : Int32)), iv (if m25 q0 = (-1 : Int32) then (1 : Int32) else (0 : Int32)), iv eB, iv eC, iv r0', iv rB, un, un, un, un] [(.int (lcmpW c' b'))]))
        by_cases hc262 : c' = b'
        · refine Go.stp (fun t_ k_ => XS.ifNo X30.here hx rfl (hb hby at_262) rfl ((if0 _ _).trans (teq ((lw_eq c' b').mpr hc262)).2) k_) ?_
          show Go p.tables e below G (T30.setTop (mkF m 265 #[lv q0, sd, lv q1, sd, lv q2, sd, lv q3, sd, iv p4, iv p5, lv b', sd, iv (((p5.toUInt32 >>> ((1 : Int32) &&& 31).toUInt32).toInt32) &&& (3 : Int32)), lv c', sd, iv (((p5.toUInt32 >>> ((3 : Int32) &&& 31).toUInt32).toInt32) &&& (3 : Int32)), lv d', sd, iv cap, iv r0', iv r1', iv r2', iv r3', rv b8, iv (if m0 q0 = (-1 : Int32) then (1 : Int32) else (0 : Int32)), iv (if m15 b' = (-1 : Int32) then (1 : Int32) else (0 : Int32)), iv (if m20 c' = (-1 : Int32) then (1 : Int32) else (0 : Int32)), iv (if m25 q0 = (-1 : Int32) then (1 : Int32) else (0 : Int32)), iv eB, iv eC, iv r0', iv rB, un, un, un, un] []))
          refine Go.stp (fun t_ k_ => XS.iload X30.here hx rfl (hb hby at_265) rfl k_) ?_
          show Go p.tables e below G (T30.setTop (mkF m 267 #[lv q0, sd, lv q1, sd, lv q2, sd, lv q3, sd, iv p4, iv p5, lv b', sd, iv (((p5.toUInt32 >>> ((1 : Int32) &&& 31).toUInt32).toInt32) &&& (3 : Int32)), lv c', sd, iv (((p5.toUInt32 >>> ((3 : Int32) &&& 31).toUInt32).toInt32) &&& (3 : Int32)), lv d', sd, iv cap, iv r0', iv r1', iv r2', iv r3', rv b8, iv (if m0 q0 = (-1 : Int32) then (1 : Int32) else (0 : Int32)), iv (if m15 b' = (-1 : Int32) then (1 : Int32) else (0 : Int32)), iv (if m20 c' = (-1 : Int32) then (1 : Int32) else (0 : Int32)), iv (if m25 q0 = (-1 : Int32) then (1 : Int32) else (0 : Int32)), iv eB, iv eC, iv r0', iv rB, un, un, un, un] [(.int rB)]))
          refine Go.stp (fun t_ k_ => XS.goto X30.here hx rfl (pc0 := 267) (pc' := 272) rfl (hb hby at_267) (by decide) (by decide) k_) ?_
          show Go p.tables e below G (T30.setTop (mkF m 272 #[lv q0, sd, lv q1, sd, lv q2, sd, lv q3, sd, iv p4, iv p5, lv b', sd, iv (((p5.toUInt32 >>> ((1 : Int32) &&& 31).toUInt32).toInt32) &&& (3 : Int32)), lv c', sd, iv (((p5.toUInt32 >>> ((3 : Int32) &&& 31).toUInt32).toInt32) &&& (3 : Int32)), lv d', sd, iv cap, iv r0', iv r1', iv r2', iv r3', rv b8, iv (if m0 q0 = (-1 : Int32) then (1 : Int32) else (0 : Int32)), iv (if m15 b' = (-1 : Int32) then (1 : Int32) else (0 : Int32)), iv (if m20 c' = (-1 : Int32) then (1 : Int32) else (0 : Int32)), iv (if m25 q0 = (-1 : Int32) then (1 : Int32) else (0 : Int32)), iv eB, iv eC, iv r0', iv rB, un, un, un, un] [(.int rB)]))
          exact J38 _ (Or.inr (Or.inl ⟨hc249, hc262, rfl⟩))
        · refine Go.stp (fun t_ k_ => XS.ifYes X30.here hx rfl (pc0 := 262) (pc' := 270) rfl (hb hby at_262) rfl ((if0 _ _).trans (feq (fun q => hc262 ((lw_eq c' b').mp q))).2) (by decide) (by decide) k_) ?_
          show Go p.tables e below G (T30.setTop (mkF m 270 #[lv q0, sd, lv q1, sd, lv q2, sd, lv q3, sd, iv p4, iv p5, lv b', sd, iv (((p5.toUInt32 >>> ((1 : Int32) &&& 31).toUInt32).toInt32) &&& (3 : Int32)), lv c', sd, iv (((p5.toUInt32 >>> ((3 : Int32) &&& 31).toUInt32).toInt32) &&& (3 : Int32)), lv d', sd, iv cap, iv r0', iv r1', iv r2', iv r3', rv b8, iv (if m0 q0 = (-1 : Int32) then (1 : Int32) else (0 : Int32)), iv (if m15 b' = (-1 : Int32) then (1 : Int32) else (0 : Int32)), iv (if m20 c' = (-1 : Int32) then (1 : Int32) else (0 : Int32)), iv (if m25 q0 = (-1 : Int32) then (1 : Int32) else (0 : Int32)), iv eB, iv eC, iv r0', iv rB, un, un, un, un] []))
          refine Go.stp (fun t_ k_ => XS.iload X30.here hx rfl (hb hby at_270) rfl k_) ?_
          show Go p.tables e below G (T30.setTop (mkF m 272 #[lv q0, sd, lv q1, sd, lv q2, sd, lv q3, sd, iv p4, iv p5, lv b', sd, iv (((p5.toUInt32 >>> ((1 : Int32) &&& 31).toUInt32).toInt32) &&& (3 : Int32)), lv c', sd, iv (((p5.toUInt32 >>> ((3 : Int32) &&& 31).toUInt32).toInt32) &&& (3 : Int32)), lv d', sd, iv cap, iv r0', iv r1', iv r2', iv r3', rv b8, iv (if m0 q0 = (-1 : Int32) then (1 : Int32) else (0 : Int32)), iv (if m15 b' = (-1 : Int32) then (1 : Int32) else (0 : Int32)), iv (if m20 c' = (-1 : Int32) then (1 : Int32) else (0 : Int32)), iv (if m25 q0 = (-1 : Int32) then (1 : Int32) else (0 : Int32)), iv eB, iv eC, iv r0', iv rB, un, un, un, un] [(.int r2')]))
          exact J38 _ (Or.inr (Or.inr ⟨hc249, hc262, rfl⟩))
    intro rC hj272
    refine Go.stp (fun t_ k_ => XS.istore X30.here hx rfl (hb hby at_272) rfl (l' := #[lv q0, sd, lv q1, sd, lv q2, sd, lv q3, sd, iv p4, iv p5, lv b', sd, iv (((p5.toUInt32 >>> ((1 : Int32) &&& 31).toUInt32).toInt32) &&& (3 : Int32)), lv c', sd, iv (((p5.toUInt32 >>> ((3 : Int32) &&& 31).toUInt32).toInt32) &&& (3 : Int32)), lv d', sd, iv cap, iv r0', iv r1', iv r2', iv r3', rv b8, iv (if m0 q0 = (-1 : Int32) then (1 : Int32) else (0 : Int32)), iv (if m15 b' = (-1 : Int32) then (1 : Int32) else (0 : Int32)), iv (if m20 c' = (-1 : Int32) then (1 : Int32) else (0 : Int32)), iv (if m25 q0 = (-1 : Int32) then (1 : Int32) else (0 : Int32)), iv eB, iv eC, iv r0', iv rB, iv rC, un, un, un]) rfl k_) ?_
    show Go p.tables e below G (T30.setTop (mkF m 274 #[lv q0, sd, lv q1, sd, lv q2, sd, lv q3, sd, iv p4, iv p5, lv b', sd, iv (((p5.toUInt32 >>> ((1 : Int32) &&& 31).toUInt32).toInt32) &&& (3 : Int32)), lv c', sd, iv (((p5.toUInt32 >>> ((3 : Int32) &&& 31).toUInt32).toInt32) &&& (3 : Int32)), lv d', sd, iv cap, iv r0', iv r1', iv r2', iv r3', rv b8, iv (if m0 q0 = (-1 : Int32) then (1 : Int32) else (0 : Int32)), iv (if m15 b' = (-1 : Int32) then (1 : Int32) else (0 : Int32)), iv (if m20 c' = (-1 : Int32) then (1 : Int32) else (0 : Int32)), iv (if m25 q0 = (-1 : Int32) then (1 : Int32) else (0 : Int32)), iv eB, iv eC, iv r0', iv rB, iv rC, un, un, un] []))
    refine Go.stp (fun t_ k_ => XS.lload X30.here hx rfl (hb hby at_274) rfl k_) ?_
    show Go p.tables e below G (T30.setTop (mkF m 276 #[lv q0, sd, lv q1, sd, lv q2, sd, lv q3, sd, iv p4, iv p5, lv b', sd, iv (((p5.toUInt32 >>> ((1 : Int32) &&& 31).toUInt32).toInt32) &&& (3 : Int32)), lv c', sd, iv (((p5.toUInt32 >>> ((3 : Int32) &&& 31).toUInt32).toInt32) &&& (3 : Int32)), lv d', sd, iv cap, iv r0', iv r1', iv r2', iv r3', rv b8, iv (if m0 q0 = (-1 : Int32) then (1 : Int32) else (0 : Int32)), iv (if m15 b' = (-1 : Int32) then (1 : Int32) else (0 : Int32)), iv (if m20 c' = (-1 : Int32) then (1 : Int32) else (0 : Int32)), iv (if m25 q0 = (-1 : Int32) then (1 : Int32) else (0 : Int32)), iv eB, iv eC, iv r0', iv rB, iv rC, un, un, un] [(.long d')]))
    refine Go.stp (fun t_ k_ => XS.lloadN X30.here hx rfl (hb hby at_276) rfl k_) ?_
    show Go p.tables e below G (T30.setTop (mkF m 277 #[lv q0, sd, lv q1, sd, lv q2, sd, lv q3, sd, iv p4, iv p5, lv b', sd, iv (((p5.toUInt32 >>> ((1 : Int32) &&& 31).toUInt32).toInt32) &&& (3 : Int32)), lv c', sd, iv (((p5.toUInt32 >>> ((3 : Int32) &&& 31).toUInt32).toInt32) &&& (3 : Int32)), lv d', sd, iv cap, iv r0', iv r1', iv r2', iv r3', rv b8, iv (if m0 q0 = (-1 : Int32) then (1 : Int32) else (0 : Int32)), iv (if m15 b' = (-1 : Int32) then (1 : Int32) else (0 : Int32)), iv (if m20 c' = (-1 : Int32) then (1 : Int32) else (0 : Int32)), iv (if m25 q0 = (-1 : Int32) then (1 : Int32) else (0 : Int32)), iv eB, iv eC, iv r0', iv rB, iv rC, un, un, un] [(.long q0), (.long d')]))
    refine Go.stp (fun t_ k_ => XS.lcmp X30.here hx rfl (hb hby at_277) rfl k_) ?_
    show Go p.tables e below G (T30.setTop (mkF m 278 #[lv q0, sd, lv q1, sd, lv q2, sd, lv q3, sd, iv p4, iv p5, lv b', sd, iv (((p5.toUInt32 >>> ((1 : Int32) &&& 31).toUInt32).toInt32) &&& (3 : Int32)), lv c', sd, iv (((p5.toUInt32 >>> ((3 : Int32) &&& 31).toUInt32).toInt32) &&& (3 : Int32)), lv d', sd, iv cap, iv r0', iv r1', iv r2', iv r3', rv b8, iv (if m0 q0 = (-1 : Int32) then (1 : Int32) else (0 : Int32)), iv (if m15 b' = (-1 : Int32) then (1 : Int32) else (0 : Int32)), iv (if m20 c' = (-1 : Int32) then (1 : Int32) else (0 : Int32)), iv (if m25 q0 = (-1 : Int32) then (1 : Int32) else (0 : Int32)), iv eB, iv eC, iv r0', iv rB, iv rC, un, un, un] [(.int (lcmpW d' q0))]))
    suffices J39 : ∀ (rD : Int32), (((d' = q0) ∧ rD = r0') ∨ (¬ (d' = q0) ∧ (d' = b') ∧ rD = rB) ∨ (¬ (d' = q0) ∧ ¬ (d' = b') ∧ (d' = c') ∧ rD = rC) ∨ (¬ (d' = q0) ∧ ¬ (d' = b') ∧ ¬ (d' = c') ∧ rD = (-1 : Int32))) → Go p.tables e below G (T30.setTop (mkF m 313 #[lv q0, sd, lv q1, sd, lv q2, sd, lv q3, sd, iv p4, iv p5, lv b', sd, iv (((p5.toUInt32 >>> ((1 : Int32) &&& 31).toUInt32).toInt32) &&& (3 : Int32)), lv c', sd, iv (((p5.toUInt32 >>> ((3 : Int32) &&& 31).toUInt32).toInt32) &&& (3 : Int32)), lv d', sd, iv cap, iv r0', iv r1', iv r2', iv r3', rv b8, iv (if m0 q0 = (-1 : Int32) then (1 : Int32) else (0 : Int32)), iv (if m15 b' = (-1 : Int32) then (1 : Int32) else (0 : Int32)), iv (if m20 c' = (-1 : Int32) then (1 : Int32) else (0 : Int32)), iv (if m25 q0 = (-1 : Int32) then (1 : Int32) else (0 : Int32)), iv eB, iv eC, iv r0', iv rB, iv rC, un, un, un] [(.int rD)])) by
      by_cases hc278 : d' = q0
      · refine Go.stp (fun t_ k_ => XS.ifNo X30.here hx rfl (hb hby at_278) rfl ((if0 _ _).trans (teq ((lw_eq d' q0).mpr hc278)).2) k_) ?_
        show Go p.tables e below G (T30.setTop (mkF m 281 #[lv q0, sd, lv q1, sd, lv q2, sd, lv q3, sd, iv p4, iv p5, lv b', sd, iv (((p5.toUInt32 >>> ((1 : Int32) &&& 31).toUInt32).toInt32) &&& (3 : Int32)), lv c', sd, iv (((p5.toUInt32 >>> ((3 : Int32) &&& 31).toUInt32).toInt32) &&& (3 : Int32)), lv d', sd, iv cap, iv r0', iv r1', iv r2', iv r3', rv b8, iv (if m0 q0 = (-1 : Int32) then (1 : Int32) else (0 : Int32)), iv (if m15 b' = (-1 : Int32) then (1 : Int32) else (0 : Int32)), iv (if m20 c' = (-1 : Int32) then (1 : Int32) else (0 : Int32)), iv (if m25 q0 = (-1 : Int32) then (1 : Int32) else (0 : Int32)), iv eB, iv eC, iv r0', iv rB, iv rC, un, un, un] []))
        refine Go.stp (fun t_ k_ => XS.iload X30.here hx rfl (hb hby at_281) rfl k_) ?_
        show Go p.tables e below G (T30.setTop (mkF m 283 #[lv q0, sd, lv q1, sd, lv q2, sd, lv q3, sd, iv p4, iv p5, lv b', sd, iv (((p5.toUInt32 >>> ((1 : Int32) &&& 31).toUInt32).toInt32) &&& (3 : Int32)), lv c', sd, iv (((p5.toUInt32 >>> ((3 : Int32) &&& 31).toUInt32).toInt32) &&& (3 : Int32)), lv d', sd, iv cap, iv r0', iv r1', iv r2', iv r3', rv b8, iv (if m0 q0 = (-1 : Int32) then (1 : Int32) else (0 : Int32)), iv (if m15 b' = (-1 : Int32) then (1 : Int32) else (0 : Int32)), iv (if m20 c' = (-1 : Int32) then (1 : Int32) else (0 : Int32)), iv (if m25 q0 = (-1 : Int32) then (1 : Int32) else (0 : Int32)), iv eB, iv eC, iv r0', iv rB, iv rC, un, un, un] [(.int r0')]))
        refine Go.stp (fun t_ k_ => XS.goto X30.here hx rfl (pc0 := 283) (pc' := 313) rfl (hb hby at_283) (by decide) (by decide) k_) ?_
        show Go p.tables e below G (T30.setTop (mkF m 313 #[lv q0, sd, lv q1, sd, lv q2, sd, lv q3, sd, iv p4, iv p5, lv b', sd, iv (((p5.toUInt32 >>> ((1 : Int32) &&& 31).toUInt32).toInt32) &&& (3 : Int32)), lv c', sd, iv (((p5.toUInt32 >>> ((3 : Int32) &&& 31).toUInt32).toInt32) &&& (3 : Int32)), lv d', sd, iv cap, iv r0', iv r1', iv r2', iv r3', rv b8, iv (if m0 q0 = (-1 : Int32) then (1 : Int32) else (0 : Int32)), iv (if m15 b' = (-1 : Int32) then (1 : Int32) else (0 : Int32)), iv (if m20 c' = (-1 : Int32) then (1 : Int32) else (0 : Int32)), iv (if m25 q0 = (-1 : Int32) then (1 : Int32) else (0 : Int32)), iv eB, iv eC, iv r0', iv rB, iv rC, un, un, un] [(.int r0')]))
        exact J39 _ (Or.inl ⟨hc278, rfl⟩)
      · refine Go.stp (fun t_ k_ => XS.ifYes X30.here hx rfl (pc0 := 278) (pc' := 286) rfl (hb hby at_278) rfl ((if0 _ _).trans (feq (fun q => hc278 ((lw_eq d' q0).mp q))).2) (by decide) (by decide) k_) ?_
        show Go p.tables e below G (T30.setTop (mkF m 286 #[lv q0, sd, lv q1, sd, lv q2, sd, lv q3, sd, iv p4, iv p5, lv b', sd, iv (((p5.toUInt32 >>> ((1 : Int32) &&& 31).toUInt32).toInt32) &&& (3 : Int32)), lv c', sd, iv (((p5.toUInt32 >>> ((3 : Int32) &&& 31).toUInt32).toInt32) &&& (3 : Int32)), lv d', sd, iv cap, iv r0', iv r1', iv r2', iv r3', rv b8, iv (if m0 q0 = (-1 : Int32) then (1 : Int32) else (0 : Int32)), iv (if m15 b' = (-1 : Int32) then (1 : Int32) else (0 : Int32)), iv (if m20 c' = (-1 : Int32) then (1 : Int32) else (0 : Int32)), iv (if m25 q0 = (-1 : Int32) then (1 : Int32) else (0 : Int32)), iv eB, iv eC, iv r0', iv rB, iv rC, un, un, un] []))
        refine Go.stp (fun t_ k_ => XS.lload X30.here hx rfl (hb hby at_286) rfl k_) ?_
        show Go p.tables e below G (T30.setTop (mkF m 288 #[lv q0, sd, lv q1, sd, lv q2, sd, lv q3, sd, iv p4, iv p5, lv b', sd, iv (((p5.toUInt32 >>> ((1 : Int32) &&& 31).toUInt32).toInt32) &&& (3 : Int32)), lv c', sd, iv (((p5.toUInt32 >>> ((3 : Int32) &&& 31).toUInt32).toInt32) &&& (3 : Int32)), lv d', sd, iv cap, iv r0', iv r1', iv r2', iv r3', rv b8, iv (if m0 q0 = (-1 : Int32) then (1 : Int32) else (0 : Int32)), iv (if m15 b' = (-1 : Int32) then (1 : Int32) else (0 : Int32)), iv (if m20 c' = (-1 : Int32) then (1 : Int32) else (0 : Int32)), iv (if m25 q0 = (-1 : Int32) then (1 : Int32) else (0 : Int32)), iv eB, iv eC, iv r0', iv rB, iv rC, un, un, un] [(.long d')]))
        refine Go.stp (fun t_ k_ => XS.lload X30.here hx rfl (hb hby at_288) rfl k_) ?_
        show Go p.tables e below G (T30.setTop (mkF m 290 #[lv q0, sd, lv q1, sd, lv q2, sd, lv q3, sd, iv p4, iv p5, lv b', sd, iv (((p5.toUInt32 >>> ((1 : Int32) &&& 31).toUInt32).toInt32) &&& (3 : Int32)), lv c', sd, iv (((p5.toUInt32 >>> ((3 : Int32) &&& 31).toUInt32).toInt32) &&& (3 : Int32)), lv d', sd, iv cap, iv r0', iv r1', iv r2', iv r3', rv b8, iv (if m0 q0 = (-1 : Int32) then (1 : Int32) else (0 : Int32)), iv (if m15 b' = (-1 : Int32) then (1 : Int32) else (0 : Int32)), iv (if m20 c' = (-1 : Int32) then (1 : Int32) else (0 : Int32)), iv (if m25 q0 = (-1 : Int32) then (1 : Int32) else (0 : Int32)), iv eB, iv eC, iv r0', iv rB, iv rC, un, un, un] [(.long b'), (.long d')]))
        refine Go.stp (fun t_ k_ => XS.lcmp X30.here hx rfl (hb hby at_290) rfl k_) ?_
        show Go p.tables e below G (T30.setTop (mkF m 291 #[lv q0, sd, lv q1, sd, lv q2, sd, lv q3, sd, iv p4, iv p5, lv b', sd, iv (((p5.toUInt32 >>> ((1 : Int32) &&& 31).toUInt32).toInt32) &&& (3 : Int32)), lv c', sd, iv (((p5.toUInt32 >>> ((3 : Int32) &&& 31).toUInt32).toInt32) &&& (3 : Int32)), lv d', sd, iv cap, iv r0', iv r1', iv r2', iv r3', rv b8, iv (if m0 q0 = (-1 : Int32) then (1 : Int32) else (0 : Int32)), iv (if m15 b' = (-1 : Int32) then (1 : Int32) else (0 : Int32)), iv (if m20 c' = (-1 : Int32) then (1 : Int32) else (0 : Int32)), iv (if m25 q0 = (-1 : Int32) then (1 : Int32) else (0 : Int32)), iv eB, iv eC, iv r0', iv rB, iv rC, un, un, un] [(.int (lcmpW d' b'))]))
        by_cases hc291 : d' = b'
        · refine Go.stp (fun t_ k_ => XS.ifNo X30.here hx rfl (hb hby at_291) rfl ((if0 _ _).trans (teq ((lw_eq d' b').mpr hc291)).2) k_) ?_
          show Go p.tables e below G (T30.setTop (mkF m 294 #[lv q0, sd, lv q1, sd, lv q2, sd, lv q3, sd, iv p4, iv p5, lv b', sd, iv (((p5.toUInt32 >>> ((1 : Int32) &&& 31).toUInt32).toInt32) &&& (3 : Int32)), lv c', sd, iv (((p5.toUInt32 >>> ((3 : Int32) &&& 31).toUInt32).toInt32) &&& (3 : Int32)), lv d', sd, iv cap, iv r0', iv r1', iv r2', iv r3', rv b8, iv (if m0 q0 = (-1 : Int32) then (1 : Int32) else (0 : Int32)), iv (if m15 b' = (-1 : Int32) then (1 : Int32) else (0 : Int32)), iv (if m20 c' = (-1 : Int32) then (1 : Int32) else (0 : Int32)), iv (if m25 q0 = (-1 : Int32) then (1 : Int32) else (0 : Int32)), iv eB, iv eC, iv r0', iv rB, iv rC, un, un, un] []))
          refine Go.stp (fun t_ k_ => XS.iload X30.here hx rfl (hb hby at_294) rfl k_) ?_
          show Go p.tables e below G (T30.setTop (mkF m 296 #[lv q0, sd, lv q1, sd, lv q2, sd, lv q3, sd, iv p4, iv p5, lv b', sd, iv (((p5.toUInt32 >>> ((1 : Int32) &&& 31).toUInt32).toInt32) &&& (3 : Int32)), lv c', sd, iv (((p5.toUInt32 >>> ((3 : Int32) &&& 31).toUInt32).toInt32) &&& (3 : Int32)), lv d', sd, iv cap, iv r0', iv r1', iv r2', iv r3', rv b8, iv (if m0 q0 = (-1 : Int32) then (1 : Int32) else (0 : Int32)), iv (if m15 b' = (-1 : Int32) then (1 : Int32) else (0 : Int32)), iv (if m20 c' = (-1 : Int32) then (1 : Int32) else (0 : Int32)), iv (if m25 q0 = (-1 : Int32) then (1 : Int32) else (0 : Int32)), iv eB, iv eC, iv r0', iv rB, iv rC, un, un, un] [(.int rB)]))
          refine Go.stp (fun t_ k_ => XS.goto X30.here hx rfl (pc0 := 296) (pc' := 313) rfl (hb hby at_296) (by decide) (by decide) k_) ?_
          show Go p.tables e below G (T30.setTop (mkF m 313 #[lv q0, sd, lv q1, sd, lv q2, sd, lv q3, sd, iv p4, iv p5, lv b', sd, iv (((p5.toUInt32 >>> ((1 : Int32) &&& 31).toUInt32).toInt32) &&& (3 : Int32)), lv c', sd, iv (((p5.toUInt32 >>> ((3 : Int32) &&& 31).toUInt32).toInt32) &&& (3 : Int32)), lv d', sd, iv cap, iv r0', iv r1', iv r2', iv r3', rv b8, iv (if m0 q0 = (-1 : Int32) then (1 : Int32) else (0 : Int32)), iv (if m15 b' = (-1 : Int32) then (1 : Int32) else (0 : Int32)), iv (if m20 c' = (-1 : Int32) then (1 : Int32) else (0 : Int32)), iv (if m25 q0 = (-1 : Int32) then (1 : Int32) else (0 : Int32)), iv eB, iv eC, iv r0', iv rB, iv rC, un, un, un] [(.int rB)]))
          exact J39 _ (Or.inr (Or.inl ⟨hc278, hc291, rfl⟩))
        · refine Go.stp (fun t_ k_ => XS.ifYes X30.here hx rfl (pc0 := 291) (pc' := 299) rfl (hb hby at_291) rfl ((if0 _ _).trans (feq (fun q => hc291 ((lw_eq d' b').mp q))).2) (by decide) (by decide) k_) ?_
          show Go p.tables e below G (T30.setTop (mkF m 299 #[lv q0, sd, lv q1, sd, lv q2, sd, lv q3, sd, iv p4, iv p5, lv b', sd, iv (((p5.toUInt32 >>> ((1 : Int32) &&& 31).toUInt32).toInt32) &&& (3 : Int32)), lv c', sd, iv (((p5.toUInt32 >>> ((3 : Int32) &&& 31).toUInt32).toInt32) &&& (3 : Int32)), lv d', sd, iv cap, iv r0', iv r1', iv r2', iv r3', rv b8, iv (if m0 q0 = (-1 : Int32) then (1 : Int32) else (0 : Int32)), iv (if m15 b' = (-1 : Int32) then (1 : Int32) else (0 : Int32)), iv (if m20 c' = (-1 : Int32) then (1 : Int32) else (0 : Int32)), iv (if m25 q0 = (-1 : Int32) then (1 : Int32) else (0 : Int32)), iv eB, iv eC, iv r0', iv rB, iv rC, un, un, un] []))
          refine Go.stp (fun t_ k_ => XS.lload X30.here hx rfl (hb hby at_299) rfl k_) ?_
          show Go p.tables e below G (T30.setTop (mkF m 301 #[lv q0, sd, lv q1, sd, lv q2, sd, lv q3, sd, iv p4, iv p5, lv b', sd, iv (((p5.toUInt32 >>> ((1 : Int32) &&& 31).toUInt32).toInt32) &&& (3 : Int32)), lv c', sd, iv (((p5.toUInt32 >>> ((3 : Int32) &&& 31).toUInt32).toInt32) &&& (3 : Int32)), lv d', sd, iv cap, iv r0', iv r1', iv r2', iv r3', rv b8, iv (if m0 q0 = (-1 : Int32) then (1 : Int32) else (0 : Int32)), iv (if m15 b' = (-1 : Int32) then (1 : Int32) else (0 : Int32)), iv (if m20 c' = (-1 : Int32) then (1 : Int32) else (0 : Int32)), iv (if m25 q0 = (-1 : Int32) then (1 : Int32) else (0 : Int32)), iv eB, iv eC, iv r0', iv rB, iv rC, un, un, un] [(.long d')]))
          refine Go.stp (fun t_ k_ => XS.lload X30.here hx rfl (hb hby at_301) rfl k_) ?_
          show Go p.tables e below G (T30.setTop (mkF m 303 #[lv q0, sd, lv q1, sd, lv q2, sd, lv q3, sd, iv p4, iv p5, lv b', sd, iv (((p5.toUInt32 >>> ((1 : Int32) &&& 31).toUInt32).toInt32) &&& (3 : Int32)), lv c', sd, iv (((p5.toUInt32 >>> ((3 : Int32) &&& 31).toUInt32).toInt32) &&& (3 : Int32)), lv d', sd, iv cap, iv r0', iv r1', iv r2', iv r3', rv b8, iv (if m0 q0 = (-1 : Int32) then (1 : Int32) else (0 : Int32)), iv (if m15 b' = (-1 : Int32) then (1 : Int32) else (0 : Int32)), iv (if m20 c' = (-1 : Int32) then (1 : Int32) else (0 : Int32)), iv (if m25 q0 = (-1 : Int32) then (1 : Int32) else (0 : Int32)), iv eB, iv eC, iv r0', iv rB, iv rC, un, un, un] [(.long c'), (.long d')]))
          refine Go.stp (fun t_ k_ => XS.lcmp X30.here hx rfl (hb hby at_303) rfl k_) ?_
          show Go p.tables e below G (T30.setTop (mkF m 304 #[lv q0, sd, lv q1, sd, lv q2, sd, lv q3, sd, iv p4, iv p5, lv b', sd, iv (((p5.toUInt32 >>> ((1 : Int32) &&& 31).toUInt32).toInt32) &&& (3 : Int32)), lv c', sd, iv (((p5.toUInt32 >>> ((3 : Int32) &&& 31).toUInt32).toInt32) &&& (3 : Int32)), lv d', sd, iv cap, iv r0', iv r1', iv r2', iv r3', rv b8, iv (if m0 q0 = (-1 : Int32) then (1 : Int32) else (0 : Int32)), iv (if m15 b' = (-1 : Int32) then (1 : Int32) else (0 : Int32)), iv (if m20 c' = (-1 : Int32) then (1 : Int32) else (0 : Int32)), iv (if m25 q0 = (-1 : Int32) then (1 : Int32) else (0 : Int32)), iv eB, iv eC, iv r0', iv rB, iv rC, un, un, un] [(.int (lcmpW d' c'))]))
          by_cases hc304 : d' = c'
          · refine Go.stp (fun t_ k_ => XS.ifNo X30.here hx rfl (hb hby at_304) rfl ((if0 _ _).trans (teq ((lw_eq d' c').mpr hc304)).2) k_) ?_
            show Go p.tables e below G (T30.setTop (mkF m 307 #[lv q0, sd, lv q1, sd, lv q2, sd, lv q3, sd, iv p4, iv p5, lv b', sd, iv (((p5.toUInt32 >>> ((1 : Int32) &&& 31).toUInt32).toInt32) &&& (3 : Int32)), lv c', sd, iv (((p5.toUInt32 >>> ((3 : Int32) &&& 31).toUInt32).toInt32) &&& (3 : Int32)), lv d', sd, iv cap, iv r0', iv r1', iv r2', iv r3', rv b8, iv (if m0 q0 = (-1 : Int32) then (1 : Int32) else (0 : Int32)), iv (if m15 b' = (-1 : Int32) then (1 : Int32) else (0 : Int32)), iv (if m20 c' = (-1 : Int32) then (1 : Int32) else (0 : Int32)), iv (if m25 q0 = (-1 : Int32) then (1 : Int32) else (0 : Int32)), iv eB, iv eC, iv r0', iv rB, iv rC, un, un, un] []))
            refine Go.stp (fun t_ k_ => XS.iload X30.here hx rfl (hb hby at_307) rfl k_) ?_
            show Go p.tables e below G (T30.setTop (mkF m 309 #[lv q0, sd, lv q1, sd, lv q2, sd, lv q3, sd, iv p4, iv p5, lv b', sd, iv (((p5.toUInt32 >>> ((1 : Int32) &&& 31).toUInt32).toInt32) &&& (3 : Int32)), lv c', sd, iv (((p5.toUInt32 >>> ((3 : Int32) &&& 31).toUInt32).toInt32) &&& (3 : Int32)), lv d', sd, iv cap, iv r0', iv r1', iv r2', iv r3', rv b8, iv (if m0 q0 = (-1 : Int32) then (1 : Int32) else (0 : Int32)), iv (if m15 b' = (-1 : Int32) then (1 : Int32) else (0 : Int32)), iv (if m20 c' = (-1 : Int32) then (1 : Int32) else (0 : Int32)), iv (if m25 q0 = (-1 : Int32) then (1 : Int32) else (0 : Int32)), iv eB, iv eC, iv r0', iv rB, iv rC, un, un, un] [(.int rC)]))
            refine Go.stp (fun t_ k_ => XS.goto X30.here hx rfl (pc0 := 309) (pc' := 313) rfl (hb hby at_309) (by decide) (by decide) k_) ?_
            show Go p.tables e below G (T30.setTop (mkF m 313 #[lv q0, sd, lv q1, sd, lv q2, sd, lv q3, sd, iv p4, iv p5, lv b', sd, iv (((p5.toUInt32 >>> ((1 : Int32) &&& 31).toUInt32).toInt32) &&& (3 : Int32)), lv c', sd, iv (((p5.toUInt32 >>> ((3 : Int32) &&& 31).toUInt32).toInt32) &&& (3 : Int32)), lv d', sd, iv cap, iv r0', iv r1', iv r2', iv r3', rv b8, iv (if m0 q0 = (-1 : Int32) then (1 : Int32) else (0 : Int32)), iv (if m15 b' = (-1 : Int32) then (1 : Int32) else (0 : Int32)), iv (if m20 c' = (-1 : Int32) then (1 : Int32) else (0 : Int32)), iv (if m25 q0 = (-1 : Int32) then (1 : Int32) else (0 : Int32)), iv eB, iv eC, iv r0', iv rB, iv rC, un, un, un] [(.int rC)]))
            exact J39 _ (Or.inr (Or.inr (Or.inl ⟨hc278, hc291, hc304, rfl⟩)))
          · refine Go.stp (fun t_ k_ => XS.ifYes X30.here hx rfl (pc0 := 304) (pc' := 312) rfl (hb hby at_304) rfl ((if0 _ _).trans (feq (fun q => hc304 ((lw_eq d' c').mp q))).2) (by decide) (by decide) k_) ?_
            show Go p.tables e below G (T30.setTop (mkF m 312 #[lv q0, sd, lv q1, sd, lv q2, sd, lv q3, sd, iv p4, iv p5, lv b', sd, iv (((p5.toUInt32 >>> ((1 : Int32) &&& 31).toUInt32).toInt32) &&& (3 : Int32)), lv c', sd, iv (((p5.toUInt32 >>> ((3 : Int32) &&& 31).toUInt32).toInt32) &&& (3 : Int32)), lv d', sd, iv cap, iv r0', iv r1', iv r2', iv r3', rv b8, iv (if m0 q0 = (-1 : Int32) then (1 : Int32) else (0 : Int32)), iv (if m15 b' = (-1 : Int32) then (1 : Int32) else (0 : Int32)), iv (if m20 c' = (-1 : Int32) then (1 : Int32) else (0 : Int32)), iv (if m25 q0 = (-1 : Int32) then (1 : Int32) else (0 : Int32)), iv eB, iv eC, iv r0', iv rB, iv rC, un, un, un] []))
            refine Go.stp (fun t_ k_ => XS.iconst X30.here hx rfl (hb hby at_312) k_) ?_
            show Go p.tables e below G (T30.setTop (mkF m 313 #[lv q0, sd, lv q1, sd, lv q2, sd, lv q3, sd, iv p4, iv p5, lv b', sd, iv (((p5.toUInt32 >>> ((1 : Int32) &&& 31).toUInt32).toInt32) &&& (3 : Int32)), lv c', sd, iv (((p5.toUInt32 >>> ((3 : Int32) &&& 31).toUInt32).toInt32) &&& (3 : Int32)), lv d', sd, iv cap, iv r0', iv r1', iv r2', iv r3', rv b8, iv (if m0 q0 = (-1 : Int32) then (1 : Int32) else (0 : Int32)), iv (if m15 b' = (-1 : Int32) then (1 : Int32) else (0 : Int32)), iv (if m20 c' = (-1 : Int32) then (1 : Int32) else (0 : Int32)), iv (if m25 q0 = (-1 : Int32) then (1 : Int32) else (0 : Int32)), iv eB, iv eC, iv r0', iv rB, iv rC, un, un, un] [(.int (-1 : Int32))]))
            exact J39 _ (Or.inr (Or.inr (Or.inr ⟨hc278, hc291, hc304, rfl⟩)))
    intro rD hj313
    refine Go.stp (fun t_ k_ => XS.istore X30.here hx rfl (hb hby at_313) rfl (l' := #[lv q0, sd, lv q1, sd, lv q2, sd, lv q3, sd, iv p4, iv p5, lv b', sd, iv (((p5.toUInt32 >>> ((1 : Int32) &&& 31).toUInt32).toInt32) &&& (3 : Int32)), lv c', sd, iv (((p5.toUInt32 >>> ((3 : Int32) &&& 31).toUInt32).toInt32) &&& (3 : Int32)), lv d', sd, iv cap, iv r0', iv r1', iv r2', iv r3', rv b8, iv (if m0 q0 = (-1 : Int32) then (1 : Int32) else (0 : Int32)), iv (if m15 b' = (-1 : Int32) then (1 : Int32) else (0 : Int32)), iv (if m20 c' = (-1 : Int32) then (1 : Int32) else (0 : Int32)), iv (if m25 q0 = (-1 : Int32) then (1 : Int32) else (0 : Int32)), iv eB, iv eC, iv r0', iv rB, iv rC, iv rD, un, un]) rfl k_) ?_
    show Go p.tables e below G (T30.setTop (mkF m 315 #[lv q0, sd, lv q1, sd, lv q2, sd, lv q3, sd, iv p4, iv p5, lv b', sd, iv (((p5.toUInt32 >>> ((1 : Int32) &&& 31).toUInt32).toInt32) &&& (3 : Int32)), lv c', sd, iv (((p5.toUInt32 >>> ((3 : Int32) &&& 31).toUInt32).toInt32) &&& (3 : Int32)), lv d', sd, iv cap, iv r0', iv r1', iv r2', iv r3', rv b8, iv (if m0 q0 = (-1 : Int32) then (1 : Int32) else (0 : Int32)), iv (if m15 b' = (-1 : Int32) then (1 : Int32) else (0 : Int32)), iv (if m20 c' = (-1 : Int32) then (1 : Int32) else (0 : Int32)), iv (if m25 q0 = (-1 : Int32) then (1 : Int32) else (0 : Int32)), iv eB, iv eC, iv r0', iv rB, iv rC, iv rD, un, un] []))
    refine Go.stp (fun t_ k_ => XS.iload X30.here hx rfl (hb hby at_315) rfl k_) ?_
    show Go p.tables e below G (T30.setTop (mkF m 317 #[lv q0, sd, lv q1, sd, lv q2, sd, lv q3, sd, iv p4, iv p5, lv b', sd, iv (((p5.toUInt32 >>> ((1 : Int32) &&& 31).toUInt32).toInt32) &&& (3 : Int32)), lv c', sd, iv (((p5.toUInt32 >>> ((3 : Int32) &&& 31).toUInt32).toInt32) &&& (3 : Int32)), lv d', sd, iv cap, iv r0', iv r1', iv r2', iv r3', rv b8, iv (if m0 q0 = (-1 : Int32) then (1 : Int32) else (0 : Int32)), iv (if m15 b' = (-1 : Int32) then (1 : Int32) else (0 : Int32)), iv (if m20 c' = (-1 : Int32) then (1 : Int32) else (0 : Int32)), iv (if m25 q0 = (-1 : Int32) then (1 : Int32) else (0 : Int32)), iv eB, iv eC, iv r0', iv rB, iv rC, iv rD, un, un] [(.int (if m0 q0 = (-1 : Int32) then (1 : Int32) else (0 : Int32)))]))
    have hd317 : ¬ ((if m0 q0 = (-1 : Int32) then (1 : Int32) else (0 : Int32)) = (0 : Int32)) := (by rw [fn0]; decide)
    refine Go.stp (fun t_ k_ => XS.ifNo X30.here hx rfl (hb hby at_317) rfl ((if0 _ _).trans (feq hd317).1) k_) ?_
    show Go p.tables e below G (T30.setTop (mkF m 320 #[lv q0, sd, lv q1, sd, lv q2, sd, lv q3, sd, iv p4, iv p5, lv b', sd, iv (((p5.toUInt32 >>> ((1 : Int32) &&& 31).toUInt32).toInt32) &&& (3 : Int32)), lv c', sd, iv (((p5.toUInt32 >>> ((3 : Int32) &&& 31).toUInt32).toInt32) &&& (3 : Int32)), lv d', sd, iv cap, iv r0', iv r1', iv r2', iv r3', rv b8, iv (if m0 q0 = (-1 : Int32) then (1 : Int32) else (0 : Int32)), iv (if m15 b' = (-1 : Int32) then (1 : Int32) else (0 : Int32)), iv (if m20 c' = (-1 : Int32) then (1 : Int32) else (0 : Int32)), iv (if m25 q0 = (-1 : Int32) then (1 : Int32) else (0 : Int32)), iv eB, iv eC, iv r0', iv rB, iv rC, iv rD, un, un] []))
    refine Go.stp (fun t_ k_ => XS.iload X30.here hx rfl (hb hby at_320) rfl k_) ?_
    show Go p.tables e below G (T30.setTop (mkF m 322 #[lv q0, sd, lv q1, sd, lv q2, sd, lv q3, sd, iv p4, iv p5, lv b', sd, iv (((p5.toUInt32 >>> ((1 : Int32) &&& 31).toUInt32).toInt32) &&& (3 : Int32)), lv c', sd, iv (((p5.toUInt32 >>> ((3 : Int32) &&& 31).toUInt32).toInt32) &&& (3 : Int32)), lv d', sd, iv cap, iv r0', iv r1', iv r2', iv r3', rv b8, iv (if m0 q0 = (-1 : Int32) then (1 : Int32) else (0 : Int32)), iv (if m15 b' = (-1 : Int32) then (1 : Int32) else (0 : Int32)), iv (if m20 c' = (-1 : Int32) then (1 : Int32) else (0 : Int32)), iv (if m25 q0 = (-1 : Int32) then (1 : Int32) else (0 : Int32)), iv eB, iv eC, iv r0', iv rB, iv rC, iv rD, un, un] [(.int (if m15 b' = (-1 : Int32) then (1 : Int32) else (0 : Int32)))]))
    refine Go.stp (fun t_ k_ => XS.iload X30.here hx rfl (hb hby at_322) rfl k_) ?_
    show Go p.tables e below G (T30.setTop (mkF m 324 #[lv q0, sd, lv q1, sd, lv q2, sd, lv q3, sd, iv p4, iv p5, lv b', sd, iv (((p5.toUInt32 >>> ((1 : Int32) &&& 31).toUInt32).toInt32) &&& (3 : Int32)), lv c', sd, iv (((p5.toUInt32 >>> ((3 : Int32) &&& 31).toUInt32).toInt32) &&& (3 : Int32)), lv d', sd, iv cap, iv r0', iv r1', iv r2', iv r3', rv b8, iv (if m0 q0 = (-1 : Int32) then (1 : Int32) else (0 : Int32)), iv (if m15 b' = (-1 : Int32) then (1 : Int32) else (0 : Int32)), iv (if m20 c' = (-1 : Int32) then (1 : Int32) else (0 : Int32)), iv (if m25 q0 = (-1 : Int32) then (1 : Int32) else (0 : Int32)), iv eB, iv eC, iv r0', iv rB, iv rC, iv rD, un, un] [(.int eB), (.int (if m15 b' = (-1 : Int32) then (1 : Int32) else (0 : Int32)))]))
    have hd324 : (if m15 b' = (-1 : Int32) then (1 : Int32) else (0 : Int32)) = eB := (by rw [fn1]; rcases hj201 with ⟨g1, g2⟩ | ⟨g1, g2⟩ <;> simp [g1, g2])
    refine Go.stp (fun t_ k_ => XS.icmpNo X30.here hx rfl (hb hby at_324) rfl (teq hd324).2 k_) ?_
    show Go p.tables e below G (T30.setTop (mkF m 327 #[lv q0, sd, lv q1, sd, lv q2, sd, lv q3, sd, iv p4, iv p5, lv b', sd, iv (((p5.toUInt32 >>> ((1 : Int32) &&& 31).toUInt32).toInt32) &&& (3 : Int32)), lv c', sd, iv (((p5.toUInt32 >>> ((3 : Int32) &&& 31).toUInt32).toInt32) &&& (3 : Int32)), lv d', sd, iv cap, iv r0', iv r1', iv r2', iv r3', rv b8, iv (if m0 q0 = (-1 : Int32) then (1 : Int32) else (0 : Int32)), iv (if m15 b' = (-1 : Int32) then (1 : Int32) else (0 : Int32)), iv (if m20 c' = (-1 : Int32) then (1 : Int32) else (0 : Int32)), iv (if m25 q0 = (-1 : Int32) then (1 : Int32) else (0 : Int32)), iv eB, iv eC, iv r0', iv rB, iv rC, iv rD, un, un] []))
    refine Go.stp (fun t_ k_ => XS.iload X30.here hx rfl (hb hby at_327) rfl k_) ?_
    show Go p.tables e below G (T30.setTop (mkF m 329 #[lv q0, sd, lv q1, sd, lv q2, sd, lv q3, sd, iv p4, iv p5, lv b', sd, iv (((p5.toUInt32 >>> ((1 : Int32) &&& 31).toUInt32).toInt32) &&& (3 : Int32)), lv c', sd, iv (((p5.toUInt32 >>> ((3 : Int32) &&& 31).toUInt32).toInt32) &&& (3 : Int32)), lv d', sd, iv cap, iv r0', iv r1', iv r2', iv r3', rv b8, iv (if m0 q0 = (-1 : Int32) then (1 : Int32) else (0 : Int32)), iv (if m15 b' = (-1 : Int32) then (1 : Int32) else (0 : Int32)), iv (if m20 c' = (-1 : Int32) then (1 : Int32) else (0 : Int32)), iv (if m25 q0 = (-1 : Int32) then (1 : Int32) else (0 : Int32)), iv eB, iv eC, iv r0', iv rB, iv rC, iv rD, un, un] [(.int (if m20 c' = (-1 : Int32) then (1 : Int32) else (0 : Int32)))]))
    refine Go.stp (fun t_ k_ => XS.iload X30.here hx rfl (hb hby at_329) rfl k_) ?_
    show Go p.tables e below G (T30.setTop (mkF m 331 #[lv q0, sd, lv q1, sd, lv q2, sd, lv q3, sd, iv p4, iv p5, lv b', sd, iv (((p5.toUInt32 >>> ((1 : Int32) &&& 31).toUInt32).toInt32) &&& (3 : Int32)), lv c', sd, iv (((p5.toUInt32 >>> ((3 : Int32) &&& 31).toUInt32).toInt32) &&& (3 : Int32)), lv d', sd, iv cap, iv r0', iv r1', iv r2', iv r3', rv b8, iv (if m0 q0 = (-1 : Int32) then (1 : Int32) else (0 : Int32)), iv (if m15 b' = (-1 : Int32) then (1 : Int32) else (0 : Int32)), iv (if m20 c' = (-1 : Int32) then (1 : Int32) else (0 : Int32)), iv (if m25 q0 = (-1 : Int32) then (1 : Int32) else (0 : Int32)), iv eB, iv eC, iv r0', iv rB, iv rC, iv rD, un, un] [(.int eC), (.int (if m20 c' = (-1 : Int32) then (1 : Int32) else (0 : Int32)))]))
    have hd331 : (if m20 c' = (-1 : Int32) then (1 : Int32) else (0 : Int32)) = eC := (by rw [fn2]; rcases hj223 with ⟨g1, g2⟩ | ⟨g1, g2, g3⟩ | ⟨g1, g2, g3⟩ <;> simp [*])
    refine Go.stp (fun t_ k_ => XS.icmpNo X30.here hx rfl (hb hby at_331) rfl (teq hd331).2 k_) ?_
    show Go p.tables e below G (T30.setTop (mkF m 334 #[lv q0, sd, lv q1, sd, lv q2, sd, lv q3, sd, iv p4, iv p5, lv b', sd, iv (((p5.toUInt32 >>> ((1 : Int32) &&& 31).toUInt32).toInt32) &&& (3 : Int32)), lv c', sd, iv (((p5.toUInt32 >>> ((3 : Int32) &&& 31).toUInt32).toInt32) &&& (3 : Int32)), lv d', sd, iv cap, iv r0', iv r1', iv r2', iv r3', rv b8, iv (if m0 q0 = (-1 : Int32) then (1 : Int32) else (0 : Int32)), iv (if m15 b' = (-1 : Int32) then (1 : Int32) else (0 : Int32)), iv (if m20 c' = (-1 : Int32) then (1 : Int32) else (0 : Int32)), iv (if m25 q0 = (-1 : Int32) then (1 : Int32) else (0 : Int32)), iv eB, iv eC, iv r0', iv rB, iv rC, iv rD, un, un] []))
    refine Go.stp (fun t_ k_ => XS.iload X30.here hx rfl (hb hby at_334) rfl k_) ?_
    show Go p.tables e below G (T30.setTop (mkF m 336 #[lv q0, sd, lv q1, sd, lv q2, sd, lv q3, sd, iv p4, iv p5, lv b', sd, iv (((p5.toUInt32 >>> ((1 : Int32) &&& 31).toUInt32).toInt32) &&& (3 : Int32)), lv c', sd, iv (((p5.toUInt32 >>> ((3 : Int32) &&& 31).toUInt32).toInt32) &&& (3 : Int32)), lv d', sd, iv cap, iv r0', iv r1', iv r2', iv r3', rv b8, iv (if m0 q0 = (-1 : Int32) then (1 : Int32) else (0 : Int32)), iv (if m15 b' = (-1 : Int32) then (1 : Int32) else (0 : Int32)), iv (if m20 c' = (-1 : Int32) then (1 : Int32) else (0 : Int32)), iv (if m25 q0 = (-1 : Int32) then (1 : Int32) else (0 : Int32)), iv eB, iv eC, iv r0', iv rB, iv rC, iv rD, un, un] [(.int (if m25 q0 = (-1 : Int32) then (1 : Int32) else (0 : Int32)))]))
    have hd336 : (if m25 q0 = (-1 : Int32) then (1 : Int32) else (0 : Int32)) = (0 : Int32) := fn3
    refine Go.stp (fun t_ k_ => XS.ifNo X30.here hx rfl (hb hby at_336) rfl ((if0 _ _).trans (teq hd336).2) k_) ?_
    show Go p.tables e below G (T30.setTop (mkF m 339 #[lv q0, sd, lv q1, sd, lv q2, sd, lv q3, sd, iv p4, iv p5, lv b', sd, iv (((p5.toUInt32 >>> ((1 : Int32) &&& 31).toUInt32).toInt32) &&& (3 : Int32)), lv c', sd, iv (((p5.toUInt32 >>> ((3 : Int32) &&& 31).toUInt32).toInt32) &&& (3 : Int32)), lv d', sd, iv cap, iv r0', iv r1', iv r2', iv r3', rv b8, iv (if m0 q0 = (-1 : Int32) then (1 : Int32) else (0 : Int32)), iv (if m15 b' = (-1 : Int32) then (1 : Int32) else (0 : Int32)), iv (if m20 c' = (-1 : Int32) then (1 : Int32) else (0 : Int32)), iv (if m25 q0 = (-1 : Int32) then (1 : Int32) else (0 : Int32)), iv eB, iv eC, iv r0', iv rB, iv rC, iv rD, un, un] []))
    refine Go.stp (fun t_ k_ => XS.iconst X30.here hx rfl (hb hby at_339) k_) ?_
    show Go p.tables e below G (T30.setTop (mkF m 340 #[lv q0, sd, lv q1, sd, lv q2, sd, lv q3, sd, iv p4, iv p5, lv b', sd, iv (((p5.toUInt32 >>> ((1 : Int32) &&& 31).toUInt32).toInt32) &&& (3 : Int32)), lv c', sd, iv (((p5.toUInt32 >>> ((3 : Int32) &&& 31).toUInt32).toInt32) &&& (3 : Int32)), lv d', sd, iv cap, iv r0', iv r1', iv r2', iv r3', rv b8, iv (if m0 q0 = (-1 : Int32) then (1 : Int32) else (0 : Int32)), iv (if m15 b' = (-1 : Int32) then (1 : Int32) else (0 : Int32)), iv (if m20 c' = (-1 : Int32) then (1 : Int32) else (0 : Int32)), iv (if m25 q0 = (-1 : Int32) then (1 : Int32) else (0 : Int32)), iv eB, iv eC, iv r0', iv rB, iv rC, iv rD, un, un] [(.int (1 : Int32))]))
    refine Go.stp (fun t_ k_ => XS.goto X30.here hx rfl (pc0 := 340) (pc' := 344) rfl (hb hby at_340) (by decide) (by decide) k_) ?_
    show Go p.tables e below G (T30.setTop (mkF m 344 #[lv q0, sd, lv q1, sd, lv q2, sd, lv q3, sd, iv p4, iv p5, lv b', sd, iv (((p5.toUInt32 >>> ((1 : Int32) &&& 31).toUInt32).toInt32) &&& (3 : Int32)), lv c', sd, iv (((p5.toUInt32 >>> ((3 : Int32) &&& 31).toUInt32).toInt32) &&& (3 : Int32)), lv d', sd, iv cap, iv r0', iv r1', iv r2', iv r3', rv b8, iv (if m0 q0 = (-1 : Int32) then (1 : Int32) else (0 : Int32)), iv (if m15 b' = (-1 : Int32) then (1 : Int32) else (0 : Int32)), iv (if m20 c' = (-1 : Int32) then (1 : Int32) else (0 : Int32)), iv (if m25 q0 = (-1 : Int32) then (1 : Int32) else (0 : Int32)), iv eB, iv eC, iv r0', iv rB, iv rC, iv rD, un, un] [(.int (1 : Int32))]))
    refine Go.stp (fun t_ k_ => XS.istore X30.here hx rfl (hb hby at_344) rfl (l' := #[lv q0, sd, lv q1, sd, lv q2, sd, lv q3, sd, iv p4, iv p5, lv b', sd, iv (((p5.toUInt32 >>> ((1 : Int32) &&& 31).toUInt32).toInt32) &&& (3 : Int32)), lv c', sd, iv (((p5.toUInt32 >>> ((3 : Int32) &&& 31).toUInt32).toInt32) &&& (3 : Int32)), lv d', sd, iv cap, iv r0', iv r1', iv r2', iv r3', rv b8, iv (if m0 q0 = (-1 : Int32) then (1 : Int32) else (0 : Int32)), iv (if m15 b' = (-1 : Int32) then (1 : Int32) else (0 : Int32)), iv (if m20 c' = (-1 : Int32) then (1 : Int32) else (0 : Int32)), iv (if m25 q0 = (-1 : Int32) then (1 : Int32) else (0 : Int32)), iv eB, iv eC, iv r0', iv rB, iv rC, iv rD, iv (1 : Int32), un]) rfl k_) ?_
    show Go p.tables e below G (T30.setTop (mkF m 346 #[lv q0, sd, lv q1, sd, lv q2, sd, lv q3, sd, iv p4, iv p5, lv b', sd, iv (((p5.toUInt32 >>> ((1 : Int32) &&& 31).toUInt32).toInt32) &&& (3 : Int32)), lv c', sd, iv (((p5.toUInt32 >>> ((3 : Int32) &&& 31).toUInt32).toInt32) &&& (3 : Int32)), lv d', sd, iv cap, iv r0', iv r1', iv r2', iv r3', rv b8, iv (if m0 q0 = (-1 : Int32) then (1 : Int32) else (0 : Int32)), iv (if m15 b' = (-1 : Int32) then (1 : Int32) else (0 : Int32)), iv (if m20 c' = (-1 : Int32) then (1 : Int32) else (0 : Int32)), iv (if m25 q0 = (-1 : Int32) then (1 : Int32) else (0 : Int32)), iv eB, iv eC, iv r0', iv rB, iv rC, iv rD, iv (1 : Int32), un] []))
    refine Go.stp (fun t_ k_ => XS.aload X30.here hx rfl (hb hby at_346) rfl rfl k_) ?_
    show Go p.tables e below G (T30.setTop (mkF m 348 #[lv q0, sd, lv q1, sd, lv q2, sd, lv q3, sd, iv p4, iv p5, lv b', sd, iv (((p5.toUInt32 >>> ((1 : Int32) &&& 31).toUInt32).toInt32) &&& (3 : Int32)), lv c', sd, iv (((p5.toUInt32 >>> ((3 : Int32) &&& 31).toUInt32).toInt32) &&& (3 : Int32)), lv d', sd, iv cap, iv r0', iv r1', iv r2', iv r3', rv b8, iv (if m0 q0 = (-1 : Int32) then (1 : Int32) else (0 : Int32)), iv (if m15 b' = (-1 : Int32) then (1 : Int32) else (0 : Int32)), iv (if m20 c' = (-1 : Int32) then (1 : Int32) else (0 : Int32)), iv (if m25 q0 = (-1 : Int32) then (1 : Int32) else (0 : Int32)), iv eB, iv eC, iv r0', iv rB, iv rC, iv rD, iv (1 : Int32), un] [(.ref b8)]))
    refine Go.stp (fun t_ k_ => XS.lloadN X30.here hx rfl (hb hby at_348) rfl k_) ?_
    show Go p.tables e below G (T30.setTop (mkF m 349 #[lv q0, sd, lv q1, sd, lv q2, sd, lv q3, sd, iv p4, iv p5, lv b', sd, iv (((p5.toUInt32 >>> ((1 : Int32) &&& 31).toUInt32).toInt32) &&& (3 : Int32)), lv c', sd, iv (((p5.toUInt32 >>> ((3 : Int32) &&& 31).toUInt32).toInt32) &&& (3 : Int32)), lv d', sd, iv cap, iv r0', iv r1', iv r2', iv r3', rv b8, iv (if m0 q0 = (-1 : Int32) then (1 : Int32) else (0 : Int32)), iv (if m15 b' = (-1 : Int32) then (1 : Int32) else (0 : Int32)), iv (if m20 c' = (-1 : Int32) then (1 : Int32) else (0 : Int32)), iv (if m25 q0 = (-1 : Int32) then (1 : Int32) else (0 : Int32)), iv eB, iv eC, iv r0', iv rB, iv rC, iv rD, iv (1 : Int32), un] [(.long q0), (.ref b8)]))
    obtain ⟨cq40, kq40, q40a, q40b, q40c⟩ := isOf hZ rfl f31
    obtain ⟨_, _, ⟨T40, L40, k40, n40⟩, -, X40, ⟨Lc40, hQ40, l40, y40, z40⟩, st40⟩ := X30.virtualBack hx (y := (⟨"com/example/chatterbench/chatterbench/data/IdIndex", "row", "(J)I"⟩ : MethodName)) (z := (⟨"com/example/chatterbench/chatterbench/data/IdIndex", "row", "(J)I"⟩ : MethodName)) hown (mvT hZ (hw _ (List.mem_of_getElem? (i := 43) rfl))) (mvT hZ (hw _ (List.mem_of_getElem? (i := 44) rfl))) (notFace_of_selects (args := #[]) (mvT hZ (hw _ (List.mem_of_getElem? (i := 46) rfl)))) (mvT hZ (hw _ (List.mem_of_getElem? (i := 46) rfl))) (mvT hZ (hw _ (List.mem_of_getElem? (i := 45) rfl))) (by decide) (backOf (W := 0) (rm8_8 l Z a0 hw [] b8 q0 ra ia R30 I30 m30 F30 T30.heap n0 Z30 f32 f33 Ja30 Jb30 f34 f31 rp30) hZ (hw _ (List.mem_of_getElem? (i := 47) rfl)) (hw _ (List.mem_of_getElem? (i := 3) rfl)) (by decide) (by decide)) q40a q40c (g := (mkF m 349 #[lv q0, sd, lv q1, sd, lv q2, sd, lv q3, sd, iv p4, iv p5, lv b', sd, iv (((p5.toUInt32 >>> ((1 : Int32) &&& 31).toUInt32).toInt32) &&& (3 : Int32)), lv c', sd, iv (((p5.toUInt32 >>> ((3 : Int32) &&& 31).toUInt32).toInt32) &&& (3 : Int32)), lv d', sd, iv cap, iv r0', iv r1', iv r2', iv r3', rv b8, iv (if m0 q0 = (-1 : Int32) then (1 : Int32) else (0 : Int32)), iv (if m15 b' = (-1 : Int32) then (1 : Int32) else (0 : Int32)), iv (if m20 c' = (-1 : Int32) then (1 : Int32) else (0 : Int32)), iv (if m25 q0 = (-1 : Int32) then (1 : Int32) else (0 : Int32)), iv eB, iv eC, iv r0', iv rB, iv rC, iv rD, iv (1 : Int32), un] [(.long q0), (.ref b8)])) rfl (by rw [hml]; rfl) (Steps.refl _) (argsL := [(.long q0)]) (rest := []) (lenOf pd_3 rfl) rfl (by show 2 * 0 + _ ≤ _; exact Nat.le_of_eq rfl) (hb hby at_349) (fun _ _ => ⟨rfl, rfl, (by decide : 3 + 0 ≤ _), (by decide : 20 + 0 ≤ _)⟩)
    dsimp only [Pt.U, Pt.locs, Pt.cells, Pt.slots] at X40 l40 y40 z40 st40 hQ40
    subst l40 y40 z40
    obtain ⟨rfl, Nq40, e40⟩ := hQ40
    have N40 := Fr.app N30 Nq40
    refine Go.stp (fun t_ k_ => st40.trans k_) ?_
    show Go p.tables e below G (T40.setTop (mkF m 352 #[lv q0, sd, lv q1, sd, lv q2, sd, lv q3, sd, iv p4, iv p5, lv b', sd, iv (((p5.toUInt32 >>> ((1 : Int32) &&& 31).toUInt32).toInt32) &&& (3 : Int32)), lv c', sd, iv (((p5.toUInt32 >>> ((3 : Int32) &&& 31).toUInt32).toInt32) &&& (3 : Int32)), lv d', sd, iv cap, iv r0', iv r1', iv r2', iv r3', rv b8, iv (if m0 q0 = (-1 : Int32) then (1 : Int32) else (0 : Int32)), iv (if m15 b' = (-1 : Int32) then (1 : Int32) else (0 : Int32)), iv (if m20 c' = (-1 : Int32) then (1 : Int32) else (0 : Int32)), iv (if m25 q0 = (-1 : Int32) then (1 : Int32) else (0 : Int32)), iv eB, iv eC, iv r0', iv rB, iv rC, iv rD, iv (1 : Int32), un] [(.int (m30 q0))]))
    refine Go.stp (fun t_ k_ => XS.iload X40.here hx rfl (hb hby at_352) rfl k_) ?_
    show Go p.tables e below G (T40.setTop (mkF m 354 #[lv q0, sd, lv q1, sd, lv q2, sd, lv q3, sd, iv p4, iv p5, lv b', sd, iv (((p5.toUInt32 >>> ((1 : Int32) &&& 31).toUInt32).toInt32) &&& (3 : Int32)), lv c', sd, iv (((p5.toUInt32 >>> ((3 : Int32) &&& 31).toUInt32).toInt32) &&& (3 : Int32)), lv d', sd, iv cap, iv r0', iv r1', iv r2', iv r3', rv b8, iv (if m0 q0 = (-1 : Int32) then (1 : Int32) else (0 : Int32)), iv (if m15 b' = (-1 : Int32) then (1 : Int32) else (0 : Int32)), iv (if m20 c' = (-1 : Int32) then (1 : Int32) else (0 : Int32)), iv (if m25 q0 = (-1 : Int32) then (1 : Int32) else (0 : Int32)), iv eB, iv eC, iv r0', iv rB, iv rC, iv rD, iv (1 : Int32), un] [(.int r0'), (.int (m30 q0))]))
    have hd354 : (m30 q0) = r0' := fa
    refine Go.stp (fun t_ k_ => XS.icmpNo X40.here hx rfl (hb hby at_354) rfl (teq hd354).2 k_) ?_
    show Go p.tables e below G (T40.setTop (mkF m 357 #[lv q0, sd, lv q1, sd, lv q2, sd, lv q3, sd, iv p4, iv p5, lv b', sd, iv (((p5.toUInt32 >>> ((1 : Int32) &&& 31).toUInt32).toInt32) &&& (3 : Int32)), lv c', sd, iv (((p5.toUInt32 >>> ((3 : Int32) &&& 31).toUInt32).toInt32) &&& (3 : Int32)), lv d', sd, iv cap, iv r0', iv r1', iv r2', iv r3', rv b8, iv (if m0 q0 = (-1 : Int32) then (1 : Int32) else (0 : Int32)), iv (if m15 b' = (-1 : Int32) then (1 : Int32) else (0 : Int32)), iv (if m20 c' = (-1 : Int32) then (1 : Int32) else (0 : Int32)), iv (if m25 q0 = (-1 : Int32) then (1 : Int32) else (0 : Int32)), iv eB, iv eC, iv r0', iv rB, iv rC, iv rD, iv (1 : Int32), un] []))
    refine Go.stp (fun t_ k_ => XS.aload X40.here hx rfl (hb hby at_357) rfl rfl k_) ?_
    show Go p.tables e below G (T40.setTop (mkF m 359 #[lv q0, sd, lv q1, sd, lv q2, sd, lv q3, sd, iv p4, iv p5, lv b', sd, iv (((p5.toUInt32 >>> ((1 : Int32) &&& 31).toUInt32).toInt32) &&& (3 : Int32)), lv c', sd, iv (((p5.toUInt32 >>> ((3 : Int32) &&& 31).toUInt32).toInt32) &&& (3 : Int32)), lv d', sd, iv cap, iv r0', iv r1', iv r2', iv r3', rv b8, iv (if m0 q0 = (-1 : Int32) then (1 : Int32) else (0 : Int32)), iv (if m15 b' = (-1 : Int32) then (1 : Int32) else (0 : Int32)), iv (if m20 c' = (-1 : Int32) then (1 : Int32) else (0 : Int32)), iv (if m25 q0 = (-1 : Int32) then (1 : Int32) else (0 : Int32)), iv eB, iv eC, iv r0', iv rB, iv rC, iv rD, iv (1 : Int32), un] [(.ref b8)]))
    refine Go.stp (fun t_ k_ => XS.lload X40.here hx rfl (hb hby at_359) rfl k_) ?_
    show Go p.tables e below G (T40.setTop (mkF m 361 #[lv q0, sd, lv q1, sd, lv q2, sd, lv q3, sd, iv p4, iv p5, lv b', sd, iv (((p5.toUInt32 >>> ((1 : Int32) &&& 31).toUInt32).toInt32) &&& (3 : Int32)), lv c', sd, iv (((p5.toUInt32 >>> ((3 : Int32) &&& 31).toUInt32).toInt32) &&& (3 : Int32)), lv d', sd, iv cap, iv r0', iv r1', iv r2', iv r3', rv b8, iv (if m0 q0 = (-1 : Int32) then (1 : Int32) else (0 : Int32)), iv (if m15 b' = (-1 : Int32) then (1 : Int32) else (0 : Int32)), iv (if m20 c' = (-1 : Int32) then (1 : Int32) else (0 : Int32)), iv (if m25 q0 = (-1 : Int32) then (1 : Int32) else (0 : Int32)), iv eB, iv eC, iv r0', iv rB, iv rC, iv rD, iv (1 : Int32), un] [(.long b'), (.ref b8)]))
    obtain ⟨cq41, kq41, q41a, q41b, q41c⟩ := isOf hZ e40 f31
    obtain ⟨_, _, ⟨T41, L41, k41, n41⟩, -, X41, ⟨Lc41, hQ41, l41, y41, z41⟩, st41⟩ := X40.virtualBack hx (y := (⟨"com/example/chatterbench/chatterbench/data/IdIndex", "row", "(J)I"⟩ : MethodName)) (z := (⟨"com/example/chatterbench/chatterbench/data/IdIndex", "row", "(J)I"⟩ : MethodName)) hown (mvT hZ (hw _ (List.mem_of_getElem? (i := 43) rfl))) (mvT hZ (hw _ (List.mem_of_getElem? (i := 44) rfl))) (notFace_of_selects (args := #[]) (mvT hZ (hw _ (List.mem_of_getElem? (i := 46) rfl)))) (mvT hZ (hw _ (List.mem_of_getElem? (i := 46) rfl))) (mvT hZ (hw _ (List.mem_of_getElem? (i := 45) rfl))) (by decide) (backOf (W := 0) (rm8_8 l Z a0 hw [] b8 b' ra ia R30 I30 m30 F30 T30.heap n0 Z30 f32 f33 Ja30 Jb30 f34 f31 rp30) hZ (hw _ (List.mem_of_getElem? (i := 47) rfl)) (hw _ (List.mem_of_getElem? (i := 3) rfl)) (by decide) (by decide)) q41a q41c (g := (mkF m 361 #[lv q0, sd, lv q1, sd, lv q2, sd, lv q3, sd, iv p4, iv p5, lv b', sd, iv (((p5.toUInt32 >>> ((1 : Int32) &&& 31).toUInt32).toInt32) &&& (3 : Int32)), lv c', sd, iv (((p5.toUInt32 >>> ((3 : Int32) &&& 31).toUInt32).toInt32) &&& (3 : Int32)), lv d', sd, iv cap, iv r0', iv r1', iv r2', iv r3', rv b8, iv (if m0 q0 = (-1 : Int32) then (1 : Int32) else (0 : Int32)), iv (if m15 b' = (-1 : Int32) then (1 : Int32) else (0 : Int32)), iv (if m20 c' = (-1 : Int32) then (1 : Int32) else (0 : Int32)), iv (if m25 q0 = (-1 : Int32) then (1 : Int32) else (0 : Int32)), iv eB, iv eC, iv r0', iv rB, iv rC, iv rD, iv (1 : Int32), un] [(.long b'), (.ref b8)])) rfl (by rw [hml]; rfl) (Steps.refl _) (argsL := [(.long b')]) (rest := []) (lenOf pd_3 rfl) rfl (by show 2 * 0 + _ ≤ _; exact Nat.le_of_eq rfl) (hb hby at_361) (fun _ _ => ⟨rfl, e40, (by decide : 3 + 0 ≤ _), (by decide : 20 + 0 ≤ _)⟩)
    dsimp only [Pt.U, Pt.locs, Pt.cells, Pt.slots] at X41 l41 y41 z41 st41 hQ41
    subst l41 y41 z41
    obtain ⟨rfl, Nq41, e41⟩ := hQ41
    have N41 := Fr.app N40 Nq41
    refine Go.stp (fun t_ k_ => st41.trans k_) ?_
    show Go p.tables e below G (T41.setTop (mkF m 364 #[lv q0, sd, lv q1, sd, lv q2, sd, lv q3, sd, iv p4, iv p5, lv b', sd, iv (((p5.toUInt32 >>> ((1 : Int32) &&& 31).toUInt32).toInt32) &&& (3 : Int32)), lv c', sd, iv (((p5.toUInt32 >>> ((3 : Int32) &&& 31).toUInt32).toInt32) &&& (3 : Int32)), lv d', sd, iv cap, iv r0', iv r1', iv r2', iv r3', rv b8, iv (if m0 q0 = (-1 : Int32) then (1 : Int32) else (0 : Int32)), iv (if m15 b' = (-1 : Int32) then (1 : Int32) else (0 : Int32)), iv (if m20 c' = (-1 : Int32) then (1 : Int32) else (0 : Int32)), iv (if m25 q0 = (-1 : Int32) then (1 : Int32) else (0 : Int32)), iv eB, iv eC, iv r0', iv rB, iv rC, iv rD, iv (1 : Int32), un] [(.int (m30 b'))]))
    refine Go.stp (fun t_ k_ => XS.iload X41.here hx rfl (hb hby at_364) rfl k_) ?_
    show Go p.tables e below G (T41.setTop (mkF m 366 #[lv q0, sd, lv q1, sd, lv q2, sd, lv q3, sd, iv p4, iv p5, lv b', sd, iv (((p5.toUInt32 >>> ((1 : Int32) &&& 31).toUInt32).toInt32) &&& (3 : Int32)), lv c', sd, iv (((p5.toUInt32 >>> ((3 : Int32) &&& 31).toUInt32).toInt32) &&& (3 : Int32)), lv d', sd, iv cap, iv r0', iv r1', iv r2', iv r3', rv b8, iv (if m0 q0 = (-1 : Int32) then (1 : Int32) else (0 : Int32)), iv (if m15 b' = (-1 : Int32) then (1 : Int32) else (0 : Int32)), iv (if m20 c' = (-1 : Int32) then (1 : Int32) else (0 : Int32)), iv (if m25 q0 = (-1 : Int32) then (1 : Int32) else (0 : Int32)), iv eB, iv eC, iv r0', iv rB, iv rC, iv rD, iv (1 : Int32), un] [(.int rB), (.int (m30 b'))]))
    have hd366 : (m30 b') = rB := (by rw [fb]; rcases hj243 with ⟨g1, g2⟩ | ⟨g1, g2⟩ <;> simp [g1, g2])
    refine Go.stp (fun t_ k_ => XS.icmpNo X41.here hx rfl (hb hby at_366) rfl (teq hd366).2 k_) ?_
    show Go p.tables e below G (T41.setTop (mkF m 369 #[lv q0, sd, lv q1, sd, lv q2, sd, lv q3, sd, iv p4, iv p5, lv b', sd, iv (((p5.toUInt32 >>> ((1 : Int32) &&& 31).toUInt32).toInt32) &&& (3 : Int32)), lv c', sd, iv (((p5.toUInt32 >>> ((3 : Int32) &&& 31).toUInt32).toInt32) &&& (3 : Int32)), lv d', sd, iv cap, iv r0', iv r1', iv r2', iv r3', rv b8, iv (if m0 q0 = (-1 : Int32) then (1 : Int32) else (0 : Int32)), iv (if m15 b' = (-1 : Int32) then (1 : Int32) else (0 : Int32)), iv (if m20 c' = (-1 : Int32) then (1 : Int32) else (0 : Int32)), iv (if m25 q0 = (-1 : Int32) then (1 : Int32) else (0 : Int32)), iv eB, iv eC, iv r0', iv rB, iv rC, iv rD, iv (1 : Int32), un] []))
    refine Go.stp (fun t_ k_ => XS.aload X41.here hx rfl (hb hby at_369) rfl rfl k_) ?_
    show Go p.tables e below G (T41.setTop (mkF m 371 #[lv q0, sd, lv q1, sd, lv q2, sd, lv q3, sd, iv p4, iv p5, lv b', sd, iv (((p5.toUInt32 >>> ((1 : Int32) &&& 31).toUInt32).toInt32) &&& (3 : Int32)), lv c', sd, iv (((p5.toUInt32 >>> ((3 : Int32) &&& 31).toUInt32).toInt32) &&& (3 : Int32)), lv d', sd, iv cap, iv r0', iv r1', iv r2', iv r3', rv b8, iv (if m0 q0 = (-1 : Int32) then (1 : Int32) else (0 : Int32)), iv (if m15 b' = (-1 : Int32) then (1 : Int32) else (0 : Int32)), iv (if m20 c' = (-1 : Int32) then (1 : Int32) else (0 : Int32)), iv (if m25 q0 = (-1 : Int32) then (1 : Int32) else (0 : Int32)), iv eB, iv eC, iv r0', iv rB, iv rC, iv rD, iv (1 : Int32), un] [(.ref b8)]))
    refine Go.stp (fun t_ k_ => XS.lload X41.here hx rfl (hb hby at_371) rfl k_) ?_
    show Go p.tables e below G (T41.setTop (mkF m 373 #[lv q0, sd, lv q1, sd, lv q2, sd, lv q3, sd, iv p4, iv p5, lv b', sd, iv (((p5.toUInt32 >>> ((1 : Int32) &&& 31).toUInt32).toInt32) &&& (3 : Int32)), lv c', sd, iv (((p5.toUInt32 >>> ((3 : Int32) &&& 31).toUInt32).toInt32) &&& (3 : Int32)), lv d', sd, iv cap, iv r0', iv r1', iv r2', iv r3', rv b8, iv (if m0 q0 = (-1 : Int32) then (1 : Int32) else (0 : Int32)), iv (if m15 b' = (-1 : Int32) then (1 : Int32) else (0 : Int32)), iv (if m20 c' = (-1 : Int32) then (1 : Int32) else (0 : Int32)), iv (if m25 q0 = (-1 : Int32) then (1 : Int32) else (0 : Int32)), iv eB, iv eC, iv r0', iv rB, iv rC, iv rD, iv (1 : Int32), un] [(.long c'), (.ref b8)]))
    obtain ⟨cq42, kq42, q42a, q42b, q42c⟩ := isOf hZ e41 f31
    obtain ⟨_, _, ⟨T42, L42, k42, n42⟩, -, X42, ⟨Lc42, hQ42, l42, y42, z42⟩, st42⟩ := X41.virtualBack hx (y := (⟨"com/example/chatterbench/chatterbench/data/IdIndex", "row", "(J)I"⟩ : MethodName)) (z := (⟨"com/example/chatterbench/chatterbench/data/IdIndex", "row", "(J)I"⟩ : MethodName)) hown (mvT hZ (hw _ (List.mem_of_getElem? (i := 43) rfl))) (mvT hZ (hw _ (List.mem_of_getElem? (i := 44) rfl))) (notFace_of_selects (args := #[]) (mvT hZ (hw _ (List.mem_of_getElem? (i := 46) rfl)))) (mvT hZ (hw _ (List.mem_of_getElem? (i := 46) rfl))) (mvT hZ (hw _ (List.mem_of_getElem? (i := 45) rfl))) (by decide) (backOf (W := 0) (rm8_8 l Z a0 hw [] b8 c' ra ia R30 I30 m30 F30 T30.heap n0 Z30 f32 f33 Ja30 Jb30 f34 f31 rp30) hZ (hw _ (List.mem_of_getElem? (i := 47) rfl)) (hw _ (List.mem_of_getElem? (i := 3) rfl)) (by decide) (by decide)) q42a q42c (g := (mkF m 373 #[lv q0, sd, lv q1, sd, lv q2, sd, lv q3, sd, iv p4, iv p5, lv b', sd, iv (((p5.toUInt32 >>> ((1 : Int32) &&& 31).toUInt32).toInt32) &&& (3 : Int32)), lv c', sd, iv (((p5.toUInt32 >>> ((3 : Int32) &&& 31).toUInt32).toInt32) &&& (3 : Int32)), lv d', sd, iv cap, iv r0', iv r1', iv r2', iv r3', rv b8, iv (if m0 q0 = (-1 : Int32) then (1 : Int32) else (0 : Int32)), iv (if m15 b' = (-1 : Int32) then (1 : Int32) else (0 : Int32)), iv (if m20 c' = (-1 : Int32) then (1 : Int32) else (0 : Int32)), iv (if m25 q0 = (-1 : Int32) then (1 : Int32) else (0 : Int32)), iv eB, iv eC, iv r0', iv rB, iv rC, iv rD, iv (1 : Int32), un] [(.long c'), (.ref b8)])) rfl (by rw [hml]; rfl) (Steps.refl _) (argsL := [(.long c')]) (rest := []) (lenOf pd_3 rfl) rfl (by show 2 * 0 + _ ≤ _; exact Nat.le_of_eq rfl) (hb hby at_373) (fun _ _ => ⟨rfl, e41, (by decide : 3 + 0 ≤ _), (by decide : 20 + 0 ≤ _)⟩)
    dsimp only [Pt.U, Pt.locs, Pt.cells, Pt.slots] at X42 l42 y42 z42 st42 hQ42
    subst l42 y42 z42
    obtain ⟨rfl, Nq42, e42⟩ := hQ42
    have N42 := Fr.app N41 Nq42
    refine Go.stp (fun t_ k_ => st42.trans k_) ?_
    show Go p.tables e below G (T42.setTop (mkF m 376 #[lv q0, sd, lv q1, sd, lv q2, sd, lv q3, sd, iv p4, iv p5, lv b', sd, iv (((p5.toUInt32 >>> ((1 : Int32) &&& 31).toUInt32).toInt32) &&& (3 : Int32)), lv c', sd, iv (((p5.toUInt32 >>> ((3 : Int32) &&& 31).toUInt32).toInt32) &&& (3 : Int32)), lv d', sd, iv cap, iv r0', iv r1', iv r2', iv r3', rv b8, iv (if m0 q0 = (-1 : Int32) then (1 : Int32) else (0 : Int32)), iv (if m15 b' = (-1 : Int32) then (1 : Int32) else (0 : Int32)), iv (if m20 c' = (-1 : Int32) then (1 : Int32) else (0 : Int32)), iv (if m25 q0 = (-1 : Int32) then (1 : Int32) else (0 : Int32)), iv eB, iv eC, iv r0', iv rB, iv rC, iv rD, iv (1 : Int32), un] [(.int (m30 c'))]))
    refine Go.stp (fun t_ k_ => XS.iload X42.here hx rfl (hb hby at_376) rfl k_) ?_
    show Go p.tables e below G (T42.setTop (mkF m 378 #[lv q0, sd, lv q1, sd, lv q2, sd, lv q3, sd, iv p4, iv p5, lv b', sd, iv (((p5.toUInt32 >>> ((1 : Int32) &&& 31).toUInt32).toInt32) &&& (3 : Int32)), lv c', sd, iv (((p5.toUInt32 >>> ((3 : Int32) &&& 31).toUInt32).toInt32) &&& (3 : Int32)), lv d', sd, iv cap, iv r0', iv r1', iv r2', iv r3', rv b8, iv (if m0 q0 = (-1 : Int32) then (1 : Int32) else (0 : Int32)), iv (if m15 b' = (-1 : Int32) then (1 : Int32) else (0 : Int32)), iv (if m20 c' = (-1 : Int32) then (1 : Int32) else (0 : Int32)), iv (if m25 q0 = (-1 : Int32) then (1 : Int32) else (0 : Int32)), iv eB, iv eC, iv r0', iv rB, iv rC, iv rD, iv (1 : Int32), un] [(.int rC), (.int (m30 c'))]))
    have hd378 : (m30 c') = rC := (by rw [fc]; rcases hj243 with ⟨g1, g2⟩ | ⟨g1, g2⟩ <;> rcases hj272 with ⟨g3, g4⟩ | ⟨g3, g4, g5⟩ | ⟨g3, g4, g5⟩ <;> simp [*])
    refine Go.stp (fun t_ k_ => XS.icmpNo X42.here hx rfl (hb hby at_378) rfl (teq hd378).2 k_) ?_
    show Go p.tables e below G (T42.setTop (mkF m 381 #[lv q0, sd, lv q1, sd, lv q2, sd, lv q3, sd, iv p4, iv p5, lv b', sd, iv (((p5.toUInt32 >>> ((1 : Int32) &&& 31).toUInt32).toInt32) &&& (3 : Int32)), lv c', sd, iv (((p5.toUInt32 >>> ((3 : Int32) &&& 31).toUInt32).toInt32) &&& (3 : Int32)), lv d', sd, iv cap, iv r0', iv r1', iv r2', iv r3', rv b8, iv (if m0 q0 = (-1 : Int32) then (1 : Int32) else (0 : Int32)), iv (if m15 b' = (-1 : Int32) then (1 : Int32) else (0 : Int32)), iv (if m20 c' = (-1 : Int32) then (1 : Int32) else (0 : Int32)), iv (if m25 q0 = (-1 : Int32) then (1 : Int32) else (0 : Int32)), iv eB, iv eC, iv r0', iv rB, iv rC, iv rD, iv (1 : Int32), un] []))
    refine Go.stp (fun t_ k_ => XS.aload X42.here hx rfl (hb hby at_381) rfl rfl k_) ?_
    show Go p.tables e below G (T42.setTop (mkF m 383 #[lv q0, sd, lv q1, sd, lv q2, sd, lv q3, sd, iv p4, iv p5, lv b', sd, iv (((p5.toUInt32 >>> ((1 : Int32) &&& 31).toUInt32).toInt32) &&& (3 : Int32)), lv c', sd, iv (((p5.toUInt32 >>> ((3 : Int32) &&& 31).toUInt32).toInt32) &&& (3 : Int32)), lv d', sd, iv cap, iv r0', iv r1', iv r2', iv r3', rv b8, iv (if m0 q0 = (-1 : Int32) then (1 : Int32) else (0 : Int32)), iv (if m15 b' = (-1 : Int32) then (1 : Int32) else (0 : Int32)), iv (if m20 c' = (-1 : Int32) then (1 : Int32) else (0 : Int32)), iv (if m25 q0 = (-1 : Int32) then (1 : Int32) else (0 : Int32)), iv eB, iv eC, iv r0', iv rB, iv rC, iv rD, iv (1 : Int32), un] [(.ref b8)]))
    refine Go.stp (fun t_ k_ => XS.lload X42.here hx rfl (hb hby at_383) rfl k_) ?_
    show Go p.tables e below G (T42.setTop (mkF m 385 #[lv q0, sd, lv q1, sd, lv q2, sd, lv q3, sd, iv p4, iv p5, lv b', sd, iv (((p5.toUInt32 >>> ((1 : Int32) &&& 31).toUInt32).toInt32) &&& (3 : Int32)), lv c', sd, iv (((p5.toUInt32 >>> ((3 : Int32) &&& 31).toUInt32).toInt32) &&& (3 : Int32)), lv d', sd, iv cap, iv r0', iv r1', iv r2', iv r3', rv b8, iv (if m0 q0 = (-1 : Int32) then (1 : Int32) else (0 : Int32)), iv (if m15 b' = (-1 : Int32) then (1 : Int32) else (0 : Int32)), iv (if m20 c' = (-1 : Int32) then (1 : Int32) else (0 : Int32)), iv (if m25 q0 = (-1 : Int32) then (1 : Int32) else (0 : Int32)), iv eB, iv eC, iv r0', iv rB, iv rC, iv rD, iv (1 : Int32), un] [(.long d'), (.ref b8)]))
    obtain ⟨cq43, kq43, q43a, q43b, q43c⟩ := isOf hZ e42 f31
    obtain ⟨_, _, ⟨T43, L43, k43, n43⟩, -, X43, ⟨Lc43, hQ43, l43, y43, z43⟩, st43⟩ := X42.virtualBack hx (y := (⟨"com/example/chatterbench/chatterbench/data/IdIndex", "row", "(J)I"⟩ : MethodName)) (z := (⟨"com/example/chatterbench/chatterbench/data/IdIndex", "row", "(J)I"⟩ : MethodName)) hown (mvT hZ (hw _ (List.mem_of_getElem? (i := 43) rfl))) (mvT hZ (hw _ (List.mem_of_getElem? (i := 44) rfl))) (notFace_of_selects (args := #[]) (mvT hZ (hw _ (List.mem_of_getElem? (i := 46) rfl)))) (mvT hZ (hw _ (List.mem_of_getElem? (i := 46) rfl))) (mvT hZ (hw _ (List.mem_of_getElem? (i := 45) rfl))) (by decide) (backOf (W := 0) (rm8_8 l Z a0 hw [] b8 d' ra ia R30 I30 m30 F30 T30.heap n0 Z30 f32 f33 Ja30 Jb30 f34 f31 rp30) hZ (hw _ (List.mem_of_getElem? (i := 47) rfl)) (hw _ (List.mem_of_getElem? (i := 3) rfl)) (by decide) (by decide)) q43a q43c (g := (mkF m 385 #[lv q0, sd, lv q1, sd, lv q2, sd, lv q3, sd, iv p4, iv p5, lv b', sd, iv (((p5.toUInt32 >>> ((1 : Int32) &&& 31).toUInt32).toInt32) &&& (3 : Int32)), lv c', sd, iv (((p5.toUInt32 >>> ((3 : Int32) &&& 31).toUInt32).toInt32) &&& (3 : Int32)), lv d', sd, iv cap, iv r0', iv r1', iv r2', iv r3', rv b8, iv (if m0 q0 = (-1 : Int32) then (1 : Int32) else (0 : Int32)), iv (if m15 b' = (-1 : Int32) then (1 : Int32) else (0 : Int32)), iv (if m20 c' = (-1 : Int32) then (1 : Int32) else (0 : Int32)), iv (if m25 q0 = (-1 : Int32) then (1 : Int32) else (0 : Int32)), iv eB, iv eC, iv r0', iv rB, iv rC, iv rD, iv (1 : Int32), un] [(.long d'), (.ref b8)])) rfl (by rw [hml]; rfl) (Steps.refl _) (argsL := [(.long d')]) (rest := []) (lenOf pd_3 rfl) rfl (by show 2 * 0 + _ ≤ _; exact Nat.le_of_eq rfl) (hb hby at_385) (fun _ _ => ⟨rfl, e42, (by decide : 3 + 0 ≤ _), (by decide : 20 + 0 ≤ _)⟩)
    dsimp only [Pt.U, Pt.locs, Pt.cells, Pt.slots] at X43 l43 y43 z43 st43 hQ43
    subst l43 y43 z43
    obtain ⟨rfl, Nq43, e43⟩ := hQ43
    have N43 := Fr.app N42 Nq43
    refine Go.stp (fun t_ k_ => st43.trans k_) ?_
    show Go p.tables e below G (T43.setTop (mkF m 388 #[lv q0, sd, lv q1, sd, lv q2, sd, lv q3, sd, iv p4, iv p5, lv b', sd, iv (((p5.toUInt32 >>> ((1 : Int32) &&& 31).toUInt32).toInt32) &&& (3 : Int32)), lv c', sd, iv (((p5.toUInt32 >>> ((3 : Int32) &&& 31).toUInt32).toInt32) &&& (3 : Int32)), lv d', sd, iv cap, iv r0', iv r1', iv r2', iv r3', rv b8, iv (if m0 q0 = (-1 : Int32) then (1 : Int32) else (0 : Int32)), iv (if m15 b' = (-1 : Int32) then (1 : Int32) else (0 : Int32)), iv (if m20 c' = (-1 : Int32) then (1 : Int32) else (0 : Int32)), iv (if m25 q0 = (-1 : Int32) then (1 : Int32) else (0 : Int32)), iv eB, iv eC, iv r0', iv rB, iv rC, iv rD, iv (1 : Int32), un] [(.int (m30 d'))]))
    refine Go.stp (fun t_ k_ => XS.iload X43.here hx rfl (hb hby at_388) rfl k_) ?_
    show Go p.tables e below G (T43.setTop (mkF m 390 #[lv q0, sd, lv q1, sd, lv q2, sd, lv q3, sd, iv p4, iv p5, lv b', sd, iv (((p5.toUInt32 >>> ((1 : Int32) &&& 31).toUInt32).toInt32) &&& (3 : Int32)), lv c', sd, iv (((p5.toUInt32 >>> ((3 : Int32) &&& 31).toUInt32).toInt32) &&& (3 : Int32)), lv d', sd, iv cap, iv r0', iv r1', iv r2', iv r3', rv b8, iv (if m0 q0 = (-1 : Int32) then (1 : Int32) else (0 : Int32)), iv (if m15 b' = (-1 : Int32) then (1 : Int32) else (0 : Int32)), iv (if m20 c' = (-1 : Int32) then (1 : Int32) else (0 : Int32)), iv (if m25 q0 = (-1 : Int32) then (1 : Int32) else (0 : Int32)), iv eB, iv eC, iv r0', iv rB, iv rC, iv rD, iv (1 : Int32), un] [(.int rD), (.int (m30 d'))]))
    have hd390 : (m30 d') = rD := (by rw [fd]; rcases hj243 with ⟨g1, g2⟩ | ⟨g1, g2⟩ <;> rcases hj272 with ⟨g3, g4⟩ | ⟨g3, g4, g5⟩ | ⟨g3, g4, g5⟩ <;> rcases hj313 with ⟨g6, g7⟩ | ⟨g6, g7, g8⟩ | ⟨g6, g7, g8, g9⟩ | ⟨g6, g7, g8, g9⟩ <;> simp [*])
    refine Go.stp (fun t_ k_ => XS.icmpNo X43.here hx rfl (hb hby at_390) rfl (teq hd390).2 k_) ?_
    show Go p.tables e below G (T43.setTop (mkF m 393 #[lv q0, sd, lv q1, sd, lv q2, sd, lv q3, sd, iv p4, iv p5, lv b', sd, iv (((p5.toUInt32 >>> ((1 : Int32) &&& 31).toUInt32).toInt32) &&& (3 : Int32)), lv c', sd, iv (((p5.toUInt32 >>> ((3 : Int32) &&& 31).toUInt32).toInt32) &&& (3 : Int32)), lv d', sd, iv cap, iv r0', iv r1', iv r2', iv r3', rv b8, iv (if m0 q0 = (-1 : Int32) then (1 : Int32) else (0 : Int32)), iv (if m15 b' = (-1 : Int32) then (1 : Int32) else (0 : Int32)), iv (if m20 c' = (-1 : Int32) then (1 : Int32) else (0 : Int32)), iv (if m25 q0 = (-1 : Int32) then (1 : Int32) else (0 : Int32)), iv eB, iv eC, iv r0', iv rB, iv rC, iv rD, iv (1 : Int32), un] []))
    refine Go.stp (fun t_ k_ => XS.iconst X43.here hx rfl (hb hby at_393) k_) ?_
    show Go p.tables e below G (T43.setTop (mkF m 394 #[lv q0, sd, lv q1, sd, lv q2, sd, lv q3, sd, iv p4, iv p5, lv b', sd, iv (((p5.toUInt32 >>> ((1 : Int32) &&& 31).toUInt32).toInt32) &&& (3 : Int32)), lv c', sd, iv (((p5.toUInt32 >>> ((3 : Int32) &&& 31).toUInt32).toInt32) &&& (3 : Int32)), lv d', sd, iv cap, iv r0', iv r1', iv r2', iv r3', rv b8, iv (if m0 q0 = (-1 : Int32) then (1 : Int32) else (0 : Int32)), iv (if m15 b' = (-1 : Int32) then (1 : Int32) else (0 : Int32)), iv (if m20 c' = (-1 : Int32) then (1 : Int32) else (0 : Int32)), iv (if m25 q0 = (-1 : Int32) then (1 : Int32) else (0 : Int32)), iv eB, iv eC, iv r0', iv rB, iv rC, iv rD, iv (1 : Int32), un] [(.int (1 : Int32))]))
    refine Go.stp (fun t_ k_ => XS.goto X43.here hx rfl (pc0 := 394) (pc' := 398) rfl (hb hby at_394) (by decide) (by decide) k_) ?_
    show Go p.tables e below G (T43.setTop (mkF m 398 #[lv q0, sd, lv q1, sd, lv q2, sd, lv q3, sd, iv p4, iv p5, lv b', sd, iv (((p5.toUInt32 >>> ((1 : Int32) &&& 31).toUInt32).toInt32) &&& (3 : Int32)), lv c', sd, iv (((p5.toUInt32 >>> ((3 : Int32) &&& 31).toUInt32).toInt32) &&& (3 : Int32)), lv d', sd, iv cap, iv r0', iv r1', iv r2', iv r3', rv b8, iv (if m0 q0 = (-1 : Int32) then (1 : Int32) else (0 : Int32)), iv (if m15 b' = (-1 : Int32) then (1 : Int32) else (0 : Int32)), iv (if m20 c' = (-1 : Int32) then (1 : Int32) else (0 : Int32)), iv (if m25 q0 = (-1 : Int32) then (1 : Int32) else (0 : Int32)), iv eB, iv eC, iv r0', iv rB, iv rC, iv rD, iv (1 : Int32), un] [(.int (1 : Int32))]))
    refine Go.stp (fun t_ k_ => XS.istore X43.here hx rfl (hb hby at_398) rfl (l' := #[lv q0, sd, lv q1, sd, lv q2, sd, lv q3, sd, iv p4, iv p5, lv b', sd, iv (((p5.toUInt32 >>> ((1 : Int32) &&& 31).toUInt32).toInt32) &&& (3 : Int32)), lv c', sd, iv (((p5.toUInt32 >>> ((3 : Int32) &&& 31).toUInt32).toInt32) &&& (3 : Int32)), lv d', sd, iv cap, iv r0', iv r1', iv r2', iv r3', rv b8, iv (if m0 q0 = (-1 : Int32) then (1 : Int32) else (0 : Int32)), iv (if m15 b' = (-1 : Int32) then (1 : Int32) else (0 : Int32)), iv (if m20 c' = (-1 : Int32) then (1 : Int32) else (0 : Int32)), iv (if m25 q0 = (-1 : Int32) then (1 : Int32) else (0 : Int32)), iv eB, iv eC, iv r0', iv rB, iv rC, iv rD, iv (1 : Int32), iv (1 : Int32)]) rfl k_) ?_
    show Go p.tables e below G (T43.setTop (mkF m 400 #[lv q0, sd, lv q1, sd, lv q2, sd, lv q3, sd, iv p4, iv p5, lv b', sd, iv (((p5.toUInt32 >>> ((1 : Int32) &&& 31).toUInt32).toInt32) &&& (3 : Int32)), lv c', sd, iv (((p5.toUInt32 >>> ((3 : Int32) &&& 31).toUInt32).toInt32) &&& (3 : Int32)), lv d', sd, iv cap, iv r0', iv r1', iv r2', iv r3', rv b8, iv (if m0 q0 = (-1 : Int32) then (1 : Int32) else (0 : Int32)), iv (if m15 b' = (-1 : Int32) then (1 : Int32) else (0 : Int32)), iv (if m20 c' = (-1 : Int32) then (1 : Int32) else (0 : Int32)), iv (if m25 q0 = (-1 : Int32) then (1 : Int32) else (0 : Int32)), iv eB, iv eC, iv r0', iv rB, iv rC, iv rD, iv (1 : Int32), iv (1 : Int32)] []))
    refine Go.stp (fun t_ k_ => XS.iload X43.here hx rfl (hb hby at_400) rfl k_) ?_
    show Go p.tables e below G (T43.setTop (mkF m 402 #[lv q0, sd, lv q1, sd, lv q2, sd, lv q3, sd, iv p4, iv p5, lv b', sd, iv (((p5.toUInt32 >>> ((1 : Int32) &&& 31).toUInt32).toInt32) &&& (3 : Int32)), lv c', sd, iv (((p5.toUInt32 >>> ((3 : Int32) &&& 31).toUInt32).toInt32) &&& (3 : Int32)), lv d', sd, iv cap, iv r0', iv r1', iv r2', iv r3', rv b8, iv (if m0 q0 = (-1 : Int32) then (1 : Int32) else (0 : Int32)), iv (if m15 b' = (-1 : Int32) then (1 : Int32) else (0 : Int32)), iv (if m20 c' = (-1 : Int32) then (1 : Int32) else (0 : Int32)), iv (if m25 q0 = (-1 : Int32) then (1 : Int32) else (0 : Int32)), iv eB, iv eC, iv r0', iv rB, iv rC, iv rD, iv (1 : Int32), iv (1 : Int32)] [(.int (1 : Int32))]))
    refine Go.stp (fun t_ k_ => XS.ifNo X43.here hx rfl (hb hby at_402) rfl ((if0 _ _).trans (feq (by decide : ¬ ((1 : Int32) = (0 : Int32)))).1) k_) ?_
    show Go p.tables e below G (T43.setTop (mkF m 405 #[lv q0, sd, lv q1, sd, lv q2, sd, lv q3, sd, iv p4, iv p5, lv b', sd, iv (((p5.toUInt32 >>> ((1 : Int32) &&& 31).toUInt32).toInt32) &&& (3 : Int32)), lv c', sd, iv (((p5.toUInt32 >>> ((3 : Int32) &&& 31).toUInt32).toInt32) &&& (3 : Int32)), lv d', sd, iv cap, iv r0', iv r1', iv r2', iv r3', rv b8, iv (if m0 q0 = (-1 : Int32) then (1 : Int32) else (0 : Int32)), iv (if m15 b' = (-1 : Int32) then (1 : Int32) else (0 : Int32)), iv (if m20 c' = (-1 : Int32) then (1 : Int32) else (0 : Int32)), iv (if m25 q0 = (-1 : Int32) then (1 : Int32) else (0 : Int32)), iv eB, iv eC, iv r0', iv rB, iv rC, iv rD, iv (1 : Int32), iv (1 : Int32)] []))
    refine Go.stp (fun t_ k_ => XS.iload X43.here hx rfl (hb hby at_405) rfl k_) ?_
    show Go p.tables e below G (T43.setTop (mkF m 407 #[lv q0, sd, lv q1, sd, lv q2, sd, lv q3, sd, iv p4, iv p5, lv b', sd, iv (((p5.toUInt32 >>> ((1 : Int32) &&& 31).toUInt32).toInt32) &&& (3 : Int32)), lv c', sd, iv (((p5.toUInt32 >>> ((3 : Int32) &&& 31).toUInt32).toInt32) &&& (3 : Int32)), lv d', sd, iv cap, iv r0', iv r1', iv r2', iv r3', rv b8, iv (if m0 q0 = (-1 : Int32) then (1 : Int32) else (0 : Int32)), iv (if m15 b' = (-1 : Int32) then (1 : Int32) else (0 : Int32)), iv (if m20 c' = (-1 : Int32) then (1 : Int32) else (0 : Int32)), iv (if m25 q0 = (-1 : Int32) then (1 : Int32) else (0 : Int32)), iv eB, iv eC, iv r0', iv rB, iv rC, iv rD, iv (1 : Int32), iv (1 : Int32)] [(.int (1 : Int32))]))
    refine Go.stp (fun t_ k_ => XS.ifNo X43.here hx rfl (hb hby at_407) rfl ((if0 _ _).trans (feq (by decide : ¬ ((1 : Int32) = (0 : Int32)))).1) k_) ?_
    show Go p.tables e below G (T43.setTop (mkF m 410 #[lv q0, sd, lv q1, sd, lv q2, sd, lv q3, sd, iv p4, iv p5, lv b', sd, iv (((p5.toUInt32 >>> ((1 : Int32) &&& 31).toUInt32).toInt32) &&& (3 : Int32)), lv c', sd, iv (((p5.toUInt32 >>> ((3 : Int32) &&& 31).toUInt32).toInt32) &&& (3 : Int32)), lv d', sd, iv cap, iv r0', iv r1', iv r2', iv r3', rv b8, iv (if m0 q0 = (-1 : Int32) then (1 : Int32) else (0 : Int32)), iv (if m15 b' = (-1 : Int32) then (1 : Int32) else (0 : Int32)), iv (if m20 c' = (-1 : Int32) then (1 : Int32) else (0 : Int32)), iv (if m25 q0 = (-1 : Int32) then (1 : Int32) else (0 : Int32)), iv eB, iv eC, iv r0', iv rB, iv rC, iv rD, iv (1 : Int32), iv (1 : Int32)] []))
    refine Go.stp (fun t_ k_ => XS.iconst X43.here hx rfl (hb hby at_410) k_) ?_
    show Go p.tables e below G (T43.setTop (mkF m 411 #[lv q0, sd, lv q1, sd, lv q2, sd, lv q3, sd, iv p4, iv p5, lv b', sd, iv (((p5.toUInt32 >>> ((1 : Int32) &&& 31).toUInt32).toInt32) &&& (3 : Int32)), lv c', sd, iv (((p5.toUInt32 >>> ((3 : Int32) &&& 31).toUInt32).toInt32) &&& (3 : Int32)), lv d', sd, iv cap, iv r0', iv r1', iv r2', iv r3', rv b8, iv (if m0 q0 = (-1 : Int32) then (1 : Int32) else (0 : Int32)), iv (if m15 b' = (-1 : Int32) then (1 : Int32) else (0 : Int32)), iv (if m20 c' = (-1 : Int32) then (1 : Int32) else (0 : Int32)), iv (if m25 q0 = (-1 : Int32) then (1 : Int32) else (0 : Int32)), iv eB, iv eC, iv r0', iv rB, iv rC, iv rD, iv (1 : Int32), iv (1 : Int32)] [(.int (1 : Int32))]))
    refine Go.stp (fun t_ k_ => XS.goto X43.here hx rfl (pc0 := 411) (pc' := 415) rfl (hb hby at_411) (by decide) (by decide) k_) ?_
    show Go p.tables e below G (T43.setTop (mkF m 415 #[lv q0, sd, lv q1, sd, lv q2, sd, lv q3, sd, iv p4, iv p5, lv b', sd, iv (((p5.toUInt32 >>> ((1 : Int32) &&& 31).toUInt32).toInt32) &&& (3 : Int32)), lv c', sd, iv (((p5.toUInt32 >>> ((3 : Int32) &&& 31).toUInt32).toInt32) &&& (3 : Int32)), lv d', sd, iv cap, iv r0', iv r1', iv r2', iv r3', rv b8, iv (if m0 q0 = (-1 : Int32) then (1 : Int32) else (0 : Int32)), iv (if m15 b' = (-1 : Int32) then (1 : Int32) else (0 : Int32)), iv (if m20 c' = (-1 : Int32) then (1 : Int32) else (0 : Int32)), iv (if m25 q0 = (-1 : Int32) then (1 : Int32) else (0 : Int32)), iv eB, iv eC, iv r0', iv rB, iv rC, iv rD, iv (1 : Int32), iv (1 : Int32)] [(.int (1 : Int32))]))
    obtain ⟨fs, hr, hrun, hended, hW, hsame⟩ := X43.leave (v := some (.int (1 : Int32))) (fun h => by rw [Bd.returns] at h; cases h)
    refine ⟨_, _, retN X43 hx (t := .boolean) Bd.returns (by simp) (hb hby at_415) hr, hrun, hended, hG _ _ _ ?_ ⟨⟨_, rfl⟩, hW, hsame.mono (by decide) (by decide)⟩⟩
    show Q0 Z q0 q1 q2 q3 p4 p5 h0 n0 _ T43.heap _
    rw [e43]
    exact ⟨rfl, N43⟩
  · show Go p.tables e below G (s₁.setTop (mkF m 101 #[lv q0, sd, lv q1, sd, lv q2, sd, lv q3, sd, iv p4, iv p5, lv b', sd, iv (((p5.toUInt32 >>> ((1 : Int32) &&& 31).toUInt32).toInt32) &&& (3 : Int32)), lv c', sd, iv (((p5.toUInt32 >>> ((3 : Int32) &&& 31).toUInt32).toInt32) &&& (3 : Int32)), lv d', sd, iv cap, un, un, un, un, un, un, un, un, un, un, un, un, un, un, un, un, un] []))
    refine Go.stp (fun t_ k_ => XS.iload X0.here hx rfl (hb hby at_101) rfl k_) ?_
    show Go p.tables e below G (s₁.setTop (mkF m 103 #[lv q0, sd, lv q1, sd, lv q2, sd, lv q3, sd, iv p4, iv p5, lv b', sd, iv (((p5.toUInt32 >>> ((1 : Int32) &&& 31).toUInt32).toInt32) &&& (3 : Int32)), lv c', sd, iv (((p5.toUInt32 >>> ((3 : Int32) &&& 31).toUInt32).toInt32) &&& (3 : Int32)), lv d', sd, iv cap, un, un, un, un, un, un, un, un, un, un, un, un, un, un, un, un, un] [(.int p4)]))
    refine Go.stp (fun t_ k_ => X0.ldcInt hx hown (mvT hZ (hw _ (List.mem_of_getElem? (i := 0) rfl))) (g := (mkF m 103 #[lv q0, sd, lv q1, sd, lv q2, sd, lv q3, sd, iv p4, iv p5, lv b', sd, iv (((p5.toUInt32 >>> ((1 : Int32) &&& 31).toUInt32).toInt32) &&& (3 : Int32)), lv c', sd, iv (((p5.toUInt32 >>> ((3 : Int32) &&& 31).toUInt32).toInt32) &&& (3 : Int32)), lv d', sd, iv cap, un, un, un, un, un, un, un, un, un, un, un, un, un, un, un, un, un] [(.int p4)])) rfl (hb hby at_103) t_ k_) ?_
    show Go p.tables e below G (s₁.setTop (mkF m 105 #[lv q0, sd, lv q1, sd, lv q2, sd, lv q3, sd, iv p4, iv p5, lv b', sd, iv (((p5.toUInt32 >>> ((1 : Int32) &&& 31).toUInt32).toInt32) &&& (3 : Int32)), lv c', sd, iv (((p5.toUInt32 >>> ((3 : Int32) &&& 31).toUInt32).toInt32) &&& (3 : Int32)), lv d', sd, iv cap, un, un, un, un, un, un, un, un, un, un, un, un, un, un, un, un, un] [(.int (2147483647 : Int32)), (.int p4)]))
    refine Go.stp (fun t_ k_ => XS.iand X0.here hx rfl (hb hby at_105) rfl k_) ?_
    show Go p.tables e below G (s₁.setTop (mkF m 106 #[lv q0, sd, lv q1, sd, lv q2, sd, lv q3, sd, iv p4, iv p5, lv b', sd, iv (((p5.toUInt32 >>> ((1 : Int32) &&& 31).toUInt32).toInt32) &&& (3 : Int32)), lv c', sd, iv (((p5.toUInt32 >>> ((3 : Int32) &&& 31).toUInt32).toInt32) &&& (3 : Int32)), lv d', sd, iv cap, un, un, un, un, un, un, un, un, un, un, un, un, un, un, un, un, un] [(.int (p4 &&& (2147483647 : Int32)))]))
    refine Go.stp (fun t_ k_ => XS.istore X0.here hx rfl (hb hby at_106) rfl (l' := #[lv q0, sd, lv q1, sd, lv q2, sd, lv q3, sd, iv p4, iv p5, lv b', sd, iv (((p5.toUInt32 >>> ((1 : Int32) &&& 31).toUInt32).toInt32) &&& (3 : Int32)), lv c', sd, iv (((p5.toUInt32 >>> ((3 : Int32) &&& 31).toUInt32).toInt32) &&& (3 : Int32)), lv d', sd, iv cap, iv (p4 &&& (2147483647 : Int32)), un, un, un, un, un, un, un, un, un, un, un, un, un, un, un, un]) rfl k_) ?_
    show Go p.tables e below G (s₁.setTop (mkF m 108 #[lv q0, sd, lv q1, sd, lv q2, sd, lv q3, sd, iv p4, iv p5, lv b', sd, iv (((p5.toUInt32 >>> ((1 : Int32) &&& 31).toUInt32).toInt32) &&& (3 : Int32)), lv c', sd, iv (((p5.toUInt32 >>> ((3 : Int32) &&& 31).toUInt32).toInt32) &&& (3 : Int32)), lv d', sd, iv cap, iv (p4 &&& (2147483647 : Int32)), un, un, un, un, un, un, un, un, un, un, un, un, un, un, un, un] []))
    suffices K44 : ∀ r0' : Int32, r0' = (p4 &&& (2147483647 : Int32)) → Go p.tables e below G (s₁.setTop (mkF m 108 #[lv q0, sd, lv q1, sd, lv q2, sd, lv q3, sd, iv p4, iv p5, lv b', sd, iv (((p5.toUInt32 >>> ((1 : Int32) &&& 31).toUInt32).toInt32) &&& (3 : Int32)), lv c', sd, iv (((p5.toUInt32 >>> ((3 : Int32) &&& 31).toUInt32).toInt32) &&& (3 : Int32)), lv d', sd, iv cap, iv r0', un, un, un, un, un, un, un, un, un, un, un, un, un, un, un, un] [])) from K44 _ rfl
    intro r0' hr0
    refine Go.stp (fun t_ k_ => XS.iload X0.here hx rfl (hb hby at_108) rfl k_) ?_
    show Go p.tables e below G (s₁.setTop (mkF m 110 #[lv q0, sd, lv q1, sd, lv q2, sd, lv q3, sd, iv p4, iv p5, lv b', sd, iv (((p5.toUInt32 >>> ((1 : Int32) &&& 31).toUInt32).toInt32) &&& (3 : Int32)), lv c', sd, iv (((p5.toUInt32 >>> ((3 : Int32) &&& 31).toUInt32).toInt32) &&& (3 : Int32)), lv d', sd, iv cap, iv r0', un, un, un, un, un, un, un, un, un, un, un, un, un, un, un, un] [(.int r0')]))
    refine Go.stp (fun t_ k_ => XS.iconst X0.here hx rfl (hb hby at_110) k_) ?_
    show Go p.tables e below G (s₁.setTop (mkF m 111 #[lv q0, sd, lv q1, sd, lv q2, sd, lv q3, sd, iv p4, iv p5, lv b', sd, iv (((p5.toUInt32 >>> ((1 : Int32) &&& 31).toUInt32).toInt32) &&& (3 : Int32)), lv c', sd, iv (((p5.toUInt32 >>> ((3 : Int32) &&& 31).toUInt32).toInt32) &&& (3 : Int32)), lv d', sd, iv cap, iv r0', un, un, un, un, un, un, un, un, un, un, un, un, un, un, un, un] [(.int (1 : Int32)), (.int r0')]))
    refine Go.stp (fun t_ k_ => XS.iadd X0.here hx rfl (hb hby at_111) rfl k_) ?_
    show Go p.tables e below G (s₁.setTop (mkF m 112 #[lv q0, sd, lv q1, sd, lv q2, sd, lv q3, sd, iv p4, iv p5, lv b', sd, iv (((p5.toUInt32 >>> ((1 : Int32) &&& 31).toUInt32).toInt32) &&& (3 : Int32)), lv c', sd, iv (((p5.toUInt32 >>> ((3 : Int32) &&& 31).toUInt32).toInt32) &&& (3 : Int32)), lv d', sd, iv cap, iv r0', un, un, un, un, un, un, un, un, un, un, un, un, un, un, un, un] [(.int (r0' + (1 : Int32)))]))
    refine Go.stp (fun t_ k_ => X0.ldcInt hx hown (mvT hZ (hw _ (List.mem_of_getElem? (i := 0) rfl))) (g := (mkF m 112 #[lv q0, sd, lv q1, sd, lv q2, sd, lv q3, sd, iv p4, iv p5, lv b', sd, iv (((p5.toUInt32 >>> ((1 : Int32) &&& 31).toUInt32).toInt32) &&& (3 : Int32)), lv c', sd, iv (((p5.toUInt32 >>> ((3 : Int32) &&& 31).toUInt32).toInt32) &&& (3 : Int32)), lv d', sd, iv cap, iv r0', un, un, un, un, un, un, un, un, un, un, un, un, un, un, un, un] [(.int (r0' + (1 : Int32)))])) rfl (hb hby at_112) t_ k_) ?_
    show Go p.tables e below G (s₁.setTop (mkF m 114 #[lv q0, sd, lv q1, sd, lv q2, sd, lv q3, sd, iv p4, iv p5, lv b', sd, iv (((p5.toUInt32 >>> ((1 : Int32) &&& 31).toUInt32).toInt32) &&& (3 : Int32)), lv c', sd, iv (((p5.toUInt32 >>> ((3 : Int32) &&& 31).toUInt32).toInt32) &&& (3 : Int32)), lv d', sd, iv cap, iv r0', un, un, un, un, un, un, un, un, un, un, un, un, un, un, un, un] [(.int (2147483647 : Int32)), (.int (r0' + (1 : Int32)))]))
    refine Go.stp (fun t_ k_ => XS.iand X0.here hx rfl (hb hby at_114) rfl k_) ?_
    show Go p.tables e below G (s₁.setTop (mkF m 115 #[lv q0, sd, lv q1, sd, lv q2, sd, lv q3, sd, iv p4, iv p5, lv b', sd, iv (((p5.toUInt32 >>> ((1 : Int32) &&& 31).toUInt32).toInt32) &&& (3 : Int32)), lv c', sd, iv (((p5.toUInt32 >>> ((3 : Int32) &&& 31).toUInt32).toInt32) &&& (3 : Int32)), lv d', sd, iv cap, iv r0', un, un, un, un, un, un, un, un, un, un, un, un, un, un, un, un] [(.int ((r0' + (1 : Int32)) &&& (2147483647 : Int32)))]))
    refine Go.stp (fun t_ k_ => XS.istore X0.here hx rfl (hb hby at_115) rfl (l' := #[lv q0, sd, lv q1, sd, lv q2, sd, lv q3, sd, iv p4, iv p5, lv b', sd, iv (((p5.toUInt32 >>> ((1 : Int32) &&& 31).toUInt32).toInt32) &&& (3 : Int32)), lv c', sd, iv (((p5.toUInt32 >>> ((3 : Int32) &&& 31).toUInt32).toInt32) &&& (3 : Int32)), lv d', sd, iv cap, iv r0', iv ((r0' + (1 : Int32)) &&& (2147483647 : Int32)), un, un, un, un, un, un, un, un, un, un, un, un, un, un, un]) rfl k_) ?_
    show Go p.tables e below G (s₁.setTop (mkF m 117 #[lv q0, sd, lv q1, sd, lv q2, sd, lv q3, sd, iv p4, iv p5, lv b', sd, iv (((p5.toUInt32 >>> ((1 : Int32) &&& 31).toUInt32).toInt32) &&& (3 : Int32)), lv c', sd, iv (((p5.toUInt32 >>> ((3 : Int32) &&& 31).toUInt32).toInt32) &&& (3 : Int32)), lv d', sd, iv cap, iv r0', iv ((r0' + (1 : Int32)) &&& (2147483647 : Int32)), un, un, un, un, un, un, un, un, un, un, un, un, un, un, un] []))
    suffices K45 : ∀ r1' : Int32, r1' = ((r0' + (1 : Int32)) &&& (2147483647 : Int32)) → Go p.tables e below G (s₁.setTop (mkF m 117 #[lv q0, sd, lv q1, sd, lv q2, sd, lv q3, sd, iv p4, iv p5, lv b', sd, iv (((p5.toUInt32 >>> ((1 : Int32) &&& 31).toUInt32).toInt32) &&& (3 : Int32)), lv c', sd, iv (((p5.toUInt32 >>> ((3 : Int32) &&& 31).toUInt32).toInt32) &&& (3 : Int32)), lv d', sd, iv cap, iv r0', iv r1', un, un, un, un, un, un, un, un, un, un, un, un, un, un, un] [])) from K45 _ rfl
    intro r1' hr1
    refine Go.stp (fun t_ k_ => XS.iload X0.here hx rfl (hb hby at_117) rfl k_) ?_
    show Go p.tables e below G (s₁.setTop (mkF m 119 #[lv q0, sd, lv q1, sd, lv q2, sd, lv q3, sd, iv p4, iv p5, lv b', sd, iv (((p5.toUInt32 >>> ((1 : Int32) &&& 31).toUInt32).toInt32) &&& (3 : Int32)), lv c', sd, iv (((p5.toUInt32 >>> ((3 : Int32) &&& 31).toUInt32).toInt32) &&& (3 : Int32)), lv d', sd, iv cap, iv r0', iv r1', un, un, un, un, un, un, un, un, un, un, un, un, un, un, un] [(.int r0')]))
    refine Go.stp (fun t_ k_ => XS.iconst X0.here hx rfl (hb hby at_119) k_) ?_
    show Go p.tables e below G (s₁.setTop (mkF m 120 #[lv q0, sd, lv q1, sd, lv q2, sd, lv q3, sd, iv p4, iv p5, lv b', sd, iv (((p5.toUInt32 >>> ((1 : Int32) &&& 31).toUInt32).toInt32) &&& (3 : Int32)), lv c', sd, iv (((p5.toUInt32 >>> ((3 : Int32) &&& 31).toUInt32).toInt32) &&& (3 : Int32)), lv d', sd, iv cap, iv r0', iv r1', un, un, un, un, un, un, un, un, un, un, un, un, un, un, un] [(.int (2 : Int32)), (.int r0')]))
    refine Go.stp (fun t_ k_ => XS.iadd X0.here hx rfl (hb hby at_120) rfl k_) ?_
    show Go p.tables e below G (s₁.setTop (mkF m 121 #[lv q0, sd, lv q1, sd, lv q2, sd, lv q3, sd, iv p4, iv p5, lv b', sd, iv (((p5.toUInt32 >>> ((1 : Int32) &&& 31).toUInt32).toInt32) &&& (3 : Int32)), lv c', sd, iv (((p5.toUInt32 >>> ((3 : Int32) &&& 31).toUInt32).toInt32) &&& (3 : Int32)), lv d', sd, iv cap, iv r0', iv r1', un, un, un, un, un, un, un, un, un, un, un, un, un, un, un] [(.int (r0' + (2 : Int32)))]))
    refine Go.stp (fun t_ k_ => X0.ldcInt hx hown (mvT hZ (hw _ (List.mem_of_getElem? (i := 0) rfl))) (g := (mkF m 121 #[lv q0, sd, lv q1, sd, lv q2, sd, lv q3, sd, iv p4, iv p5, lv b', sd, iv (((p5.toUInt32 >>> ((1 : Int32) &&& 31).toUInt32).toInt32) &&& (3 : Int32)), lv c', sd, iv (((p5.toUInt32 >>> ((3 : Int32) &&& 31).toUInt32).toInt32) &&& (3 : Int32)), lv d', sd, iv cap, iv r0', iv r1', un, un, un, un, un, un, un, un, un, un, un, un, un, un, un] [(.int (r0' + (2 : Int32)))])) rfl (hb hby at_121) t_ k_) ?_
    show Go p.tables e below G (s₁.setTop (mkF m 123 #[lv q0, sd, lv q1, sd, lv q2, sd, lv q3, sd, iv p4, iv p5, lv b', sd, iv (((p5.toUInt32 >>> ((1 : Int32) &&& 31).toUInt32).toInt32) &&& (3 : Int32)), lv c', sd, iv (((p5.toUInt32 >>> ((3 : Int32) &&& 31).toUInt32).toInt32) &&& (3 : Int32)), lv d', sd, iv cap, iv r0', iv r1', un, un, un, un, un, un, un, un, un, un, un, un, un, un, un] [(.int (2147483647 : Int32)), (.int (r0' + (2 : Int32)))]))
    refine Go.stp (fun t_ k_ => XS.iand X0.here hx rfl (hb hby at_123) rfl k_) ?_
    show Go p.tables e below G (s₁.setTop (mkF m 124 #[lv q0, sd, lv q1, sd, lv q2, sd, lv q3, sd, iv p4, iv p5, lv b', sd, iv (((p5.toUInt32 >>> ((1 : Int32) &&& 31).toUInt32).toInt32) &&& (3 : Int32)), lv c', sd, iv (((p5.toUInt32 >>> ((3 : Int32) &&& 31).toUInt32).toInt32) &&& (3 : Int32)), lv d', sd, iv cap, iv r0', iv r1', un, un, un, un, un, un, un, un, un, un, un, un, un, un, un] [(.int ((r0' + (2 : Int32)) &&& (2147483647 : Int32)))]))
    refine Go.stp (fun t_ k_ => XS.istore X0.here hx rfl (hb hby at_124) rfl (l' := #[lv q0, sd, lv q1, sd, lv q2, sd, lv q3, sd, iv p4, iv p5, lv b', sd, iv (((p5.toUInt32 >>> ((1 : Int32) &&& 31).toUInt32).toInt32) &&& (3 : Int32)), lv c', sd, iv (((p5.toUInt32 >>> ((3 : Int32) &&& 31).toUInt32).toInt32) &&& (3 : Int32)), lv d', sd, iv cap, iv r0', iv r1', iv ((r0' + (2 : Int32)) &&& (2147483647 : Int32)), un, un, un, un, un, un, un, un, un, un, un, un, un, un]) rfl k_) ?_
    show Go p.tables e below G (s₁.setTop (mkF m 126 #[lv q0, sd, lv q1, sd, lv q2, sd, lv q3, sd, iv p4, iv p5, lv b', sd, iv (((p5.toUInt32 >>> ((1 : Int32) &&& 31).toUInt32).toInt32) &&& (3 : Int32)), lv c', sd, iv (((p5.toUInt32 >>> ((3 : Int32) &&& 31).toUInt32).toInt32) &&& (3 : Int32)), lv d', sd, iv cap, iv r0', iv r1', iv ((r0' + (2 : Int32)) &&& (2147483647 : Int32)), un, un, un, un, un, un, un, un, un, un, un, un, un, un] []))
    suffices K46 : ∀ r2' : Int32, r2' = ((r0' + (2 : Int32)) &&& (2147483647 : Int32)) → Go p.tables e below G (s₁.setTop (mkF m 126 #[lv q0, sd, lv q1, sd, lv q2, sd, lv q3, sd, iv p4, iv p5, lv b', sd, iv (((p5.toUInt32 >>> ((1 : Int32) &&& 31).toUInt32).toInt32) &&& (3 : Int32)), lv c', sd, iv (((p5.toUInt32 >>> ((3 : Int32) &&& 31).toUInt32).toInt32) &&& (3 : Int32)), lv d', sd, iv cap, iv r0', iv r1', iv r2', un, un, un, un, un, un, un, un, un, un, un, un, un, un] [])) from K46 _ rfl
    intro r2' hr2
    refine Go.stp (fun t_ k_ => XS.iload X0.here hx rfl (hb hby at_126) rfl k_) ?_
    show Go p.tables e below G (s₁.setTop (mkF m 128 #[lv q0, sd, lv q1, sd, lv q2, sd, lv q3, sd, iv p4, iv p5, lv b', sd, iv (((p5.toUInt32 >>> ((1 : Int32) &&& 31).toUInt32).toInt32) &&& (3 : Int32)), lv c', sd, iv (((p5.toUInt32 >>> ((3 : Int32) &&& 31).toUInt32).toInt32) &&& (3 : Int32)), lv d', sd, iv cap, iv r0', iv r1', iv r2', un, un, un, un, un, un, un, un, un, un, un, un, un, un] [(.int r0')]))
    refine Go.stp (fun t_ k_ => XS.iconst X0.here hx rfl (hb hby at_128) k_) ?_
    show Go p.tables e below G (s₁.setTop (mkF m 129 #[lv q0, sd, lv q1, sd, lv q2, sd, lv q3, sd, iv p4, iv p5, lv b', sd, iv (((p5.toUInt32 >>> ((1 : Int32) &&& 31).toUInt32).toInt32) &&& (3 : Int32)), lv c', sd, iv (((p5.toUInt32 >>> ((3 : Int32) &&& 31).toUInt32).toInt32) &&& (3 : Int32)), lv d', sd, iv cap, iv r0', iv r1', iv r2', un, un, un, un, un, un, un, un, un, un, un, un, un, un] [(.int (3 : Int32)), (.int r0')]))
    refine Go.stp (fun t_ k_ => XS.iadd X0.here hx rfl (hb hby at_129) rfl k_) ?_
    show Go p.tables e below G (s₁.setTop (mkF m 130 #[lv q0, sd, lv q1, sd, lv q2, sd, lv q3, sd, iv p4, iv p5, lv b', sd, iv (((p5.toUInt32 >>> ((1 : Int32) &&& 31).toUInt32).toInt32) &&& (3 : Int32)), lv c', sd, iv (((p5.toUInt32 >>> ((3 : Int32) &&& 31).toUInt32).toInt32) &&& (3 : Int32)), lv d', sd, iv cap, iv r0', iv r1', iv r2', un, un, un, un, un, un, un, un, un, un, un, un, un, un] [(.int (r0' + (3 : Int32)))]))
    refine Go.stp (fun t_ k_ => X0.ldcInt hx hown (mvT hZ (hw _ (List.mem_of_getElem? (i := 0) rfl))) (g := (mkF m 130 #[lv q0, sd, lv q1, sd, lv q2, sd, lv q3, sd, iv p4, iv p5, lv b', sd, iv (((p5.toUInt32 >>> ((1 : Int32) &&& 31).toUInt32).toInt32) &&& (3 : Int32)), lv c', sd, iv (((p5.toUInt32 >>> ((3 : Int32) &&& 31).toUInt32).toInt32) &&& (3 : Int32)), lv d', sd, iv cap, iv r0', iv r1', iv r2', un, un, un, un, un, un, un, un, un, un, un, un, un, un] [(.int (r0' + (3 : Int32)))])) rfl (hb hby at_130) t_ k_) ?_
    show Go p.tables e below G (s₁.setTop (mkF m 132 #[lv q0, sd, lv q1, sd, lv q2, sd, lv q3, sd, iv p4, iv p5, lv b', sd, iv (((p5.toUInt32 >>> ((1 : Int32) &&& 31).toUInt32).toInt32) &&& (3 : Int32)), lv c', sd, iv (((p5.toUInt32 >>> ((3 : Int32) &&& 31).toUInt32).toInt32) &&& (3 : Int32)), lv d', sd, iv cap, iv r0', iv r1', iv r2', un, un, un, un, un, un, un, un, un, un, un, un, un, un] [(.int (2147483647 : Int32)), (.int (r0' + (3 : Int32)))]))
    refine Go.stp (fun t_ k_ => XS.iand X0.here hx rfl (hb hby at_132) rfl k_) ?_
    show Go p.tables e below G (s₁.setTop (mkF m 133 #[lv q0, sd, lv q1, sd, lv q2, sd, lv q3, sd, iv p4, iv p5, lv b', sd, iv (((p5.toUInt32 >>> ((1 : Int32) &&& 31).toUInt32).toInt32) &&& (3 : Int32)), lv c', sd, iv (((p5.toUInt32 >>> ((3 : Int32) &&& 31).toUInt32).toInt32) &&& (3 : Int32)), lv d', sd, iv cap, iv r0', iv r1', iv r2', un, un, un, un, un, un, un, un, un, un, un, un, un, un] [(.int ((r0' + (3 : Int32)) &&& (2147483647 : Int32)))]))
    refine Go.stp (fun t_ k_ => XS.istore X0.here hx rfl (hb hby at_133) rfl (l' := #[lv q0, sd, lv q1, sd, lv q2, sd, lv q3, sd, iv p4, iv p5, lv b', sd, iv (((p5.toUInt32 >>> ((1 : Int32) &&& 31).toUInt32).toInt32) &&& (3 : Int32)), lv c', sd, iv (((p5.toUInt32 >>> ((3 : Int32) &&& 31).toUInt32).toInt32) &&& (3 : Int32)), lv d', sd, iv cap, iv r0', iv r1', iv r2', iv ((r0' + (3 : Int32)) &&& (2147483647 : Int32)), un, un, un, un, un, un, un, un, un, un, un, un, un]) rfl k_) ?_
    show Go p.tables e below G (s₁.setTop (mkF m 135 #[lv q0, sd, lv q1, sd, lv q2, sd, lv q3, sd, iv p4, iv p5, lv b', sd, iv (((p5.toUInt32 >>> ((1 : Int32) &&& 31).toUInt32).toInt32) &&& (3 : Int32)), lv c', sd, iv (((p5.toUInt32 >>> ((3 : Int32) &&& 31).toUInt32).toInt32) &&& (3 : Int32)), lv d', sd, iv cap, iv r0', iv r1', iv r2', iv ((r0' + (3 : Int32)) &&& (2147483647 : Int32)), un, un, un, un, un, un, un, un, un, un, un, un, un] []))
    suffices K47 : ∀ r3' : Int32, r3' = ((r0' + (3 : Int32)) &&& (2147483647 : Int32)) → Go p.tables e below G (s₁.setTop (mkF m 135 #[lv q0, sd, lv q1, sd, lv q2, sd, lv q3, sd, iv p4, iv p5, lv b', sd, iv (((p5.toUInt32 >>> ((1 : Int32) &&& 31).toUInt32).toInt32) &&& (3 : Int32)), lv c', sd, iv (((p5.toUInt32 >>> ((3 : Int32) &&& 31).toUInt32).toInt32) &&& (3 : Int32)), lv d', sd, iv cap, iv r0', iv r1', iv r2', iv r3', un, un, un, un, un, un, un, un, un, un, un, un, un] [])) from K47 _ rfl
    intro r3' hr3
    have k0 : r0' ≠ (-1 : Int32) := by rw [hr0]; exact own_row _
    have k1 : r1' ≠ (-1 : Int32) := by rw [hr1]; exact own_row _
    have k2 : r2' ≠ (-1 : Int32) := by rw [hr2]; exact own_row _
    have k3 : r3' ≠ (-1 : Int32) := by rw [hr3]; exact own_row _
    obtain ⟨T48, h48, X48, e48, E48, A48, D48, -, st48⟩ := newO X0 hx hZ hown (hw _ (List.mem_of_getElem? (i := 1) rfl)) (hw _ (List.mem_of_getElem? (i := 2) rfl)) (hw _ (List.mem_of_getElem? (i := 3) rfl)) e0 (g := (mkF m 135 #[lv q0, sd, lv q1, sd, lv q2, sd, lv q3, sd, iv p4, iv p5, lv b', sd, iv (((p5.toUInt32 >>> ((1 : Int32) &&& 31).toUInt32).toInt32) &&& (3 : Int32)), lv c', sd, iv (((p5.toUInt32 >>> ((3 : Int32) &&& 31).toUInt32).toInt32) &&& (3 : Int32)), lv d', sd, iv cap, iv r0', iv r1', iv r2', iv r3', un, un, un, un, un, un, un, un, un, un, un, un, un] [])) rfl (hb hby at_135) (by decide) (by decide)
    obtain ⟨b48, g48⟩ : ∃ z, z = h0.size := ⟨_, rfl⟩
    rw [← g48] at A48 D48 st48
    have g_b48 : n0 ≤ b48 := Nat.le_trans Z0 (Nat.le_of_eq g48.symm)
    have Z48 : n0 ≤ h48.size := Nat.le_trans Z0 E48.1
    have f49 : Fld Z h48 b48 "com/example/chatterbench/chatterbench/data/IdIndex" "entity" "Lcom/example/chatterbench/chatterbench/data/Entity;" .null := D48 (Or.inr (hw _ (List.mem_of_getElem? (i := 11) rfl))) (ty := (.object "com/example/chatterbench/chatterbench/data/Entity")) (by decide)
    have f50 : Fld Z h48 b48 "com/example/chatterbench/chatterbench/data/IdIndex" "ids" "[J" .null := D48 (Or.inr (hw _ (List.mem_of_getElem? (i := 23) rfl))) (ty := (.array .long)) (by decide)
    have f51 : Fld Z h48 b48 "com/example/chatterbench/chatterbench/data/IdIndex" "rows" "[I" .null := D48 (Or.inr (hw _ (List.mem_of_getElem? (i := 26) rfl))) (ty := (.array .int)) (by decide)
    have f52 : Fld Z h48 b48 "com/example/chatterbench/chatterbench/data/IdIndex" "shift" "I" (.int (0 : Int32)) := D48 (Or.inr (hw _ (List.mem_of_getElem? (i := 32) rfl))) (ty := .int) (by decide)
    refine Go.stp (fun t_ k_ => st48 t_ k_) ?_
    show Go p.tables e below G (T48.setTop (mkF m 138 #[lv q0, sd, lv q1, sd, lv q2, sd, lv q3, sd, iv p4, iv p5, lv b', sd, iv (((p5.toUInt32 >>> ((1 : Int32) &&& 31).toUInt32).toInt32) &&& (3 : Int32)), lv c', sd, iv (((p5.toUInt32 >>> ((3 : Int32) &&& 31).toUInt32).toInt32) &&& (3 : Int32)), lv d', sd, iv cap, iv r0', iv r1', iv r2', iv r3', un, un, un, un, un, un, un, un, un, un, un, un, un] [(.ref b48)]))
    refine Go.stp (fun t_ k_ => XS.dup X48.here hx rfl (hb hby at_138) rfl rfl k_) ?_
    show Go p.tables e below G (T48.setTop (mkF m 139 #[lv q0, sd, lv q1, sd, lv q2, sd, lv q3, sd, iv p4, iv p5, lv b', sd, iv (((p5.toUInt32 >>> ((1 : Int32) &&& 31).toUInt32).toInt32) &&& (3 : Int32)), lv c', sd, iv (((p5.toUInt32 >>> ((3 : Int32) &&& 31).toUInt32).toInt32) &&& (3 : Int32)), lv d', sd, iv cap, iv r0', iv r1', iv r2', iv r3', un, un, un, un, un, un, un, un, un, un, un, un, un] [(.ref b48), (.ref b48)]))
    refine Go.stp (fun t_ k_ => XS.aconstNull X48.here hx rfl (hb hby at_139) k_) ?_
    show Go p.tables e below G (T48.setTop (mkF m 140 #[lv q0, sd, lv q1, sd, lv q2, sd, lv q3, sd, iv p4, iv p5, lv b', sd, iv (((p5.toUInt32 >>> ((1 : Int32) &&& 31).toUInt32).toInt32) &&& (3 : Int32)), lv c', sd, iv (((p5.toUInt32 >>> ((3 : Int32) &&& 31).toUInt32).toInt32) &&& (3 : Int32)), lv d', sd, iv cap, iv r0', iv r1', iv r2', iv r3', un, un, un, un, un, un, un, un, un, un, un, un, un] [.null, (.ref b48), (.ref b48)]))
    refine Go.stp (fun t_ k_ => XS.iload X48.here hx rfl (hb hby at_140) rfl k_) ?_
    show Go p.tables e below G (T48.setTop (mkF m 142 #[lv q0, sd, lv q1, sd, lv q2, sd, lv q3, sd, iv p4, iv p5, lv b', sd, iv (((p5.toUInt32 >>> ((1 : Int32) &&& 31).toUInt32).toInt32) &&& (3 : Int32)), lv c', sd, iv (((p5.toUInt32 >>> ((3 : Int32) &&& 31).toUInt32).toInt32) &&& (3 : Int32)), lv d', sd, iv cap, iv r0', iv r1', iv r2', iv r3', un, un, un, un, un, un, un, un, un, un, un, un, un] [(.int cap), .null, (.ref b48), (.ref b48)]))
    obtain ⟨_, _, ⟨T53, L53, k53, n53⟩, -, X53, ⟨Lc53, hQ53, l53, y53, z53⟩, st53⟩ := X48.specialBack hx (y := (⟨"com/example/chatterbench/chatterbench/data/IdIndex", "<init>", "(Lcom/example/chatterbench/chatterbench/data/Entity;I)V"⟩ : MethodName)) rfl hown (mvT hZ (hw _ (List.mem_of_getElem? (i := 4) rfl))) (mvT hZ (hw _ (List.mem_of_getElem? (i := 5) rfl))) (mvT hZ (hw _ (List.mem_of_getElem? (i := 6) rfl))) (by decide) (backOf (W := 1) (rm1_N16 l Z a0 hw [] b48  cap h48 n0 Z48 A48 f49 f50 f51 f52 g_b48 hcap) hZ (hw _ (List.mem_of_getElem? (i := 6) rfl)) (hw _ (List.mem_of_getElem? (i := 3) rfl)) (by decide) (by decide)) (g := (mkF m 142 #[lv q0, sd, lv q1, sd, lv q2, sd, lv q3, sd, iv p4, iv p5, lv b', sd, iv (((p5.toUInt32 >>> ((1 : Int32) &&& 31).toUInt32).toInt32) &&& (3 : Int32)), lv c', sd, iv (((p5.toUInt32 >>> ((3 : Int32) &&& 31).toUInt32).toInt32) &&& (3 : Int32)), lv d', sd, iv cap, iv r0', iv r1', iv r2', iv r3', un, un, un, un, un, un, un, un, un, un, un, un, un] [(.int cap), .null, (.ref b48), (.ref b48)])) rfl (by rw [hml]; rfl) (Steps.refl _) (a := b48) (argsL := [.null, (.int cap)]) (rest := [(.ref b48)]) (lenOf pd_4 rfl) rfl (by show 2 * 0 + _ ≤ _; exact Nat.le_of_eq rfl) (hb hby at_142) (fun _ _ => ⟨rfl, e48, (by decide : 1 + 2 ≤ _), (by decide : 4 + 32 ≤ _)⟩)
    dsimp only [Pt.U, Pt.locs, Pt.cells, Pt.slots] at X53 l53 y53 z53 st53 hQ53
    subst l53 y53 z53
    obtain ⟨rfl, Nq53, Kc53, ra, ia, g_ra, g_ia, hri, hxr, hxi, Ex, Fr', Fi, Fs, Ira, Iia⟩ := hQ53
    have N53 := Fr.app N0 Nq53
    have f54 : Exa Z T53.heap b48 "com/example/chatterbench/chatterbench/data/IdIndex" := A48.keep Kc53
    have Z53 : n0 ≤ T53.heap.size := Nat.le_trans Z48 Kc53.1
    obtain ⟨m0, hm0⟩ : ∃ z : Int64 → Int32, z = (fun _ => (-1 : Int32)) := ⟨_, rfl⟩
    have rp0 : Rep 16 own_P16 (fun _ => (-1 : Int32)) (fun _ => (0 : Int64)) m0 [] := by rw [hm0]; exact rep_nil 16 own_P16 (fun _ => (0 : Int64)) (by decide)
    refine Go.stp (fun t_ k_ => st53.trans k_) ?_
    show Go p.tables e below G (T53.setTop (mkF m 145 #[lv q0, sd, lv q1, sd, lv q2, sd, lv q3, sd, iv p4, iv p5, lv b', sd, iv (((p5.toUInt32 >>> ((1 : Int32) &&& 31).toUInt32).toInt32) &&& (3 : Int32)), lv c', sd, iv (((p5.toUInt32 >>> ((3 : Int32) &&& 31).toUInt32).toInt32) &&& (3 : Int32)), lv d', sd, iv cap, iv r0', iv r1', iv r2', iv r3', un, un, un, un, un, un, un, un, un, un, un, un, un] [(.ref b48)]))
    refine Go.stp (fun t_ k_ => XS.astore X53.here hx rfl (hb hby at_145) rfl rfl (l' := #[lv q0, sd, lv q1, sd, lv q2, sd, lv q3, sd, iv p4, iv p5, lv b', sd, iv (((p5.toUInt32 >>> ((1 : Int32) &&& 31).toUInt32).toInt32) &&& (3 : Int32)), lv c', sd, iv (((p5.toUInt32 >>> ((3 : Int32) &&& 31).toUInt32).toInt32) &&& (3 : Int32)), lv d', sd, iv cap, iv r0', iv r1', iv r2', iv r3', rv b48, un, un, un, un, un, un, un, un, un, un, un, un]) rfl k_) ?_
    show Go p.tables e below G (T53.setTop (mkF m 147 #[lv q0, sd, lv q1, sd, lv q2, sd, lv q3, sd, iv p4, iv p5, lv b', sd, iv (((p5.toUInt32 >>> ((1 : Int32) &&& 31).toUInt32).toInt32) &&& (3 : Int32)), lv c', sd, iv (((p5.toUInt32 >>> ((3 : Int32) &&& 31).toUInt32).toInt32) &&& (3 : Int32)), lv d', sd, iv cap, iv r0', iv r1', iv r2', iv r3', rv b48, un, un, un, un, un, un, un, un, un, un, un, un] []))
    refine Go.stp (fun t_ k_ => XS.aload X53.here hx rfl (hb hby at_147) rfl rfl k_) ?_
    show Go p.tables e below G (T53.setTop (mkF m 149 #[lv q0, sd, lv q1, sd, lv q2, sd, lv q3, sd, iv p4, iv p5, lv b', sd, iv (((p5.toUInt32 >>> ((1 : Int32) &&& 31).toUInt32).toInt32) &&& (3 : Int32)), lv c', sd, iv (((p5.toUInt32 >>> ((3 : Int32) &&& 31).toUInt32).toInt32) &&& (3 : Int32)), lv d', sd, iv cap, iv r0', iv r1', iv r2', iv r3', rv b48, un, un, un, un, un, un, un, un, un, un, un, un] [(.ref b48)]))
    refine Go.stp (fun t_ k_ => XS.lloadN X53.here hx rfl (hb hby at_149) rfl k_) ?_
    show Go p.tables e below G (T53.setTop (mkF m 150 #[lv q0, sd, lv q1, sd, lv q2, sd, lv q3, sd, iv p4, iv p5, lv b', sd, iv (((p5.toUInt32 >>> ((1 : Int32) &&& 31).toUInt32).toInt32) &&& (3 : Int32)), lv c', sd, iv (((p5.toUInt32 >>> ((3 : Int32) &&& 31).toUInt32).toInt32) &&& (3 : Int32)), lv d', sd, iv cap, iv r0', iv r1', iv r2', iv r3', rv b48, un, un, un, un, un, un, un, un, un, un, un, un] [(.long q0), (.ref b48)]))
    refine Go.stp (fun t_ k_ => XS.iload X53.here hx rfl (hb hby at_150) rfl k_) ?_
    show Go p.tables e below G (T53.setTop (mkF m 152 #[lv q0, sd, lv q1, sd, lv q2, sd, lv q3, sd, iv p4, iv p5, lv b', sd, iv (((p5.toUInt32 >>> ((1 : Int32) &&& 31).toUInt32).toInt32) &&& (3 : Int32)), lv c', sd, iv (((p5.toUInt32 >>> ((3 : Int32) &&& 31).toUInt32).toInt32) &&& (3 : Int32)), lv d', sd, iv cap, iv r0', iv r1', iv r2', iv r3', rv b48, un, un, un, un, un, un, un, un, un, un, un, un] [(.int r0'), (.long q0), (.ref b48)]))
    obtain ⟨cq55, kq55, q55a, q55b, q55c⟩ := isOf hZ rfl Ex
    obtain ⟨_, _, ⟨T55, L55, k55, n55⟩, -, X55, ⟨Lc55, hQ55, l55, y55, z55⟩, st55⟩ := X53.virtualBack hx (y := (⟨"com/example/chatterbench/chatterbench/data/IdIndex", "add", "(JI)Z"⟩ : MethodName)) (z := (⟨"com/example/chatterbench/chatterbench/data/IdIndex", "add", "(JI)Z"⟩ : MethodName)) hown (mvT hZ (hw _ (List.mem_of_getElem? (i := 33) rfl))) (mvT hZ (hw _ (List.mem_of_getElem? (i := 34) rfl))) (notFace_of_selects (args := #[]) (mvT hZ (hw _ (List.mem_of_getElem? (i := 36) rfl)))) (mvT hZ (hw _ (List.mem_of_getElem? (i := 36) rfl))) (mvT hZ (hw _ (List.mem_of_getElem? (i := 35) rfl))) (by decide) (backOf (W := 0) (rm6_16 l Z a0 hw [] b48 q0 r0' ra ia (fun _ => (-1 : Int32)) (fun _ => (0 : Int64)) m0 [] T53.heap n0 Z53 Fr' Fi Ira Iia Fs Ex g_ra g_ia hri hxr hxi rp0 (by decide) k0) hZ (hw _ (List.mem_of_getElem? (i := 37) rfl)) (hw _ (List.mem_of_getElem? (i := 3) rfl)) (by decide) (by decide)) q55a q55c (g := (mkF m 152 #[lv q0, sd, lv q1, sd, lv q2, sd, lv q3, sd, iv p4, iv p5, lv b', sd, iv (((p5.toUInt32 >>> ((1 : Int32) &&& 31).toUInt32).toInt32) &&& (3 : Int32)), lv c', sd, iv (((p5.toUInt32 >>> ((3 : Int32) &&& 31).toUInt32).toInt32) &&& (3 : Int32)), lv d', sd, iv cap, iv r0', iv r1', iv r2', iv r3', rv b48, un, un, un, un, un, un, un, un, un, un, un, un] [(.int r0'), (.long q0), (.ref b48)])) rfl (by rw [hml]; rfl) (Steps.refl _) (argsL := [(.long q0), (.int r0')]) (rest := []) (lenOf pd_5 rfl) rfl (by show 2 * 0 + _ ≤ _; exact Nat.le_of_eq rfl) (hb hby at_152) (fun _ _ => ⟨rfl, rfl, (by decide : 3 + 0 ≤ _), (by decide : 36 + 0 ≤ _)⟩)
    dsimp only [Pt.U, Pt.locs, Pt.cells, Pt.slots] at X55 l55 y55 z55 st55 hQ55
    subst l55 y55 z55
    obtain ⟨rfl, Nq55, Kc55, R55, I55, F55, Ja55, Jb55, rp55, hl55⟩ := hQ55
    have N55 := Fr.app N53 Nq55
    have f56 : Exa Z T55.heap b48 "com/example/chatterbench/chatterbench/data/IdIndex" := Ex.keep Kc55
    have f57 : Fld Z T55.heap b48 "com/example/chatterbench/chatterbench/data/IdIndex" "rows" "[I" (.ref ra) := Fr'.keep Kc55 (fun q => by simp only [List.mem_cons, List.not_mem_nil, or_false] at q; exact q.elim (fun q => hxr q) (fun q => hxi q))
    have f58 : Fld Z T55.heap b48 "com/example/chatterbench/chatterbench/data/IdIndex" "ids" "[J" (.ref ia) := Fi.keep Kc55 (fun q => by simp only [List.mem_cons, List.not_mem_nil, or_false] at q; exact q.elim (fun q => hxr q) (fun q => hxi q))
    have f59 : Fld Z T55.heap b48 "com/example/chatterbench/chatterbench/data/IdIndex" "shift" "I" (.int (60 : Int32)) := Fs.keep Kc55 (fun q => by simp only [List.mem_cons, List.not_mem_nil, or_false] at q; exact q.elim (fun q => hxr q) (fun q => hxi q))
    have Z55 : n0 ≤ T55.heap.size := Nat.le_trans Z53 Kc55.1
    obtain ⟨m55, hm55⟩ : ∃ z, z = (if m0 q0 = (-1 : Int32) then updm m0 q0 r0' else m0) := ⟨_, rfl⟩
    rw [← hm55] at rp55
    simp only [List.length_nil] at hl55
    have hF55 : F55.length + 1 < 16 := by omega
    refine Go.stp (fun t_ k_ => st55.trans k_) ?_
    show Go p.tables e below G (T55.setTop (mkF m 155 #[lv q0, sd, lv q1, sd, lv q2, sd, lv q3, sd, iv p4, iv p5, lv b', sd, iv (((p5.toUInt32 >>> ((1 : Int32) &&& 31).toUInt32).toInt32) &&& (3 : Int32)), lv c', sd, iv (((p5.toUInt32 >>> ((3 : Int32) &&& 31).toUInt32).toInt32) &&& (3 : Int32)), lv d', sd, iv cap, iv r0', iv r1', iv r2', iv r3', rv b48, un, un, un, un, un, un, un, un, un, un, un, un] [(.int (if m0 q0 = (-1 : Int32) then (1 : Int32) else (0 : Int32)))]))
    refine Go.stp (fun t_ k_ => XS.istore X55.here hx rfl (hb hby at_155) rfl (l' := #[lv q0, sd, lv q1, sd, lv q2, sd, lv q3, sd, iv p4, iv p5, lv b', sd, iv (((p5.toUInt32 >>> ((1 : Int32) &&& 31).toUInt32).toInt32) &&& (3 : Int32)), lv c', sd, iv (((p5.toUInt32 >>> ((3 : Int32) &&& 31).toUInt32).toInt32) &&& (3 : Int32)), lv d', sd, iv cap, iv r0', iv r1', iv r2', iv r3', rv b48, iv (if m0 q0 = (-1 : Int32) then (1 : Int32) else (0 : Int32)), un, un, un, un, un, un, un, un, un, un, un]) rfl k_) ?_
    show Go p.tables e below G (T55.setTop (mkF m 157 #[lv q0, sd, lv q1, sd, lv q2, sd, lv q3, sd, iv p4, iv p5, lv b', sd, iv (((p5.toUInt32 >>> ((1 : Int32) &&& 31).toUInt32).toInt32) &&& (3 : Int32)), lv c', sd, iv (((p5.toUInt32 >>> ((3 : Int32) &&& 31).toUInt32).toInt32) &&& (3 : Int32)), lv d', sd, iv cap, iv r0', iv r1', iv r2', iv r3', rv b48, iv (if m0 q0 = (-1 : Int32) then (1 : Int32) else (0 : Int32)), un, un, un, un, un, un, un, un, un, un, un] []))
    refine Go.stp (fun t_ k_ => XS.aload X55.here hx rfl (hb hby at_157) rfl rfl k_) ?_
    show Go p.tables e below G (T55.setTop (mkF m 159 #[lv q0, sd, lv q1, sd, lv q2, sd, lv q3, sd, iv p4, iv p5, lv b', sd, iv (((p5.toUInt32 >>> ((1 : Int32) &&& 31).toUInt32).toInt32) &&& (3 : Int32)), lv c', sd, iv (((p5.toUInt32 >>> ((3 : Int32) &&& 31).toUInt32).toInt32) &&& (3 : Int32)), lv d', sd, iv cap, iv r0', iv r1', iv r2', iv r3', rv b48, iv (if m0 q0 = (-1 : Int32) then (1 : Int32) else (0 : Int32)), un, un, un, un, un, un, un, un, un, un, un] [(.ref b48)]))
    refine Go.stp (fun t_ k_ => XS.lload X55.here hx rfl (hb hby at_159) rfl k_) ?_
    show Go p.tables e below G (T55.setTop (mkF m 161 #[lv q0, sd, lv q1, sd, lv q2, sd, lv q3, sd, iv p4, iv p5, lv b', sd, iv (((p5.toUInt32 >>> ((1 : Int32) &&& 31).toUInt32).toInt32) &&& (3 : Int32)), lv c', sd, iv (((p5.toUInt32 >>> ((3 : Int32) &&& 31).toUInt32).toInt32) &&& (3 : Int32)), lv d', sd, iv cap, iv r0', iv r1', iv r2', iv r3', rv b48, iv (if m0 q0 = (-1 : Int32) then (1 : Int32) else (0 : Int32)), un, un, un, un, un, un, un, un, un, un, un] [(.long b'), (.ref b48)]))
    refine Go.stp (fun t_ k_ => XS.iload X55.here hx rfl (hb hby at_161) rfl k_) ?_
    show Go p.tables e below G (T55.setTop (mkF m 163 #[lv q0, sd, lv q1, sd, lv q2, sd, lv q3, sd, iv p4, iv p5, lv b', sd, iv (((p5.toUInt32 >>> ((1 : Int32) &&& 31).toUInt32).toInt32) &&& (3 : Int32)), lv c', sd, iv (((p5.toUInt32 >>> ((3 : Int32) &&& 31).toUInt32).toInt32) &&& (3 : Int32)), lv d', sd, iv cap, iv r0', iv r1', iv r2', iv r3', rv b48, iv (if m0 q0 = (-1 : Int32) then (1 : Int32) else (0 : Int32)), un, un, un, un, un, un, un, un, un, un, un] [(.int r1'), (.long b'), (.ref b48)]))
    obtain ⟨cq60, kq60, q60a, q60b, q60c⟩ := isOf hZ rfl f56
    obtain ⟨_, _, ⟨T60, L60, k60, n60⟩, -, X60, ⟨Lc60, hQ60, l60, y60, z60⟩, st60⟩ := X55.virtualBack hx (y := (⟨"com/example/chatterbench/chatterbench/data/IdIndex", "add", "(JI)Z"⟩ : MethodName)) (z := (⟨"com/example/chatterbench/chatterbench/data/IdIndex", "add", "(JI)Z"⟩ : MethodName)) hown (mvT hZ (hw _ (List.mem_of_getElem? (i := 33) rfl))) (mvT hZ (hw _ (List.mem_of_getElem? (i := 34) rfl))) (notFace_of_selects (args := #[]) (mvT hZ (hw _ (List.mem_of_getElem? (i := 36) rfl)))) (mvT hZ (hw _ (List.mem_of_getElem? (i := 36) rfl))) (mvT hZ (hw _ (List.mem_of_getElem? (i := 35) rfl))) (by decide) (backOf (W := 0) (rm6_16 l Z a0 hw [] b48 b' r1' ra ia R55 I55 m55 F55 T55.heap n0 Z55 f57 f58 Ja55 Jb55 f59 f56 g_ra g_ia hri hxr hxi rp55 hF55 k1) hZ (hw _ (List.mem_of_getElem? (i := 37) rfl)) (hw _ (List.mem_of_getElem? (i := 3) rfl)) (by decide) (by decide)) q60a q60c (g := (mkF m 163 #[lv q0, sd, lv q1, sd, lv q2, sd, lv q3, sd, iv p4, iv p5, lv b', sd, iv (((p5.toUInt32 >>> ((1 : Int32) &&& 31).toUInt32).toInt32) &&& (3 : Int32)), lv c', sd, iv (((p5.toUInt32 >>> ((3 : Int32) &&& 31).toUInt32).toInt32) &&& (3 : Int32)), lv d', sd, iv cap, iv r0', iv r1', iv r2', iv r3', rv b48, iv (if m0 q0 = (-1 : Int32) then (1 : Int32) else (0 : Int32)), un, un, un, un, un, un, un, un, un, un, un] [(.int r1'), (.long b'), (.ref b48)])) rfl (by rw [hml]; rfl) (Steps.refl _) (argsL := [(.long b'), (.int r1')]) (rest := []) (lenOf pd_5 rfl) rfl (by show 2 * 0 + _ ≤ _; exact Nat.le_of_eq rfl) (hb hby at_163) (fun _ _ => ⟨rfl, rfl, (by decide : 3 + 0 ≤ _), (by decide : 36 + 0 ≤ _)⟩)
    dsimp only [Pt.U, Pt.locs, Pt.cells, Pt.slots] at X60 l60 y60 z60 st60 hQ60
    subst l60 y60 z60
    obtain ⟨rfl, Nq60, Kc60, R60, I60, F60, Ja60, Jb60, rp60, hl60⟩ := hQ60
    have N60 := Fr.app N55 Nq60
    have f61 : Exa Z T60.heap b48 "com/example/chatterbench/chatterbench/data/IdIndex" := f56.keep Kc60
    have f62 : Fld Z T60.heap b48 "com/example/chatterbench/chatterbench/data/IdIndex" "rows" "[I" (.ref ra) := f57.keep Kc60 (fun q => by simp only [List.mem_cons, List.not_mem_nil, or_false] at q; exact q.elim (fun q => hxr q) (fun q => hxi q))
    have f63 : Fld Z T60.heap b48 "com/example/chatterbench/chatterbench/data/IdIndex" "ids" "[J" (.ref ia) := f58.keep Kc60 (fun q => by simp only [List.mem_cons, List.not_mem_nil, or_false] at q; exact q.elim (fun q => hxr q) (fun q => hxi q))
    have f64 : Fld Z T60.heap b48 "com/example/chatterbench/chatterbench/data/IdIndex" "shift" "I" (.int (60 : Int32)) := f59.keep Kc60 (fun q => by simp only [List.mem_cons, List.not_mem_nil, or_false] at q; exact q.elim (fun q => hxr q) (fun q => hxi q))
    have Z60 : n0 ≤ T60.heap.size := Nat.le_trans Z55 Kc60.1
    obtain ⟨m60, hm60⟩ : ∃ z, z = (if m55 b' = (-1 : Int32) then updm m55 b' r1' else m55) := ⟨_, rfl⟩
    rw [← hm60] at rp60
    skip
    have hF60 : F60.length + 1 < 16 := by omega
    refine Go.stp (fun t_ k_ => st60.trans k_) ?_
    show Go p.tables e below G (T60.setTop (mkF m 166 #[lv q0, sd, lv q1, sd, lv q2, sd, lv q3, sd, iv p4, iv p5, lv b', sd, iv (((p5.toUInt32 >>> ((1 : Int32) &&& 31).toUInt32).toInt32) &&& (3 : Int32)), lv c', sd, iv (((p5.toUInt32 >>> ((3 : Int32) &&& 31).toUInt32).toInt32) &&& (3 : Int32)), lv d', sd, iv cap, iv r0', iv r1', iv r2', iv r3', rv b48, iv (if m0 q0 = (-1 : Int32) then (1 : Int32) else (0 : Int32)), un, un, un, un, un, un, un, un, un, un, un] [(.int (if m55 b' = (-1 : Int32) then (1 : Int32) else (0 : Int32)))]))
    refine Go.stp (fun t_ k_ => XS.istore X60.here hx rfl (hb hby at_166) rfl (l' := #[lv q0, sd, lv q1, sd, lv q2, sd, lv q3, sd, iv p4, iv p5, lv b', sd, iv (((p5.toUInt32 >>> ((1 : Int32) &&& 31).toUInt32).toInt32) &&& (3 : Int32)), lv c', sd, iv (((p5.toUInt32 >>> ((3 : Int32) &&& 31).toUInt32).toInt32) &&& (3 : Int32)), lv d', sd, iv cap, iv r0', iv r1', iv r2', iv r3', rv b48, iv (if m0 q0 = (-1 : Int32) then (1 : Int32) else (0 : Int32)), iv (if m55 b' = (-1 : Int32) then (1 : Int32) else (0 : Int32)), un, un, un, un, un, un, un, un, un, un]) rfl k_) ?_
    show Go p.tables e below G (T60.setTop (mkF m 168 #[lv q0, sd, lv q1, sd, lv q2, sd, lv q3, sd, iv p4, iv p5, lv b', sd, iv (((p5.toUInt32 >>> ((1 : Int32) &&& 31).toUInt32).toInt32) &&& (3 : Int32)), lv c', sd, iv (((p5.toUInt32 >>> ((3 : Int32) &&& 31).toUInt32).toInt32) &&& (3 : Int32)), lv d', sd, iv cap, iv r0', iv r1', iv r2', iv r3', rv b48, iv (if m0 q0 = (-1 : Int32) then (1 : Int32) else (0 : Int32)), iv (if m55 b' = (-1 : Int32) then (1 : Int32) else (0 : Int32)), un, un, un, un, un, un, un, un, un, un] []))
    refine Go.stp (fun t_ k_ => XS.aload X60.here hx rfl (hb hby at_168) rfl rfl k_) ?_
    show Go p.tables e below G (T60.setTop (mkF m 170 #[lv q0, sd, lv q1, sd, lv q2, sd, lv q3, sd, iv p4, iv p5, lv b', sd, iv (((p5.toUInt32 >>> ((1 : Int32) &&& 31).toUInt32).toInt32) &&& (3 : Int32)), lv c', sd, iv (((p5.toUInt32 >>> ((3 : Int32) &&& 31).toUInt32).toInt32) &&& (3 : Int32)), lv d', sd, iv cap, iv r0', iv r1', iv r2', iv r3', rv b48, iv (if m0 q0 = (-1 : Int32) then (1 : Int32) else (0 : Int32)), iv (if m55 b' = (-1 : Int32) then (1 : Int32) else (0 : Int32)), un, un, un, un, un, un, un, un, un, un] [(.ref b48)]))
    refine Go.stp (fun t_ k_ => XS.lload X60.here hx rfl (hb hby at_170) rfl k_) ?_
    show Go p.tables e below G (T60.setTop (mkF m 172 #[lv q0, sd, lv q1, sd, lv q2, sd, lv q3, sd, iv p4, iv p5, lv b', sd, iv (((p5.toUInt32 >>> ((1 : Int32) &&& 31).toUInt32).toInt32) &&& (3 : Int32)), lv c', sd, iv (((p5.toUInt32 >>> ((3 : Int32) &&& 31).toUInt32).toInt32) &&& (3 : Int32)), lv d', sd, iv cap, iv r0', iv r1', iv r2', iv r3', rv b48, iv (if m0 q0 = (-1 : Int32) then (1 : Int32) else (0 : Int32)), iv (if m55 b' = (-1 : Int32) then (1 : Int32) else (0 : Int32)), un, un, un, un, un, un, un, un, un, un] [(.long c'), (.ref b48)]))
    refine Go.stp (fun t_ k_ => XS.iload X60.here hx rfl (hb hby at_172) rfl k_) ?_
    show Go p.tables e below G (T60.setTop (mkF m 174 #[lv q0, sd, lv q1, sd, lv q2, sd, lv q3, sd, iv p4, iv p5, lv b', sd, iv (((p5.toUInt32 >>> ((1 : Int32) &&& 31).toUInt32).toInt32) &&& (3 : Int32)), lv c', sd, iv (((p5.toUInt32 >>> ((3 : Int32) &&& 31).toUInt32).toInt32) &&& (3 : Int32)), lv d', sd, iv cap, iv r0', iv r1', iv r2', iv r3', rv b48, iv (if m0 q0 = (-1 : Int32) then (1 : Int32) else (0 : Int32)), iv (if m55 b' = (-1 : Int32) then (1 : Int32) else (0 : Int32)), un, un, un, un, un, un, un, un, un, un] [(.int r2'), (.long c'), (.ref b48)]))
    obtain ⟨cq65, kq65, q65a, q65b, q65c⟩ := isOf hZ rfl f61
    obtain ⟨_, _, ⟨T65, L65, k65, n65⟩, -, X65, ⟨Lc65, hQ65, l65, y65, z65⟩, st65⟩ := X60.virtualBack hx (y := (⟨"com/example/chatterbench/chatterbench/data/IdIndex", "add", "(JI)Z"⟩ : MethodName)) (z := (⟨"com/example/chatterbench/chatterbench/data/IdIndex", "add", "(JI)Z"⟩ : MethodName)) hown (mvT hZ (hw _ (List.mem_of_getElem? (i := 33) rfl))) (mvT hZ (hw _ (List.mem_of_getElem? (i := 34) rfl))) (notFace_of_selects (args := #[]) (mvT hZ (hw _ (List.mem_of_getElem? (i := 36) rfl)))) (mvT hZ (hw _ (List.mem_of_getElem? (i := 36) rfl))) (mvT hZ (hw _ (List.mem_of_getElem? (i := 35) rfl))) (by decide) (backOf (W := 0) (rm6_16 l Z a0 hw [] b48 c' r2' ra ia R60 I60 m60 F60 T60.heap n0 Z60 f62 f63 Ja60 Jb60 f64 f61 g_ra g_ia hri hxr hxi rp60 hF60 k2) hZ (hw _ (List.mem_of_getElem? (i := 37) rfl)) (hw _ (List.mem_of_getElem? (i := 3) rfl)) (by decide) (by decide)) q65a q65c (g := (mkF m 174 #[lv q0, sd, lv q1, sd, lv q2, sd, lv q3, sd, iv p4, iv p5, lv b', sd, iv (((p5.toUInt32 >>> ((1 : Int32) &&& 31).toUInt32).toInt32) &&& (3 : Int32)), lv c', sd, iv (((p5.toUInt32 >>> ((3 : Int32) &&& 31).toUInt32).toInt32) &&& (3 : Int32)), lv d', sd, iv cap, iv r0', iv r1', iv r2', iv r3', rv b48, iv (if m0 q0 = (-1 : Int32) then (1 : Int32) else (0 : Int32)), iv (if m55 b' = (-1 : Int32) then (1 : Int32) else (0 : Int32)), un, un, un, un, un, un, un, un, un, un] [(.int r2'), (.long c'), (.ref b48)])) rfl (by rw [hml]; rfl) (Steps.refl _) (argsL := [(.long c'), (.int r2')]) (rest := []) (lenOf pd_5 rfl) rfl (by show 2 * 0 + _ ≤ _; exact Nat.le_of_eq rfl) (hb hby at_174) (fun _ _ => ⟨rfl, rfl, (by decide : 3 + 0 ≤ _), (by decide : 36 + 0 ≤ _)⟩)
    dsimp only [Pt.U, Pt.locs, Pt.cells, Pt.slots] at X65 l65 y65 z65 st65 hQ65
    subst l65 y65 z65
    obtain ⟨rfl, Nq65, Kc65, R65, I65, F65, Ja65, Jb65, rp65, hl65⟩ := hQ65
    have N65 := Fr.app N60 Nq65
    have f66 : Exa Z T65.heap b48 "com/example/chatterbench/chatterbench/data/IdIndex" := f61.keep Kc65
    have f67 : Fld Z T65.heap b48 "com/example/chatterbench/chatterbench/data/IdIndex" "rows" "[I" (.ref ra) := f62.keep Kc65 (fun q => by simp only [List.mem_cons, List.not_mem_nil, or_false] at q; exact q.elim (fun q => hxr q) (fun q => hxi q))
    have f68 : Fld Z T65.heap b48 "com/example/chatterbench/chatterbench/data/IdIndex" "ids" "[J" (.ref ia) := f63.keep Kc65 (fun q => by simp only [List.mem_cons, List.not_mem_nil, or_false] at q; exact q.elim (fun q => hxr q) (fun q => hxi q))
    have f69 : Fld Z T65.heap b48 "com/example/chatterbench/chatterbench/data/IdIndex" "shift" "I" (.int (60 : Int32)) := f64.keep Kc65 (fun q => by simp only [List.mem_cons, List.not_mem_nil, or_false] at q; exact q.elim (fun q => hxr q) (fun q => hxi q))
    have Z65 : n0 ≤ T65.heap.size := Nat.le_trans Z60 Kc65.1
    obtain ⟨m65, hm65⟩ : ∃ z, z = (if m60 c' = (-1 : Int32) then updm m60 c' r2' else m60) := ⟨_, rfl⟩
    rw [← hm65] at rp65
    skip
    have hF65 : F65.length + 1 < 16 := by omega
    refine Go.stp (fun t_ k_ => st65.trans k_) ?_
    show Go p.tables e below G (T65.setTop (mkF m 177 #[lv q0, sd, lv q1, sd, lv q2, sd, lv q3, sd, iv p4, iv p5, lv b', sd, iv (((p5.toUInt32 >>> ((1 : Int32) &&& 31).toUInt32).toInt32) &&& (3 : Int32)), lv c', sd, iv (((p5.toUInt32 >>> ((3 : Int32) &&& 31).toUInt32).toInt32) &&& (3 : Int32)), lv d', sd, iv cap, iv r0', iv r1', iv r2', iv r3', rv b48, iv (if m0 q0 = (-1 : Int32) then (1 : Int32) else (0 : Int32)), iv (if m55 b' = (-1 : Int32) then (1 : Int32) else (0 : Int32)), un, un, un, un, un, un, un, un, un, un] [(.int (if m60 c' = (-1 : Int32) then (1 : Int32) else (0 : Int32)))]))
    refine Go.stp (fun t_ k_ => XS.istore X65.here hx rfl (hb hby at_177) rfl (l' := #[lv q0, sd, lv q1, sd, lv q2, sd, lv q3, sd, iv p4, iv p5, lv b', sd, iv (((p5.toUInt32 >>> ((1 : Int32) &&& 31).toUInt32).toInt32) &&& (3 : Int32)), lv c', sd, iv (((p5.toUInt32 >>> ((3 : Int32) &&& 31).toUInt32).toInt32) &&& (3 : Int32)), lv d', sd, iv cap, iv r0', iv r1', iv r2', iv r3', rv b48, iv (if m0 q0 = (-1 : Int32) then (1 : Int32) else (0 : Int32)), iv (if m55 b' = (-1 : Int32) then (1 : Int32) else (0 : Int32)), iv (if m60 c' = (-1 : Int32) then (1 : Int32) else (0 : Int32)), un, un, un, un, un, un, un, un, un]) rfl k_) ?_
    show Go p.tables e below G (T65.setTop (mkF m 179 #[lv q0, sd, lv q1, sd, lv q2, sd, lv q3, sd, iv p4, iv p5, lv b', sd, iv (((p5.toUInt32 >>> ((1 : Int32) &&& 31).toUInt32).toInt32) &&& (3 : Int32)), lv c', sd, iv (((p5.toUInt32 >>> ((3 : Int32) &&& 31).toUInt32).toInt32) &&& (3 : Int32)), lv d', sd, iv cap, iv r0', iv r1', iv r2', iv r3', rv b48, iv (if m0 q0 = (-1 : Int32) then (1 : Int32) else (0 : Int32)), iv (if m55 b' = (-1 : Int32) then (1 : Int32) else (0 : Int32)), iv (if m60 c' = (-1 : Int32) then (1 : Int32) else (0 : Int32)), un, un, un, un, un, un, un, un, un] []))
    refine Go.stp (fun t_ k_ => XS.aload X65.here hx rfl (hb hby at_179) rfl rfl k_) ?_
    show Go p.tables e below G (T65.setTop (mkF m 181 #[lv q0, sd, lv q1, sd, lv q2, sd, lv q3, sd, iv p4, iv p5, lv b', sd, iv (((p5.toUInt32 >>> ((1 : Int32) &&& 31).toUInt32).toInt32) &&& (3 : Int32)), lv c', sd, iv (((p5.toUInt32 >>> ((3 : Int32) &&& 31).toUInt32).toInt32) &&& (3 : Int32)), lv d', sd, iv cap, iv r0', iv r1', iv r2', iv r3', rv b48, iv (if m0 q0 = (-1 : Int32) then (1 : Int32) else (0 : Int32)), iv (if m55 b' = (-1 : Int32) then (1 : Int32) else (0 : Int32)), iv (if m60 c' = (-1 : Int32) then (1 : Int32) else (0 : Int32)), un, un, un, un, un, un, un, un, un] [(.ref b48)]))
    refine Go.stp (fun t_ k_ => XS.lloadN X65.here hx rfl (hb hby at_181) rfl k_) ?_
    show Go p.tables e below G (T65.setTop (mkF m 182 #[lv q0, sd, lv q1, sd, lv q2, sd, lv q3, sd, iv p4, iv p5, lv b', sd, iv (((p5.toUInt32 >>> ((1 : Int32) &&& 31).toUInt32).toInt32) &&& (3 : Int32)), lv c', sd, iv (((p5.toUInt32 >>> ((3 : Int32) &&& 31).toUInt32).toInt32) &&& (3 : Int32)), lv d', sd, iv cap, iv r0', iv r1', iv r2', iv r3', rv b48, iv (if m0 q0 = (-1 : Int32) then (1 : Int32) else (0 : Int32)), iv (if m55 b' = (-1 : Int32) then (1 : Int32) else (0 : Int32)), iv (if m60 c' = (-1 : Int32) then (1 : Int32) else (0 : Int32)), un, un, un, un, un, un, un, un, un] [(.long q0), (.ref b48)]))
    refine Go.stp (fun t_ k_ => XS.iload X65.here hx rfl (hb hby at_182) rfl k_) ?_
    show Go p.tables e below G (T65.setTop (mkF m 184 #[lv q0, sd, lv q1, sd, lv q2, sd, lv q3, sd, iv p4, iv p5, lv b', sd, iv (((p5.toUInt32 >>> ((1 : Int32) &&& 31).toUInt32).toInt32) &&& (3 : Int32)), lv c', sd, iv (((p5.toUInt32 >>> ((3 : Int32) &&& 31).toUInt32).toInt32) &&& (3 : Int32)), lv d', sd, iv cap, iv r0', iv r1', iv r2', iv r3', rv b48, iv (if m0 q0 = (-1 : Int32) then (1 : Int32) else (0 : Int32)), iv (if m55 b' = (-1 : Int32) then (1 : Int32) else (0 : Int32)), iv (if m60 c' = (-1 : Int32) then (1 : Int32) else (0 : Int32)), un, un, un, un, un, un, un, un, un] [(.int r3'), (.long q0), (.ref b48)]))
    obtain ⟨cq70, kq70, q70a, q70b, q70c⟩ := isOf hZ rfl f66
    obtain ⟨_, _, ⟨T70, L70, k70, n70⟩, -, X70, ⟨Lc70, hQ70, l70, y70, z70⟩, st70⟩ := X65.virtualBack hx (y := (⟨"com/example/chatterbench/chatterbench/data/IdIndex", "add", "(JI)Z"⟩ : MethodName)) (z := (⟨"com/example/chatterbench/chatterbench/data/IdIndex", "add", "(JI)Z"⟩ : MethodName)) hown (mvT hZ (hw _ (List.mem_of_getElem? (i := 33) rfl))) (mvT hZ (hw _ (List.mem_of_getElem? (i := 34) rfl))) (notFace_of_selects (args := #[]) (mvT hZ (hw _ (List.mem_of_getElem? (i := 36) rfl)))) (mvT hZ (hw _ (List.mem_of_getElem? (i := 36) rfl))) (mvT hZ (hw _ (List.mem_of_getElem? (i := 35) rfl))) (by decide) (backOf (W := 0) (rm6_16 l Z a0 hw [] b48 q0 r3' ra ia R65 I65 m65 F65 T65.heap n0 Z65 f67 f68 Ja65 Jb65 f69 f66 g_ra g_ia hri hxr hxi rp65 hF65 k3) hZ (hw _ (List.mem_of_getElem? (i := 37) rfl)) (hw _ (List.mem_of_getElem? (i := 3) rfl)) (by decide) (by decide)) q70a q70c (g := (mkF m 184 #[lv q0, sd, lv q1, sd, lv q2, sd, lv q3, sd, iv p4, iv p5, lv b', sd, iv (((p5.toUInt32 >>> ((1 : Int32) &&& 31).toUInt32).toInt32) &&& (3 : Int32)), lv c', sd, iv (((p5.toUInt32 >>> ((3 : Int32) &&& 31).toUInt32).toInt32) &&& (3 : Int32)), lv d', sd, iv cap, iv r0', iv r1', iv r2', iv r3', rv b48, iv (if m0 q0 = (-1 : Int32) then (1 : Int32) else (0 : Int32)), iv (if m55 b' = (-1 : Int32) then (1 : Int32) else (0 : Int32)), iv (if m60 c' = (-1 : Int32) then (1 : Int32) else (0 : Int32)), un, un, un, un, un, un, un, un, un] [(.int r3'), (.long q0), (.ref b48)])) rfl (by rw [hml]; rfl) (Steps.refl _) (argsL := [(.long q0), (.int r3')]) (rest := []) (lenOf pd_5 rfl) rfl (by show 2 * 0 + _ ≤ _; exact Nat.le_of_eq rfl) (hb hby at_184) (fun _ _ => ⟨rfl, rfl, (by decide : 3 + 0 ≤ _), (by decide : 36 + 0 ≤ _)⟩)
    dsimp only [Pt.U, Pt.locs, Pt.cells, Pt.slots] at X70 l70 y70 z70 st70 hQ70
    subst l70 y70 z70
    obtain ⟨rfl, Nq70, Kc70, R70, I70, F70, Ja70, Jb70, rp70, hl70⟩ := hQ70
    have N70 := Fr.app N65 Nq70
    have f71 : Exa Z T70.heap b48 "com/example/chatterbench/chatterbench/data/IdIndex" := f66.keep Kc70
    have f72 : Fld Z T70.heap b48 "com/example/chatterbench/chatterbench/data/IdIndex" "rows" "[I" (.ref ra) := f67.keep Kc70 (fun q => by simp only [List.mem_cons, List.not_mem_nil, or_false] at q; exact q.elim (fun q => hxr q) (fun q => hxi q))
    have f73 : Fld Z T70.heap b48 "com/example/chatterbench/chatterbench/data/IdIndex" "ids" "[J" (.ref ia) := f68.keep Kc70 (fun q => by simp only [List.mem_cons, List.not_mem_nil, or_false] at q; exact q.elim (fun q => hxr q) (fun q => hxi q))
    have f74 : Fld Z T70.heap b48 "com/example/chatterbench/chatterbench/data/IdIndex" "shift" "I" (.int (60 : Int32)) := f69.keep Kc70 (fun q => by simp only [List.mem_cons, List.not_mem_nil, or_false] at q; exact q.elim (fun q => hxr q) (fun q => hxi q))
    have Z70 : n0 ≤ T70.heap.size := Nat.le_trans Z65 Kc70.1
    obtain ⟨m70, hm70⟩ : ∃ z, z = (if m65 q0 = (-1 : Int32) then updm m65 q0 r3' else m65) := ⟨_, rfl⟩
    rw [← hm70] at rp70
    skip
    have hF70 : F70.length + 1 < 16 := by omega
    refine Go.stp (fun t_ k_ => st70.trans k_) ?_
    show Go p.tables e below G (T70.setTop (mkF m 187 #[lv q0, sd, lv q1, sd, lv q2, sd, lv q3, sd, iv p4, iv p5, lv b', sd, iv (((p5.toUInt32 >>> ((1 : Int32) &&& 31).toUInt32).toInt32) &&& (3 : Int32)), lv c', sd, iv (((p5.toUInt32 >>> ((3 : Int32) &&& 31).toUInt32).toInt32) &&& (3 : Int32)), lv d', sd, iv cap, iv r0', iv r1', iv r2', iv r3', rv b48, iv (if m0 q0 = (-1 : Int32) then (1 : Int32) else (0 : Int32)), iv (if m55 b' = (-1 : Int32) then (1 : Int32) else (0 : Int32)), iv (if m60 c' = (-1 : Int32) then (1 : Int32) else (0 : Int32)), un, un, un, un, un, un, un, un, un] [(.int (if m65 q0 = (-1 : Int32) then (1 : Int32) else (0 : Int32)))]))
    refine Go.stp (fun t_ k_ => XS.istore X70.here hx rfl (hb hby at_187) rfl (l' := #[lv q0, sd, lv q1, sd, lv q2, sd, lv q3, sd, iv p4, iv p5, lv b', sd, iv (((p5.toUInt32 >>> ((1 : Int32) &&& 31).toUInt32).toInt32) &&& (3 : Int32)), lv c', sd, iv (((p5.toUInt32 >>> ((3 : Int32) &&& 31).toUInt32).toInt32) &&& (3 : Int32)), lv d', sd, iv cap, iv r0', iv r1', iv r2', iv r3', rv b48, iv (if m0 q0 = (-1 : Int32) then (1 : Int32) else (0 : Int32)), iv (if m55 b' = (-1 : Int32) then (1 : Int32) else (0 : Int32)), iv (if m60 c' = (-1 : Int32) then (1 : Int32) else (0 : Int32)), iv (if m65 q0 = (-1 : Int32) then (1 : Int32) else (0 : Int32)), un, un, un, un, un, un, un, un]) rfl k_) ?_
    show Go p.tables e below G (T70.setTop (mkF m 189 #[lv q0, sd, lv q1, sd, lv q2, sd, lv q3, sd, iv p4, iv p5, lv b', sd, iv (((p5.toUInt32 >>> ((1 : Int32) &&& 31).toUInt32).toInt32) &&& (3 : Int32)), lv c', sd, iv (((p5.toUInt32 >>> ((3 : Int32) &&& 31).toUInt32).toInt32) &&& (3 : Int32)), lv d', sd, iv cap, iv r0', iv r1', iv r2', iv r3', rv b48, iv (if m0 q0 = (-1 : Int32) then (1 : Int32) else (0 : Int32)), iv (if m55 b' = (-1 : Int32) then (1 : Int32) else (0 : Int32)), iv (if m60 c' = (-1 : Int32) then (1 : Int32) else (0 : Int32)), iv (if m65 q0 = (-1 : Int32) then (1 : Int32) else (0 : Int32)), un, un, un, un, un, un, un, un] []))
    have FN := own_fin (d := d') k0 k1 k2 hm0 hm55 hm60 hm65 hm70
    obtain ⟨fn0, fn1, fn2, fn3, fa, fb, fc, fd⟩ := FN
    refine Go.stp (fun t_ k_ => XS.lload X70.here hx rfl (hb hby at_189) rfl k_) ?_
    show Go p.tables e below G (T70.setTop (mkF m 191 #[lv q0, sd, lv q1, sd, lv q2, sd, lv q3, sd, iv p4, iv p5, lv b', sd, iv (((p5.toUInt32 >>> ((1 : Int32) &&& 31).toUInt32).toInt32) &&& (3 : Int32)), lv c', sd, iv (((p5.toUInt32 >>> ((3 : Int32) &&& 31).toUInt32).toInt32) &&& (3 : Int32)), lv d', sd, iv cap, iv r0', iv r1', iv r2', iv r3', rv b48, iv (if m0 q0 = (-1 : Int32) then (1 : Int32) else (0 : Int32)), iv (if m55 b' = (-1 : Int32) then (1 : Int32) else (0 : Int32)), iv (if m60 c' = (-1 : Int32) then (1 : Int32) else (0 : Int32)), iv (if m65 q0 = (-1 : Int32) then (1 : Int32) else (0 : Int32)), un, un, un, un, un, un, un, un] [(.long b')]))
    refine Go.stp (fun t_ k_ => XS.lloadN X70.here hx rfl (hb hby at_191) rfl k_) ?_
    show Go p.tables e below G (T70.setTop (mkF m 192 #[lv q0, sd, lv q1, sd, lv q2, sd, lv q3, sd, iv p4, iv p5, lv b', sd, iv (((p5.toUInt32 >>> ((1 : Int32) &&& 31).toUInt32).toInt32) &&& (3 : Int32)), lv c', sd, iv (((p5.toUInt32 >>> ((3 : Int32) &&& 31).toUInt32).toInt32) &&& (3 : Int32)), lv d', sd, iv cap, iv r0', iv r1', iv r2', iv r3', rv b48, iv (if m0 q0 = (-1 : Int32) then (1 : Int32) else (0 : Int32)), iv (if m55 b' = (-1 : Int32) then (1 : Int32) else (0 : Int32)), iv (if m60 c' = (-1 : Int32) then (1 : Int32) else (0 : Int32)), iv (if m65 q0 = (-1 : Int32) then (1 : Int32) else (0 : Int32)), un, un, un, un, un, un, un, un] [(.long q0), (.long b')]))
    refine Go.stp (fun t_ k_ => XS.lcmp X70.here hx rfl (hb hby at_192) rfl k_) ?_
    show Go p.tables e below G (T70.setTop (mkF m 193 #[lv q0, sd, lv q1, sd, lv q2, sd, lv q3, sd, iv p4, iv p5, lv b', sd, iv (((p5.toUInt32 >>> ((1 : Int32) &&& 31).toUInt32).toInt32) &&& (3 : Int32)), lv c', sd, iv (((p5.toUInt32 >>> ((3 : Int32) &&& 31).toUInt32).toInt32) &&& (3 : Int32)), lv d', sd, iv cap, iv r0', iv r1', iv r2', iv r3', rv b48, iv (if m0 q0 = (-1 : Int32) then (1 : Int32) else (0 : Int32)), iv (if m55 b' = (-1 : Int32) then (1 : Int32) else (0 : Int32)), iv (if m60 c' = (-1 : Int32) then (1 : Int32) else (0 : Int32)), iv (if m65 q0 = (-1 : Int32) then (1 : Int32) else (0 : Int32)), un, un, un, un, un, un, un, un] [(.int (lcmpW b' q0))]))
    suffices J75 : ∀ (eB : Int32), (((b' = q0) ∧ eB = (0 : Int32)) ∨ (¬ (b' = q0) ∧ eB = (1 : Int32))) → Go p.tables e below G (T70.setTop (mkF m 201 #[lv q0, sd, lv q1, sd, lv q2, sd, lv q3, sd, iv p4, iv p5, lv b', sd, iv (((p5.toUInt32 >>> ((1 : Int32) &&& 31).toUInt32).toInt32) &&& (3 : Int32)), lv c', sd, iv (((p5.toUInt32 >>> ((3 : Int32) &&& 31).toUInt32).toInt32) &&& (3 : Int32)), lv d', sd, iv cap, iv r0', iv r1', iv r2', iv r3', rv b48, iv (if m0 q0 = (-1 : Int32) then (1 : Int32) else (0 : Int32)), iv (if m55 b' = (-1 : Int32) then (1 : Int32) else (0 : Int32)), iv (if m60 c' = (-1 : Int32) then (1 : Int32) else (0 : Int32)), iv (if m65 q0 = (-1 : Int32) then (1 : Int32) else (0 : Int32)), un, un, un, un, un, un, un, un] [(.int eB)])) by
      by_cases hc193 : b' = q0
      · refine Go.stp (fun t_ k_ => XS.ifYes X70.here hx rfl (pc0 := 193) (pc' := 200) rfl (hb hby at_193) rfl ((if0 _ _).trans (teq ((lw_eq b' q0).mpr hc193)).1) (by decide) (by decide) k_) ?_
        show Go p.tables e below G (T70.setTop (mkF m 200 #[lv q0, sd, lv q1, sd, lv q2, sd, lv q3, sd, iv p4, iv p5, lv b', sd, iv (((p5.toUInt32 >>> ((1 : Int32) &&& 31).toUInt32).toInt32) &&& (3 : Int32)), lv c', sd, iv (((p5.toUInt32 >>> ((3 : Int32) &&& 31).toUInt32).toInt32) &&& (3 : Int32)), lv d', sd, iv cap, iv r0', iv r1', iv r2', iv r3', rv b48, iv (if m0 q0 = (-1 : Int32) then (1 : Int32) else (0 : Int32)), iv (if m55 b' = (-1 : Int32) then (1 : Int32) else (0 : Int32)), iv (if m60 c' = (-1 : Int32) then (1 : Int32) else (0 : Int32)), iv (if m65 q0 = (-1 : Int32) then (1 : Int32) else (0 : Int32)), un, un, un, un, un, un, un, un] []))
        refine Go.stp (fun t_ k_ => XS.iconst X70.here hx rfl (hb hby at_200) k_) ?_
        show Go p.tables e below G (T70.setTop (mkF m 201 #[lv q0, sd, lv q1, sd, lv q2, sd, lv q3, sd, iv p4, iv p5, lv b', sd, iv (((p5.toUInt32 >>> ((1 : Int32) &&& 31).toUInt32).toInt32) &&& (3 : Int32)), lv c', sd, iv (((p5.toUInt32 >>> ((3 : Int32) &&& 31).toUInt32).toInt32) &&& (3 : Int32)), lv d', sd, iv cap, iv r0', iv r1', iv r2', iv r3', rv b48, iv (if m0 q0 = (-1 : Int32) then (1 : Int32) else (0 : Int32)), iv (if m55 b' = (-1 : Int32) then (1 : Int32) else (0 : Int32)), iv (if m60 c' = (-1 : Int32) then (1 : Int32) else (0 : Int32)), iv (if m65 q0 = (-1 : Int32) then (1 : Int32) else (0 : Int32)), un, un, un, un, un, un, un, un] [(.int (0 : Int32))]))
        exact J75 _ (Or.inl ⟨hc193, rfl⟩)
      · refine Go.stp (fun t_ k_ => XS.ifNo X70.here hx rfl (hb hby at_193) rfl ((if0 _ _).trans (feq (fun q => hc193 ((lw_eq b' q0).mp q))).1) k_) ?_
        show Go p.tables e below G (T70.setTop (mkF m 196 #[lv q0, sd, lv q1, sd, lv q2, sd, lv q3, sd, iv p4, iv p5, lv b', sd, iv (((p5.toUInt32 >>> ((1 : Int32) &&& 31).toUInt32).toInt32) &&& (3 : Int32)), lv c', sd, iv (((p5.toUInt32 >>> ((3 : Int32) &&& 31).toUInt32).toInt32) &&& (3 : Int32)), lv d', sd, iv cap, iv r0', iv r1', iv r2', iv r3', rv b48, iv (if m0 q0 = (-1 : Int32) then (1 : Int32) else (0 : Int32)), iv (if m55 b' = (-1 : Int32) then (1 : Int32) else (0 : Int32)), iv (if m60 c' = (-1 : Int32) then (1 : Int32) else (0 : Int32)), iv (if m65 q0 = (-1 : Int32) then (1 : Int32) else (0 : Int32)), un, un, un, un, un, un, un, un] []))
        refine Go.stp (fun t_ k_ => XS.iconst X70.here hx rfl (hb hby at_196) k_) ?_
        show Go p.tables e below G (T70.setTop (mkF m 197 #[lv q0, sd, lv q1, sd, lv q2, sd, lv q3, sd, iv p4, iv p5, lv b', sd, iv (((p5.toUInt32 >>> ((1 : Int32) &&& 31).toUInt32).toInt32) &&& (3 : Int32)), lv c', sd, iv (((p5.toUInt32 >>> ((3 : Int32) &&& 31).toUInt32).toInt32) &&& (3 : Int32)), lv d', sd, iv cap, iv r0', iv r1', iv r2', iv r3', rv b48, iv (if m0 q0 = (-1 : Int32) then (1 : Int32) else (0 : Int32)), iv (if m55 b' = (-1 : Int32) then (1 : Int32) else (0 : Int32)), iv (if m60 c' = (-1 : Int32) then (1 : Int32) else (0 : Int32)), iv (if m65 q0 = (-1 : Int32) then (1 : Int32) else (0 : Int32)), un, un, un, un, un, un, un, un] [(.int (1 : Int32))]))
        refine Go.stp (fun t_ k_ => XS.goto X70.here hx rfl (pc0 := 197) (pc' := 201) rfl (hb hby at_197) (by decide) (by decide) k_) ?_
        show Go p.tables e below G (T70.setTop (mkF m 201 #[lv q0, sd, lv q1, sd, lv q2, sd, lv q3, sd, iv p4, iv p5, lv b', sd, iv (((p5.toUInt32 >>> ((1 : Int32) &&& 31).toUInt32).toInt32) &&& (3 : Int32)), lv c', sd, iv (((p5.toUInt32 >>> ((3 : Int32) &&& 31).toUInt32).toInt32) &&& (3 : Int32)), lv d', sd, iv cap, iv r0', iv r1', iv r2', iv r3', rv b48, iv (if m0 q0 = (-1 : Int32) then (1 : Int32) else (0 : Int32)), iv (if m55 b' = (-1 : Int32) then (1 : Int32) else (0 : Int32)), iv (if m60 c' = (-1 : Int32) then (1 : Int32) else (0 : Int32)), iv (if m65 q0 = (-1 : Int32) then (1 : Int32) else (0 : Int32)), un, un, un, un, un, un, un, un] [(.int (1 : Int32))]))
        exact J75 _ (Or.inr ⟨hc193, rfl⟩)
    intro eB hj201
    refine Go.stp (fun t_ k_ => XS.istore X70.here hx rfl (hb hby at_201) rfl (l' := #[lv q0, sd, lv q1, sd, lv q2, sd, lv q3, sd, iv p4, iv p5, lv b', sd, iv (((p5.toUInt32 >>> ((1 : Int32) &&& 31).toUInt32).toInt32) &&& (3 : Int32)), lv c', sd, iv (((p5.toUInt32 >>> ((3 : Int32) &&& 31).toUInt32).toInt32) &&& (3 : Int32)), lv d', sd, iv cap, iv r0', iv r1', iv r2', iv r3', rv b48, iv (if m0 q0 = (-1 : Int32) then (1 : Int32) else (0 : Int32)), iv (if m55 b' = (-1 : Int32) then (1 : Int32) else (0 : Int32)), iv (if m60 c' = (-1 : Int32) then (1 : Int32) else (0 : Int32)), iv (if m65 q0 = (-1 : Int32) then (1 : Int32) else (0 : Int32)), iv eB, un, un, un, un, un, un, un]) rfl k_) ?_
    show Go p.tables e below G (T70.setTop (mkF m 203 #[lv q0, sd, lv q1, sd, lv q2, sd, lv q3, sd, iv p4, iv p5, lv b', sd, iv (((p5.toUInt32 >>> ((1 : Int32) &&& 31).toUInt32).toInt32) &&& (3 : Int32)), lv c', sd, iv (((p5.toUInt32 >>> ((3 : Int32) &&& 31).toUInt32).toInt32) &&& (3 : Int32)), lv d', sd, iv cap, iv r0', iv r1', iv r2', iv r3', rv b48, iv (if m0 q0 = (-1 : Int32) then (1 : Int32) else (0 : Int32)), iv (if m55 b' = (-1 : Int32) then (1 : Int32) else (0 : Int32)), iv (if m60 c' = (-1 : Int32) then (1 : Int32) else (0 : Int32)), iv (if m65 q0 = (-1 : Int32) then (1 : Int32) else (0 : Int32)), iv eB, un, un, un, un, un, un, un] []))
    refine Go.stp (fun t_ k_ => XS.lload X70.here hx rfl (hb hby at_203) rfl k_) ?_
    show Go p.tables e below G (T70.setTop (mkF m 205 #[lv q0, sd, lv q1, sd, lv q2, sd, lv q3, sd, iv p4, iv p5, lv b', sd, iv (((p5.toUInt32 >>> ((1 : Int32) &&& 31).toUInt32).toInt32) &&& (3 : Int32)), lv c', sd, iv (((p5.toUInt32 >>> ((3 : Int32) &&& 31).toUInt32).toInt32) &&& (3 : Int32)), lv d', sd, iv cap, iv r0', iv r1', iv r2', iv r3', rv b48, iv (if m0 q0 = (-1 : Int32) then (1 : Int32) else (0 : Int32)), iv (if m55 b' = (-1 : Int32) then (1 : Int32) else (0 : Int32)), iv (if m60 c' = (-1 : Int32) then (1 : Int32) else (0 : Int32)), iv (if m65 q0 = (-1 : Int32) then (1 : Int32) else (0 : Int32)), iv eB, un, un, un, un, un, un, un] [(.long c')]))
    refine Go.stp (fun t_ k_ => XS.lloadN X70.here hx rfl (hb hby at_205) rfl k_) ?_
    show Go p.tables e below G (T70.setTop (mkF m 206 #[lv q0, sd, lv q1, sd, lv q2, sd, lv q3, sd, iv p4, iv p5, lv b', sd, iv (((p5.toUInt32 >>> ((1 : Int32) &&& 31).toUInt32).toInt32) &&& (3 : Int32)), lv c', sd, iv (((p5.toUInt32 >>> ((3 : Int32) &&& 31).toUInt32).toInt32) &&& (3 : Int32)), lv d', sd, iv cap, iv r0', iv r1', iv r2', iv r3', rv b48, iv (if m0 q0 = (-1 : Int32) then (1 : Int32) else (0 : Int32)), iv (if m55 b' = (-1 : Int32) then (1 : Int32) else (0 : Int32)), iv (if m60 c' = (-1 : Int32) then (1 : Int32) else (0 : Int32)), iv (if m65 q0 = (-1 : Int32) then (1 : Int32) else (0 : Int32)), iv eB, un, un, un, un, un, un, un] [(.long q0), (.long c')]))
    refine Go.stp (fun t_ k_ => XS.lcmp X70.here hx rfl (hb hby at_206) rfl k_) ?_
    show Go p.tables e below G (T70.setTop (mkF m 207 #[lv q0, sd, lv q1, sd, lv q2, sd, lv q3, sd, iv p4, iv p5, lv b', sd, iv (((p5.toUInt32 >>> ((1 : Int32) &&& 31).toUInt32).toInt32) &&& (3 : Int32)), lv c', sd, iv (((p5.toUInt32 >>> ((3 : Int32) &&& 31).toUInt32).toInt32) &&& (3 : Int32)), lv d', sd, iv cap, iv r0', iv r1', iv r2', iv r3', rv b48, iv (if m0 q0 = (-1 : Int32) then (1 : Int32) else (0 : Int32)), iv (if m55 b' = (-1 : Int32) then (1 : Int32) else (0 : Int32)), iv (if m60 c' = (-1 : Int32) then (1 : Int32) else (0 : Int32)), iv (if m65 q0 = (-1 : Int32) then (1 : Int32) else (0 : Int32)), iv eB, un, un, un, un, un, un, un] [(.int (lcmpW c' q0))]))
    suffices J76 : ∀ (eC : Int32), (((c' = q0) ∧ eC = (0 : Int32)) ∨ (¬ (c' = q0) ∧ (c' = b') ∧ eC = (0 : Int32)) ∨ (¬ (c' = q0) ∧ ¬ (c' = b') ∧ eC = (1 : Int32))) → Go p.tables e below G (T70.setTop (mkF m 223 #[lv q0, sd, lv q1, sd, lv q2, sd, lv q3, sd, iv p4, iv p5, lv b', sd, iv (((p5.toUInt32 >>> ((1 : Int32) &&& 31).toUInt32).toInt32) &&& (3 : Int32)), lv c', sd, iv (((p5.toUInt32 >>> ((3 : Int32) &&& 31).toUInt32).toInt32) &&& (3 : Int32)), lv d', sd, iv cap, iv r0', iv r1', iv r2', iv r3', rv b48, iv (if m0 q0 = (-1 : Int32) then (1 : Int32) else (0 : Int32)), iv (if m55 b' = (-1 : Int32) then (1 : Int32) else (0 : Int32)), iv (if m60 c' = (-1 : Int32) then (1 : Int32) else (0 : Int32)), iv (if m65 q0 = (-1 : Int32) then (1 : Int32) else (0 : Int32)), iv eB, un, un, un, un, un, un, un] [(.int eC)])) by
      by_cases hc207 : c' = q0
      · refine Go.stp (fun t_ k_ => XS.ifYes X70.here hx rfl (pc0 := 207) (pc' := 222) rfl (hb hby at_207) rfl ((if0 _ _).trans (teq ((lw_eq c' q0).mpr hc207)).1) (by decide) (by decide) k_) ?_
        show Go p.tables e below G (T70.setTop (mkF m 222 #[lv q0, sd, lv q1, sd, lv q2, sd, lv q3, sd, iv p4, iv p5, lv b', sd, iv (((p5.toUInt32 >>> ((1 : Int32) &&& 31).toUInt32).toInt32) &&& (3 : Int32)), lv c', sd, iv (((p5.toUInt32 >>> ((3 : Int32) &&& 31).toUInt32).toInt32) &&& (3 : Int32)), lv d', sd, iv cap, iv r0', iv r1', iv r2', iv r3', rv b48, iv (if m0 q0 = (-1 : Int32) then (1 : Int32) else (0 : Int32)), iv (if m55 b' = (-1 : Int32) then (1 : Int32) else (0 : Int32)), iv (if m60 c' = (-1 : Int32) then (1 : Int32) else (0 : Int32)), iv (if m65 q0 = (-1 : Int32) then (1 : Int32) else (0 : Int32)), iv eB, un, un, un, un, un, un, un] []))
        refine Go.stp (fun t_ k_ => XS.iconst X70.here hx rfl (hb hby at_222) k_) ?_
        show Go p.tables e below G (T70.setTop (mkF m 223 #[lv q0, sd, lv q1, sd, lv q2, sd, lv q3, sd, iv p4, iv p5, lv b', sd, iv (((p5.toUInt32 >>> ((1 : Int32) &&& 31).toUInt32).toInt32) &&& (3 : Int32)), lv c', sd, iv (((p5.toUInt32 >>> ((3 : Int32) &&& 31).toUInt32).toInt32) &&& (3 : Int32)), lv d', sd, iv cap, iv r0', iv r1', iv r2', iv r3', rv b48, iv (if m0 q0 = (-1 : Int32) then (1 : Int32) else (0 : Int32)), iv (if m55 b' = (-1 : Int32) then (1 : Int32) else (0 : Int32)), iv (if m60 c' = (-1 : Int32) then (1 : Int32) else (0 : Int32)), iv (if m65 q0 = (-1 : Int32) then (1 : Int32) else (0 : Int32)), iv eB, un, un, un, un, un, un, un] [(.int (0 : Int32))]))
        exact J76 _ (Or.inl ⟨hc207, rfl⟩)
      · refine Go.stp (fun t_ k_ => XS.ifNo X70.here hx rfl (hb hby at_207) rfl ((if0 _ _).trans (feq (fun q => hc207 ((lw_eq c' q0).mp q))).1) k_) ?_
        show Go p.tables e below G (T70.setTop (mkF m 210 #[lv q0, sd, lv q1, sd, lv q2, sd, lv q3, sd, iv p4, iv p5, lv b', sd, iv (((p5.toUInt32 >>> ((1 : Int32) &&& 31).toUInt32).toInt32) &&& (3 : Int32)), lv c', sd, iv (((p5.toUInt32 >>> ((3 : Int32) &&& 31).toUInt32).toInt32) &&& (3 : Int32)), lv d', sd, iv cap, iv r0', iv r1', iv r2', iv r3', rv b48, iv (if m0 q0 = (-1 : Int32) then (1 : Int32) else (0 : Int32)), iv (if m55 b' = (-1 : Int32) then (1 : Int32) else (0 : Int32)), iv (if m60 c' = (-1 : Int32) then (1 : Int32) else (0 : Int32)), iv (if m65 q0 = (-1 : Int32) then (1 : Int32) else (0 : Int32)), iv eB, un, un, un, un, un, un, un] []))
        refine Go.stp (fun t_ k_ => XS.lload X70.here hx rfl (hb hby at_210) rfl k_) ?_
        show Go p.tables e below G (T70.setTop (mkF m 212 #[lv q0, sd, lv q1, sd, lv q2, sd, lv q3, sd, iv p4, iv p5, lv b', sd, iv (((p5.toUInt32 >>> ((1 : Int32) &&& 31).toUInt32).toInt32) &&& (3 : Int32)), lv c', sd, iv (((p5.toUInt32 >>> ((3 : Int32) &&& 31).toUInt32).toInt32) &&& (3 : Int32)), lv d', sd, iv cap, iv r0', iv r1', iv r2', iv r3', rv b48, iv (if m0 q0 = (-1 : Int32) then (1 : Int32) else (0 : Int32)), iv (if m55 b' = (-1 : Int32) then (1 : Int32) else (0 : Int32)), iv (if m60 c' = (-1 : Int32) then (1 : Int32) else (0 : Int32)), iv (if m65 q0 = (-1 : Int32) then (1 : Int32) else (0 : Int32)), iv eB, un, un, un, un, un, un, un] [(.long c')]))
        refine Go.stp (fun t_ k_ => XS.lload X70.here hx rfl (hb hby at_212) rfl k_) ?_
        show Go p.tables e below G (T70.setTop (mkF m 214 #[lv q0, sd, lv q1, sd, lv q2, sd, lv q3, sd, iv p4, iv p5, lv b', sd, iv (((p5.toUInt32 >>> ((1 : Int32) &&& 31).toUInt32).toInt32) &&& (3 : Int32)), lv c', sd, iv (((p5.toUInt32 >>> ((3 : Int32) &&& 31).toUInt32).toInt32) &&& (3 : Int32)), lv d', sd, iv cap, iv r0', iv r1', iv r2', iv r3', rv b48, iv (if m0 q0 = (-1 : Int32) then (1 : Int32) else (0 : Int32)), iv (if m55 b' = (-1 : Int32) then (1 : Int32) else (0 : Int32)), iv (if m60 c' = (-1 : Int32) then (1 : Int32) else (0 : Int32)), iv (if m65 q0 = (-1 : Int32) then (1 : Int32) else (0 : Int32)), iv eB, un, un, un, un, un, un, un] [(.long b'), (.long c')]))
        refine Go.stp (fun t_ k_ => XS.lcmp X70.here hx rfl (hb hby at_214) rfl k_) ?_
        show Go p.tables e below G (T70.setTop (mkF m 215 #[lv q0, sd, lv q1, sd, lv q2, sd, lv q3, sd, iv p4, iv p5, lv b', sd, iv (((p5.toUInt32 >>> ((1 : Int32) &&& 31).toUInt32).toInt32) &&& (3 : Int32)), lv c', sd, iv (((p5.toUInt32 >>> ((3 : Int32) &&& 31).toUInt32).toInt32) &&& (3 : Int32)), lv d', sd, iv cap, iv r0', iv r1', iv r2', iv r3', rv b48, iv (if m0 q0 = (-1 : Int32) then (1 : Int32) else (0 : Int32)), iv (if m55 b' = (-1 : Int32) then (1 : Int32) else (0 : Int32)), iv (if m60 c' = (-1 : Int32) then (1 : Int32) else (0 : Int32)), iv (if m65 q0 = (-1 : Int32) then (1 : Int32) else (0 : Int32)), iv eB, un, un, un, un, un, un, un] [(.int (lcmpW c' b'))]))
        by_cases hc215 : c' = b'
        · refine Go.stp (fun t_ k_ => XS.ifYes X70.here hx rfl (pc0 := 215) (pc' := 222) rfl (hb hby at_215) rfl ((if0 _ _).trans (teq ((lw_eq c' b').mpr hc215)).1) (by decide) (by decide) k_) ?_
          show Go p.tables e below G (T70.setTop (mkF m 222 #[lv q0, sd, lv q1, sd, lv q2, sd, lv q3, sd, iv p4, iv p5, lv b', sd, iv (((p5.toUInt32 >>> ((1 : Int32) &&& 31).toUInt32).toInt32) &&& (3 : Int32)), lv c', sd, iv (((p5.toUInt32 >>> ((3 : Int32) &&& 31).toUInt32).toInt32) &&& (3 : Int32)), lv d', sd, iv cap, iv r0', iv r1', iv r2', iv r3', rv b48, iv (if m0 q0 = (-1 : Int32) then (1 : Int32) else (0 : Int32)), iv (if m55 b' = (-1 : Int32) then (1 : Int32) else (0 : Int32)), iv (if m60 c' = (-1 : Int32) then (1 : Int32) else (0 : Int32)), iv (if m65 q0 = (-1 : Int32) then (1 : Int32) else (0 : Int32)), iv eB, un, un, un, un, un, un, un] []))
          refine Go.stp (fun t_ k_ => XS.iconst X70.here hx rfl (hb hby at_222) k_) ?_
          show Go p.tables e below G (T70.setTop (mkF m 223 #[lv q0, sd, lv q1, sd, lv q2, sd, lv q3, sd, iv p4, iv p5, lv b', sd, iv (((p5.toUInt32 >>> ((1 : Int32) &&& 31).toUInt32).toInt32) &&& (3 : Int32)), lv c', sd, iv (((p5.toUInt32 >>> ((3 : Int32) &&& 31).toUInt32).toInt32) &&& (3 : Int32)), lv d', sd, iv cap, iv r0', iv r1', iv r2', iv r3', rv b48, iv (if m0 q0 = (-1 : Int32) then (1 : Int32) else (0 : Int32)), iv (if m55 b' = (-1 : Int32) then (1 : Int32) else (0 : Int32)), iv (if m60 c' = (-1 : Int32) then (1 : Int32) else (0 : Int32)), iv (if m65 q0 = (-1 : Int32) then (1 : Int32) else (0 : Int32)), iv eB, un, un, un, un, un, un, un] [(.int (0 : Int32))]))
          exact J76 _ (Or.inr (Or.inl ⟨hc207, hc215, rfl⟩))
        · refine Go.stp (fun t_ k_ => XS.ifNo X70.here hx rfl (hb hby at_215) rfl ((if0 _ _).trans (feq (fun q => hc215 ((lw_eq c' b').mp q))).1) k_) ?_
          show Go p.tables e below G (T70.setTop (mkF m 218 #[lv q0, sd, lv q1, sd, lv q2, sd, lv q3, sd, iv p4, iv p5, lv b', sd, iv (((p5.toUInt32 >>> ((1 : Int32) &&& 31).toUInt32).toInt32) &&& (3 : Int32)), lv c', sd, iv (((p5.toUInt32 >>> ((3 : Int32) &&& 31).toUInt32).toInt32) &&& (3 : Int32)), lv d', sd, iv cap, iv r0', iv r1', iv r2', iv r3', rv b48, iv (if m0 q0 = (-1 : Int32) then (1 : Int32) else (0 : Int32)), iv (if m55 b' = (-1 : Int32) then (1 : Int32) else (0 : Int32)), iv (if m60 c' = (-1 : Int32) then (1 : Int32) else (0 : Int32)), iv (if m65 q0 = (-1 : Int32) then (1 : Int32) else (0 : Int32)), iv eB, un, un, un, un, un, un, un] []))
          refine Go.stp (fun t_ k_ => XS.iconst X70.here hx rfl (hb hby at_218) k_) ?_
          show Go p.tables e below G (T70.setTop (mkF m 219 #[lv q0, sd, lv q1, sd, lv q2, sd, lv q3, sd, iv p4, iv p5, lv b', sd, iv (((p5.toUInt32 >>> ((1 : Int32) &&& 31).toUInt32).toInt32) &&& (3 : Int32)), lv c', sd, iv (((p5.toUInt32 >>> ((3 : Int32) &&& 31).toUInt32).toInt32) &&& (3 : Int32)), lv d', sd, iv cap, iv r0', iv r1', iv r2', iv r3', rv b48, iv (if m0 q0 = (-1 : Int32) then (1 : Int32) else (0 : Int32)), iv (if m55 b' = (-1 : Int32) then (1 : Int32) else (0 : Int32)), iv (if m60 c' = (-1 : Int32) then (1 : Int32) else (0 : Int32)), iv (if m65 q0 = (-1 : Int32) then (1 : Int32) else (0 : Int32)), iv eB, un, un, un, un, un, un, un] [(.int (1 : Int32))]))
          refine Go.stp (fun t_ k_ => XS.goto X70.here hx rfl (pc0 := 219) (pc' := 223) rfl (hb hby at_219) (by decide) (by decide) k_) ?_
          show Go p.tables e below G (T70.setTop (mkF m 223 #[lv q0, sd, lv q1, sd, lv q2, sd, lv q3, sd, iv p4, iv p5, lv b', sd, iv (((p5.toUInt32 >>> ((1 : Int32) &&& 31).toUInt32).toInt32) &&& (3 : Int32)), lv c', sd, iv (((p5.toUInt32 >>> ((3 : Int32) &&& 31).toUInt32).toInt32) &&& (3 : Int32)), lv d', sd, iv cap, iv r0', iv r1', iv r2', iv r3', rv b48, iv (if m0 q0 = (-1 : Int32) then (1 : Int32) else (0 : Int32)), iv (if m55 b' = (-1 : Int32) then (1 : Int32) else (0 : Int32)), iv (if m60 c' = (-1 : Int32) then (1 : Int32) else (0 : Int32)), iv (if m65 q0 = (-1 : Int32) then (1 : Int32) else (0 : Int32)), iv eB, un, un, un, un, un, un, un] [(.int (1 : Int32))]))
          exact J76 _ (Or.inr (Or.inr ⟨hc207, hc215, rfl⟩))
    intro eC hj223
    refine Go.stp (fun t_ k_ => XS.istore X70.here hx rfl (hb hby at_223) rfl (l' := #[lv q0, sd, lv q1, sd, lv q2, sd, lv q3, sd, iv p4, iv p5, lv b', sd, iv (((p5.toUInt32 >>> ((1 : Int32) &&& 31).toUInt32).toInt32) &&& (3 : Int32)), lv c', sd, iv (((p5.toUInt32 >>> ((3 : Int32) &&& 31).toUInt32).toInt32) &&& (3 : Int32)), lv d', sd, iv cap, iv r0', iv r1', iv r2', iv r3', rv b48, iv (if m0 q0 = (-1 : Int32) then (1 : Int32) else (0 : Int32)), iv (if m55 b' = (-1 : Int32) then (1 : Int32) else (0 : Int32)), iv (if m60 c' = (-1 : Int32) then (1 : Int32) else (0 : Int32)), iv (if m65 q0 = (-1 : Int32) then (1 : Int32) else (0 : Int32)), iv eB, iv eC, un, un, un, un, un, un]) rfl k_) ?_
    show Go p.tables e below G (T70.setTop (mkF m 225 #[lv q0, sd, lv q1, sd, lv q2, sd, lv q3, sd, iv p4, iv p5, lv b', sd, iv (((p5.toUInt32 >>> ((1 : Int32) &&& 31).toUInt32).toInt32) &&& (3 : Int32)), lv c', sd, iv (((p5.toUInt32 >>> ((3 : Int32) &&& 31).toUInt32).toInt32) &&& (3 : Int32)), lv d', sd, iv cap, iv r0', iv r1', iv r2', iv r3', rv b48, iv (if m0 q0 = (-1 : Int32) then (1 : Int32) else (0 : Int32)), iv (if m55 b' = (-1 : Int32) then (1 : Int32) else (0 : Int32)), iv (if m60 c' = (-1 : Int32) then (1 : Int32) else (0 : Int32)), iv (if m65 q0 = (-1 : Int32) then (1 : Int32) else (0 : Int32)), iv eB, iv eC, un, un, un, un, un, un] []))
    refine Go.stp (fun t_ k_ => XS.iload X70.here hx rfl (hb hby at_225) rfl k_) ?_
    show Go p.tables e below G (T70.setTop (mkF m 227 #[lv q0, sd, lv q1, sd, lv q2, sd, lv q3, sd, iv p4, iv p5, lv b', sd, iv (((p5.toUInt32 >>> ((1 : Int32) &&& 31).toUInt32).toInt32) &&& (3 : Int32)), lv c', sd, iv (((p5.toUInt32 >>> ((3 : Int32) &&& 31).toUInt32).toInt32) &&& (3 : Int32)), lv d', sd, iv cap, iv r0', iv r1', iv r2', iv r3', rv b48, iv (if m0 q0 = (-1 : Int32) then (1 : Int32) else (0 : Int32)), iv (if m55 b' = (-1 : Int32) then (1 : Int32) else (0 : Int32)), iv (if m60 c' = (-1 : Int32) then (1 : Int32) else (0 : Int32)), iv (if m65 q0 = (-1 : Int32) then (1 : Int32) else (0 : Int32)), iv eB, iv eC, un, un, un, un, un, un] [(.int r0')]))
    refine Go.stp (fun t_ k_ => XS.istore X70.here hx rfl (hb hby at_227) rfl (l' := #[lv q0, sd, lv q1, sd, lv q2, sd, lv q3, sd, iv p4, iv p5, lv b', sd, iv (((p5.toUInt32 >>> ((1 : Int32) &&& 31).toUInt32).toInt32) &&& (3 : Int32)), lv c', sd, iv (((p5.toUInt32 >>> ((3 : Int32) &&& 31).toUInt32).toInt32) &&& (3 : Int32)), lv d', sd, iv cap, iv r0', iv r1', iv r2', iv r3', rv b48, iv (if m0 q0 = (-1 : Int32) then (1 : Int32) else (0 : Int32)), iv (if m55 b' = (-1 : Int32) then (1 : Int32) else (0 : Int32)), iv (if m60 c' = (-1 : Int32) then (1 : Int32) else (0 : Int32)), iv (if m65 q0 = (-1 : Int32) then (1 : Int32) else (0 : Int32)), iv eB, iv eC, iv r0', un, un, un, un, un]) rfl k_) ?_
    show Go p.tables e below G (T70.setTop (mkF m 229 #[lv q0, sd, lv q1, sd, lv q2, sd, lv q3, sd, iv p4, iv p5, lv b', sd, iv (((p5.toUInt32 >>> ((1 : Int32) &&& 31).toUInt32).toInt32) &&& (3 : Int32)), lv c', sd, iv (((p5.toUInt32 >>> ((3 : Int32) &&& 31).toUInt32).toInt32) &&& (3 : Int32)), lv d', sd, iv cap, iv r0', iv r1', iv r2', iv r3', rv b48, iv (if m0 q0 = (-1 : Int32) then (1 : Int32) else (0 : Int32)), iv (if m55 b' = (-1 : Int32) then (1 : Int32) else (0 : Int32)), iv (if m60 c' = (-1 : Int32) then (1 : Int32) else (0 : Int32)), iv (if m65 q0 = (-1 : Int32) then (1 : Int32) else (0 : Int32)), iv eB, iv eC, iv r0', un, un, un, un, un] []))
    refine Go.stp (fun t_ k_ => XS.lload X70.here hx rfl (hb hby at_229) rfl k_) ?_
    show Go p.tables e below G (T70.setTop (mkF m 231 #[lv q0, sd, lv q1, sd, lv q2, sd, lv q3, sd, iv p4, iv p5, lv b', sd, iv (((p5.toUInt32 >>> ((1 : Int32) &&& 31).toUInt32).toInt32) &&& (3 : Int32)), lv c', sd, iv (((p5.toUInt32 >>> ((3 : Int32) &&& 31).toUInt32).toInt32) &&& (3 : Int32)), lv d', sd, iv cap, iv r0', iv r1', iv r2', iv r3', rv b48, iv (if m0 q0 = (-1 : Int32) then (1 : Int32) else (0 : Int32)), iv (if m55 b' = (-1 : Int32) then (1 : Int32) else (0 : Int32)), iv (if m60 c' = (-1 : Int32) then (1 : Int32) else (0 : Int32)), iv (if m65 q0 = (-1 : Int32) then (1 : Int32) else (0 : Int32)), iv eB, iv eC, iv r0', un, un, un, un, un] [(.long b')]))
    refine Go.stp (fun t_ k_ => XS.lloadN X70.here hx rfl (hb hby at_231) rfl k_) ?_
    show Go p.tables e below G (T70.setTop (mkF m 232 #[lv q0, sd, lv q1, sd, lv q2, sd, lv q3, sd, iv p4, iv p5, lv b', sd, iv (((p5.toUInt32 >>> ((1 : Int32) &&& 31).toUInt32).toInt32) &&& (3 : Int32)), lv c', sd, iv (((p5.toUInt32 >>> ((3 : Int32) &&& 31).toUInt32).toInt32) &&& (3 : Int32)), lv d', sd, iv cap, iv r0', iv r1', iv r2', iv r3', rv b48, iv (if m0 q0 = (-1 : Int32) then (1 : Int32) else (0 : Int32)), iv (if m55 b' = (-1 : Int32) then (1 : Int32) else (0 : Int32)), iv (if m60 c' = (-1 : Int32) then (1 : Int32) else (0 : Int32)), iv (if m65 q0 = (-1 : Int32) then (1 : Int32) else (0 : Int32)), iv eB, iv eC, iv r0', un, un, un, un, un] [(.long q0), (.long b')]))
    refine Go.stp (fun t_ k_ => XS.lcmp X70.here hx rfl (hb hby at_232) rfl k_) ?_
    show Go p.tables e below G (T70.setTop (mkF m 233 #[lv q0, sd, lv q1, sd, lv q2, sd, lv q3, sd, iv p4, iv p5, lv b', sd, iv (((p5.toUInt32 >>> ((1 : Int32) &&& 31).toUInt32).toInt32) &&& (3 : Int32)), lv c', sd, iv (((p5.toUInt32 >>> ((3 : Int32) &&& 31).toUInt32).toInt32) &&& (3 : Int32)), lv d', sd, iv cap, iv r0', iv r1', iv r2', iv r3', rv b48, iv (if m0 q0 = (-1 : Int32) then (1 : Int32) else (0 : Int32)), iv (if m55 b' = (-1 : Int32) then (1 : Int32) else (0 : Int32)), iv (if m60 c' = (-1 : Int32) then (1 : Int32) else (0 : Int32)), iv (if m65 q0 = (-1 : Int32) then (1 : Int32) else (0 : Int32)), iv eB, iv eC, iv r0', un, un, un, un, un] [(.int (lcmpW b' q0))]))
    suffices J77 : ∀ (rB : Int32), (((b' = q0) ∧ rB = r0') ∨ (¬ (b' = q0) ∧ rB = r1')) → Go p.tables e below G (T70.setTop (mkF m 243 #[lv q0, sd, lv q1, sd, lv q2, sd, lv q3, sd, iv p4, iv p5, lv b', sd, iv (((p5.toUInt32 >>> ((1 : Int32) &&& 31).toUInt32).toInt32) &&& (3 : Int32)), lv c', sd, iv (((p5.toUInt32 >>> ((3 : Int32) &&& 31).toUInt32).toInt32) &&& (3 : Int32)), lv d', sd, iv cap, iv r0', iv r1', iv r2', iv r3', rv b48, iv (if m0 q0 = (-1 : Int32) then (1 : Int32) else (0 : Int32)), iv (if m55 b' = (-1 : Int32) then (1 : Int32) else (0 : Int32)), iv (if m60 c' = (-1 : Int32) then (1 : Int32) else (0 : Int32)), iv (if m65 q0 = (-1 : Int32) then (1 : Int32) else (0 : Int32)), iv eB, iv eC, iv r0', un, un, un, un, un] [(.int rB)])) by
      by_cases hc233 : b' = q0
      · refine Go.stp (fun t_ k_ => XS.ifNo X70.here hx rfl (hb hby at_233) rfl ((if0 _ _).trans (teq ((lw_eq b' q0).mpr hc233)).2) k_) ?_
        show Go p.tables e below G (T70.setTop (mkF m 236 #[lv q0, sd, lv q1, sd, lv q2, sd, lv q3, sd, iv p4, iv p5, lv b', sd, iv (((p5.toUInt32 >>> ((1 : Int32) &&& 31).toUInt32).toInt32) &&& (3 : Int32)), lv c', sd, iv (((p5.toUInt32 >>> ((3 : Int32) &&& 31).toUInt32).toInt32) &&& (3 : Int32)), lv d', sd, iv cap, iv r0', iv r1', iv r2', iv r3', rv b48, iv (if m0 q0 = (-1 : Int32) then (1 : Int32) else (0 : Int32)), iv (if m55 b' = (-1 : Int32) then (1 : Int32) else (0 : Int32)), iv (if m60 c' = (-1 : Int32) then (1 : Int32) else (0 : Int32)), iv (if m65 q0 = (-1 : Int32) then (1 : Int32) else (0 : Int32)), iv eB, iv eC, iv r0', un, un, un, un, un] []))
        refine Go.stp (fun t_ k_ => XS.iload X70.here hx rfl (hb hby at_236) rfl k_) ?_
        show Go p.tables e below G (T70.setTop (mkF m 238 #[lv q0, sd, lv q1, sd, lv q2, sd, lv q3, sd, iv p4, iv p5, lv b', sd, iv (((p5.toUInt32 >>> ((1 : Int32) &&& 31).toUInt32).toInt32) &&& (3 : Int32)), lv c', sd, iv (((p5.toUInt32 >>> ((3 : Int32) &&& 31).toUInt32).toInt32) &&& (3 : Int32)), lv d', sd, iv cap, iv r0', iv r1', iv r2', iv r3', rv b48, iv (if m0 q0 = (-1 : Int32) then (1 : Int32) else (0 : Int32)), iv (if m55 b' = (-1 : Int32) then (1 : Int32) else (0 : Int32)), iv (if m60 c' = (-1 : Int32) then (1 : Int32) else (0 : Int32)), iv (if m65 q0 = (-1 : Int32) then (1 : Int32) else (0 : Int32)), iv eB, iv eC, iv r0', un, un, un, un, un] [(.int r0')]))
        refine Go.stp (fun t_ k_ => XS.goto X70.here hx rfl (pc0 := 238) (pc' := 243) rfl (hb hby at_238) (by decide) (by decide) k_) ?_
        show Go p.tables e below G (T70.setTop (mkF m 243 #[lv q0, sd, lv q1, sd, lv q2, sd, lv q3, sd, iv p4, iv p5, lv b', sd, iv (((p5.toUInt32 >>> ((1 : Int32) &&& 31).toUInt32).toInt32) &&& (3 : Int32)), lv c', sd, iv (((p5.toUInt32 >>> ((3 : Int32) &&& 31).toUInt32).toInt32) &&& (3 : Int32)), lv d', sd, iv cap, iv r0', iv r1', iv r2', iv r3', rv b48, iv (if m0 q0 = (-1 : Int32) then (1 : Int32) else (0 : Int32)), iv (if m55 b' = (-1 : Int32) then (1 : Int32) else (0 : Int32)), iv (if m60 c' = (-1 : Int32) then (1 : Int32) else (0 : Int32)), iv (if m65 q0 = (-1 : Int32) then (1 : Int32) else (0 : Int32)), iv eB, iv eC, iv r0', un, un, un, un, un] [(.int r0')]))
        exact J77 _ (Or.inl ⟨hc233, rfl⟩)
      · refine Go.stp (fun t_ k_ => XS.ifYes X70.here hx rfl (pc0 := 233) (pc' := 241) rfl (hb hby at_233) rfl ((if0 _ _).trans (feq (fun q => hc233 ((lw_eq b' q0).mp q))).2) (by decide) (by decide) k_) ?_
        show Go p.tables e below G (T70.setTop (mkF m 241 #[lv q0, sd, lv q1, sd, lv q2, sd, lv q3, sd, iv p4, iv p5, lv b', sd, iv (((p5.toUInt32 >>> ((1 : Int32) &&& 31).toUInt32).toInt32) &&& (3 : Int32)), lv c', sd, iv (((p5.toUInt32 >>> ((3 : Int32) &&& 31).toUInt32).toInt32) &&& (3 : Int32)), lv d', sd, iv cap, iv r0', iv r1', iv r2', iv r3', rv b48, iv (if m0 q0 = (-1 : Int32) then (1 : Int32) else (0 : Int32)), iv (if m55 b' = (-1 : Int32) then (1 : Int32) else (0 : Int32)), iv (if m60 c' = (-1 : Int32) then (1 : Int32) else (0 : Int32)), iv (if m65 q0 = (-1 : Int32) then (1 : Int32) else (0 : Int32)), iv eB, iv eC, iv r0', un, un, un, un, un] []))
        refine Go.stp (fun t_ k_ => XS.iload X70.here hx rfl (hb hby at_241) rfl k_) ?_
        show Go p.tables e below G (T70.setTop (mkF m 243 #[lv q0, sd, lv q1, sd, lv q2, sd, lv q3, sd, iv p4, iv p5, lv b', sd, iv (((p5.toUInt32 >>> ((1 : Int32) &&& 31).toUInt32).toInt32) &&& (3 : Int32)), lv c', sd, iv (((p5.toUInt32 >>> ((3 : Int32) &&& 31).toUInt32).toInt32) &&& (3 : Int32)), lv d', sd, iv cap, iv r0', iv r1', iv r2', iv r3', rv b48, iv (if m0 q0 = (-1 : Int32) then (1 : Int32) else (0 : Int32)), iv (if m55 b' = (-1 : Int32) then (1 : Int32) else (0 : Int32)), iv (if m60 c' = (-1 : Int32) then (1 : Int32) else (0 : Int32)), iv (if m65 q0 = (-1 : Int32) then (1 : Int32) else (0 : Int32)), iv eB, iv eC, iv r0', un, un, un, un, un] [(.int r1')]))
        exact J77 _ (Or.inr ⟨hc233, rfl⟩)
    intro rB hj243
    refine Go.stp (fun t_ k_ => XS.istore X70.here hx rfl (hb hby at_243) rfl (l' := #[lv q0, sd, lv q1, sd, lv q2, sd, lv q3, sd, iv p4, iv p5, lv b', sd, iv (((p5.toUInt32 >>> ((1 : Int32) &&& 31).toUInt32).toInt32) &&& (3 : Int32)), lv c', sd, iv (((p5.toUInt32 >>> ((3 : Int32) &&& 31).toUInt32).toInt32) &&& (3 : Int32)), lv d', sd, iv cap, iv r0', iv r1', iv r2', iv r3', rv b48, iv (if m0 q0 = (-1 : Int32) then (1 : Int32) else (0 : Int32)), iv (if m55 b' = (-1 : Int32) then (1 : Int32) else (0 : Int32)), iv (if m60 c' = (-1 : Int32) then (1 : Int32) else (0 : Int32)), iv (if m65 q0 = (-1 : Int32) then (1 : Int32) else (0 : Int32)), iv eB, iv eC, iv r0', iv rB, un, un, un, un]) rfl k_) ?_
    show Go p.tables e below G (T70.setTop (mkF m 245 #[lv q0, sd, lv q1, sd, lv q2, sd, lv q3, sd, iv p4, iv p5, lv b', sd, iv (((p5.toUInt32 >>> ((1 : Int32) &&& 31).toUInt32).toInt32) &&& (3 : Int32)), lv c', sd, iv (((p5.toUInt32 >>> ((3 : Int32) &&& 31).toUInt32).toInt32) &&& (3 : Int32)), lv d', sd, iv cap, iv r0', iv r1', iv r2', iv r3', rv b48, iv (if m0 q0 = (-1 : Int32) then (1 : Int32) else (0 : Int32)), iv (if m55 b' = (-1 : Int32) then (1 : Int32) else (0 : Int32)), iv (if m60 c' = (-1 : Int32) then (1 : Int32) else (0 : Int32)), iv (if m65 q0 = (-1 : Int32) then (1 : Int32) else (0 : Int32)), iv eB, iv eC, iv r0', iv rB, un, un, un, un] []))
    refine Go.stp (fun t_ k_ => XS.lload X70.here hx rfl (hb hby at_245) rfl k_) ?_
    show Go p.tables e below G (T70.setTop (mkF m 247 #[lv q0, sd, lv q1, sd, lv q2, sd, lv q3, sd, iv p4, iv p5, lv b', sd, iv (((p5.toUInt32 >>> ((1 : Int32) &&& 31).toUInt32).toInt32) &&& (3 : Int32)), lv c', sd, iv (((p5.toUInt32 >>> ((3 : Int32) &&& 31).toUInt32).toInt32) &&& (3 : Int32)), lv d', sd, iv cap, iv r0', iv r1', iv r2', iv r3', rv b48, iv (if m0 q0 = (-1 : Int32) then (1 : Int32) else (0 : Int32)), iv (if m55 b' = (-1 : Int32) then (1 : Int32) else (0 : Int32)), iv (if m60 c' = (-1 : Int32) then (1 : Int32) else (0 : Int32)), iv (if m65 q0 = (-1 : Int32) then (1 : Int32) else (0 : Int32)), iv eB, iv eC, iv r0', iv rB, un, un, un, un] [(.long c')]))
    refine Go.stp (fun t_ k_ => XS.lloadN X70.here hx rfl (hb hby at_247) rfl k_) ?_
    show Go p.tables e below G (T70.setTop (mkF m 248 #[lv q0, sd, lv q1, sd, lv q2, sd, lv q3, sd, iv p4, iv p5, lv b', sd, iv (((p5.toUInt32 >>> ((1 : Int32) &&& 31).toUInt32).toInt32) &&& (3 : Int32)), lv c', sd, iv (((p5.toUInt32 >>> ((3 : Int32) &&& 31).toUInt32).toInt32) &&& (3 : Int32)), lv d', sd, iv cap, iv r0', iv r1', iv r2', iv r3', rv b48, iv (if m0 q0 = (-1 : Int32) then (1 : Int32) else (0 : Int32)), iv (if m55 b' = (-1 : Int32) then (1 : Int32) else (0 : Int32)), iv (if m60 c' = (-1 : Int32) then (1 : Int32) else (0 : Int32)), iv (if m65 q0 = (-1 : Int32) then (1 : Int32) else (0 : Int32)), iv eB, iv eC, iv r0', iv rB, un, un, un, un] [(.long q0), (.long c')]))
    refine Go.stp (fun t_ k_ => XS.lcmp X70.here hx rfl (hb hby at_248) rfl k_) ?_
    show Go p.tables e below G (T70.setTop (mkF m 249 #[lv q0, sd, lv q1, sd, lv q2, sd, lv q3, sd, iv p4, iv p5, lv b', sd, iv (((p5.toUInt32 >>> ((1 : Int32) &&& 31).toUInt32).toInt32) &&& (3 : Int32)), lv c', sd, iv (((p5.toUInt32 >>> ((3 : Int32) &&& 31).toUInt32).toInt32) &&& (3 : Int32)), lv d', sd, iv cap, iv r0', iv r1', iv r2', iv r3', rv b48, iv (if m0 q0 = (-1 : Int32) then (1 : Int32) else (0 : Int32)), iv (if m55 b' = (-1 : Int32) then (1 : Int32) else (0 : Int32)), iv (if m60 c' = (-1 : Int32) then (1 : Int32) else (0 : Int32)), iv (if m65 q0 = (-1 : Int32) then (1 : Int32) else (0 : Int32)), iv eB, iv eC, iv r0', iv rB, un, un, un, un] [(.int (lcmpW c' q0))]))
    suffices J78 : ∀ (rC : Int32), (((c' = q0) ∧ rC = r0') ∨ (¬ (c' = q0) ∧ (c' = b') ∧ rC = rB) ∨ (¬ (c' = q0) ∧ ¬ (c' = b') ∧ rC = r2')) → Go p.tables e below G (T70.setTop (mkF m 272 #[lv q0, sd, lv q1, sd, lv q2, sd, lv q3, sd, iv p4, iv p5, lv b', sd, iv (((p5.toUInt32 >>> ((1 : Int32) &&& 31).toUInt32).toInt32) &&& (3 : Int32)), lv c', sd, iv (((p5.toUInt32 >>> ((3 : Int32) &&& 31).toUInt32).toInt32) &&& (3 : Int32)), lv d', sd, iv cap, iv r0', iv r1', iv r2', iv r3', rv b48, iv (if m0 q0 = (-1 : Int32) then (1 : Int32) else (0 : Int32)), iv (if m55 b' = (-1 : Int32) then (1 : Int32) else (0 : Int32)), iv (if m60 c' = (-1 : Int32) then (1 : Int32) else (0 : Int32)), iv (if m65 q0 = (-1 : Int32) then (1 : Int32) else (0 : Int32)), iv eB, iv eC, iv r0', iv rB, un, un, un, un] [(.int rC)])) by
      by_cases hc249 : c' = q0
      · refine Go.stp (fun t_ k_ => XS.ifNo X70.here hx rfl (hb hby at_249) rfl ((if0 _ _).trans (teq ((lw_eq c' q0).mpr hc249)).2) k_) ?_
        show Go p.tables e below G (T70.setTop (mkF m 252 #[lv q0, sd, lv q1, sd, lv q2, sd, lv q3, sd, iv p4, iv p5, lv b', sd, iv (((p5.toUInt32 >>> ((1 : Int32) &&& 31).toUInt32).toInt32) &&& (3 : Int32)), lv c', sd, iv (((p5.toUInt32 >>> ((3 : Int32) &&& 31).toUInt32).toInt32) &&& (3 : Int32)), lv d', sd, iv cap, iv r0', iv r1', iv r2', iv r3', rv b48, iv (if m0 q0 = (-1 : Int32) then (1 : Int32) else (0 : Int32)), iv (if m55 b' = (-1 : Int32) then (1 : Int32) else (0 : Int32)), iv (if m60 c' = (-1 : Int32) then (1 : Int32) else (0 : Int32)), iv (if m65 q0 = (-1 : Int32) then (1 : Int32) else (0 : Int32)), iv eB, iv eC, iv r0', iv rB, un, un, un, un] []))
        refine Go.stp (fun t_ k_ => XS.iload X70.here hx rfl (hb hby at_252) rfl k_) ?_
        show Go p.tables e below G (T70.setTop (mkF m 254 #[lv q0, sd, lv q1, sd, lv q2, sd, lv q3, sd, iv p4, iv p5, lv b', sd, iv (((p5.toUInt32 >>> ((1 : Int32) &&& 31).toUInt32).toInt32) &&& (3 : Int32)), lv c', sd, iv (((p5.toUInt32 >>> ((3 : Int32) &&& 31).toUInt32).toInt32) &&& (3 : Int32)), lv d', sd, iv cap, iv r0', iv r1', iv r2', iv r3', rv b48, iv (if m0 q0 = (-1 : Int32) then (1 : Int32) else (0 : Int32)), iv (if m55 b' = (-1 : Int32) then (1 : Int32) else (0 : Int32)), iv (if m60 c' = (-1 : Int32) then (1 : Int32) else (0 : Int32)), iv (if m65 q0 = (-1 : Int32) then (1 : Int32) else (0 : Int32)), iv eB, iv eC, iv r0', iv rB, un, un, un, un] [(.int r0')]))
        refine Go.stp (fun t_ k_ => XS.goto X70.here hx rfl (pc0 := 254) (pc' := 272) rfl (hb hby at_254) (by decide) (by decide) k_) ?_
        show Go p.tables e below G (T70.setTop (mkF m 272 #[lv q0, sd, lv q1, sd, lv q2, sd, lv q3, sd, iv p4, iv p5, lv b', sd, iv (((p5.toUInt32 >>> ((1 : Int32) &&& 31).toUInt32).toInt32) &&& (3 : Int32)), lv c', sd, iv (((p5.toUInt32 >>> ((3 : Int32) &&& 31).toUInt32).toInt32) &&& (3 : Int32)), lv d', sd, iv cap, iv r0', iv r1', iv r2', iv r3', rv b48, iv (if m0 q0 = (-1 : Int32) then (1 : Int32) else (0 : Int32)), iv (if m55 b' = (-1 : Int32) then (1 : Int32) else (0 : Int32)), iv (if m60 c' = (-1 : Int32) then (1 : Int32) else (0 : Int32)), iv (if m65 q0 = (-1 : Int32) then (1 : Int32) else (0 : Int32)), iv eB, iv eC, iv r0', iv rB, un, un, un, un] [(.int r0')]))
        exact J78 _ (Or.inl ⟨hc249, rfl⟩)
      · refine Go.stp (fun t_ k_ => XS.ifYes X70.here hx rfl (pc0 := 249) (pc' := 257) rfl (hb hby at_249) rfl ((if0 _ _).trans (feq (fun q => hc249 ((lw_eq c' q0).mp q))).2) (by decide) (by decide) k_) ?_
        show Go p.tables e below G (T70.setTop (mkF m 257 #[lv q0, sd, lv q1, sd, lv q2, sd, lv q3, sd, iv p4, iv p5, lv b', sd, iv (((p5.toUInt32 >>> ((1 : Int32) &&& 31).toUInt32).toInt32) &&& (3 : Int32)), lv c', sd, iv (((p5.toUInt32 >>> ((3 : Int32) &&& 31).toUInt32).toInt32) &&& (3 : Int32)), lv d', sd, iv cap, iv r0', iv r1', iv r2', iv r3', rv b48, iv (if m0 q0 = (-1 : Int32) then (1 : Int32) else (0 : Int32)), iv (if m55 b' = (-1 : Int32) then (1 : Int32) else (0 : Int32)), iv (if m60 c' = (-1 : Int32) then (1 : Int32) else (0 : Int32)), iv (if m65 q0 = (-1 : Int32) then (1 : Int32) else (0 : Int32)), iv eB, iv eC, iv r0', iv rB, un, un, un, un] []))
        refine Go.stp (fun t_ k_ => XS.lload X70.here hx rfl (hb hby at_257) rfl k_) ?_
        show Go p.tables e below G (T70.setTop (mkF m 259 #[lv q0, sd, lv q1, sd, lv q2, sd, lv q3, sd, iv p4, iv p5, lv b', sd, iv (((p5.toUInt32 >>> ((1 : Int32) &&& 31).toUInt32).toInt32) &&& (3 : Int32)), lv c', sd, iv (((p5.toUInt32 >>> ((3 : Int32) &&& 31).toUInt32).toInt32) &&& (3 : Int32)), lv d', sd, iv cap, iv r0', iv r1', iv r2', iv r3', rv b48, iv (if m0 q0 = (-1 : Int32) then (1 : Int32) else (0 : Int32)), iv (if m55 b' = (-1 : Int32) then (1 : Int32) else (0 : Int32)), iv (if m60 c' = (-1 : Int32) then (1 : Int32) else (0 : Int32)), iv (if m65 q0 = (-1 : Int32) then (1 : Int32) else (0 : Int32)), iv eB, iv eC, iv r0', iv rB, un, un, un, un] [(.long c')]))
        refine Go.stp (fun t_ k_ => XS.lload X70.here hx rfl (hb hby at_259) rfl k_) ?_
        show Go p.tables e below G (T70.setTop (mkF m 261 #[lv q0, sd, lv q1, sd, lv q2, sd, lv q3, sd, iv p4, iv p5, lv b', sd, iv (((p5.toUInt32 >>> ((1 : Int32) &&& 31).toUInt32).toInt32) &&& (3 : Int32)), lv c', sd, iv (((p5.toUInt32 >>> ((3 : Int32) &&& 31).toUInt32).toInt32) &&& (3 : Int32)), lv d', sd, iv cap, iv r0', iv r1', iv r2', iv r3', rv b48, iv (if m0 q0 = (-1 : Int32) then (1 : Int32) else (0 : Int32)), iv (if m55 b' = (-1 : Int32) then (1 : Int32) else (0 : Int32)), iv (if m60 c' = (-1 : Int32) then (1 : Int32) else (0 : Int32)), iv (if m65 q0 = (-1 : Int32) then (1 : Int32) else (0 : Int32)), iv eB, iv eC, iv r0', iv rB, un, un, un, un] [(.long b'), (.long c')]))
        refine Go.stp (fun t_ k_ => XS.lcmp X70.here hx rfl (hb hby at_261) rfl k_) ?_
        show Go p.tables e below G (T70.setTop (mkF m 262 #[lv q0, sd, lv q1, sd, lv q2, sd, lv q3, sd, iv p4, iv p5, lv b', sd, iv (((p5.toUInt32 >>> ((1 : Int32) &&& 31).toUInt32).toInt32) &&& (3 : Int32)), lv c', sd, iv (((p5.toUInt32 >>> ((3 : Int32) &&& 31).toUInt32).toInt32) &&& (3 : Int32)), lv d', sd, iv cap, iv r0', iv r1', iv r2', iv r3', rv b48, iv (if m0 q0 = (-1 : Int32) then (1 : Int32) else (0 : Int32)), iv (if m55 b' = (-1 : Int32) then (1 : Int32) else (0 : Int32)), iv (if m60 c' = (-1 : Int32) then (1 : Int32) else (0 : Int32)), iv (if m65 q0 = (-1 : Int32) then (1 : Int32) else (0 : Int32)), iv eB, iv eC, iv r0', iv rB, un, un, un, un] [(.int (lcmpW c' b'))]))
        by_cases hc262 : c' = b'
        · refine Go.stp (fun t_ k_ => XS.ifNo X70.here hx rfl (hb hby at_262) rfl ((if0 _ _).trans (teq ((lw_eq c' b').mpr hc262)).2) k_) ?_
          show Go p.tables e below G (T70.setTop (mkF m 265 #[lv q0, sd, lv q1, sd, lv q2, sd, lv q3, sd, iv p4, iv p5, lv b', sd, iv (((p5.toUInt32 >>> ((1 : Int32) &&& 31).toUInt32).toInt32) &&& (3 : Int32)), lv c', sd, iv (((p5.toUInt32 >>> ((3 : Int32) &&& 31).toUInt32).toInt32) &&& (3 : Int32)), lv d', sd, iv cap, iv r0', iv r1', iv r2', iv r3', rv b48, iv (if m0 q0 = (-1 : Int32) then (1 : Int32) else (0 : Int32)), iv (if m55 b' = (-1 : Int32) then (1 : Int32) else (0 : Int32)), iv (if m60 c' = (-1 : Int32) then (1 : Int32) else (0 : Int32)), iv (if m65 q0 = (-1 : Int32) then (1 : Int32) else (0 : Int32)), iv eB, iv eC, iv r0', iv rB, un, un, un, un] []))
          refine Go.stp (fun t_ k_ => XS.iload X70.here hx rfl (hb hby at_265) rfl k_) ?_
          show Go p.tables e below G (T70.setTop (mkF m 267 #[lv q0, sd, lv q1, sd, lv q2, sd, lv q3, sd, iv p4, iv p5, lv b', sd, iv (((p5.toUInt32 >>> ((1 : Int32) &&& 31).toUInt32).toInt32) &&& (3 : Int32)), lv c', sd, iv (((p5.toUInt32 >>> ((3 : Int32) &&& 31).toUInt32).toInt32) &&& (3 : Int32)), lv d', sd, iv cap, iv r0', iv r1', iv r2', iv r3', rv b48, iv (if m0 q0 = (-1 : Int32) then (1 : Int32) else (0 : Int32)), iv (if m55 b' = (-1 : Int32) then (1 : Int32) else (0 : Int32)), iv (if m60 c' = (-1 : Int32) then (1 : Int32) else (0 : Int32)), iv (if m65 q0 = (-1 : Int32) then (1 : Int32) else (0 : Int32)), iv eB, iv eC, iv r0', iv rB, un, un, un, un] [(.int rB)]))
          refine Go.stp (fun t_ k_ => XS.goto X70.here hx rfl (pc0 := 267) (pc' := 272) rfl (hb hby at_267) (by decide) (by decide) k_) ?_
          show Go p.tables e below G (T70.setTop (mkF m 272 #[lv q0, sd, lv q1, sd, lv q2, sd, lv q3, sd, iv p4, iv p5, lv b', sd, iv (((p5.toUInt32 >>> ((1 : Int32) &&& 31).toUInt32).toInt32) &&& (3 : Int32)), lv c', sd, iv (((p5.toUInt32 >>> ((3 : Int32) &&& 31).toUInt32).toInt32) &&& (3 : Int32)), lv d', sd, iv cap, iv r0', iv r1', iv r2', iv r3', rv b48, iv (if m0 q0 = (-1 : Int32) then (1 : Int32) else (0 : Int32)), iv (if m55 b' = (-1 : Int32) then (1 : Int32) else (0 : Int32)), iv (if m60 c' = (-1 : Int32) then (1 : Int32) else (0 : Int32)), iv (if m65 q0 = (-1 : Int32) then (1 : Int32) else (0 : Int32)), iv eB, iv eC, iv r0', iv rB, un, un, un, un] [(.int rB)]))
          exact J78 _ (Or.inr (Or.inl ⟨hc249, hc262, rfl⟩))
        · refine Go.stp (fun t_ k_ => XS.ifYes X70.here hx rfl (pc0 := 262) (pc' := 270) rfl (hb hby at_262) rfl ((if0 _ _).trans (feq (fun q => hc262 ((lw_eq c' b').mp q))).2) (by decide) (by decide) k_) ?_
          show Go p.tables e below G (T70.setTop (mkF m 270 #[lv q0, sd, lv q1, sd, lv q2, sd, lv q3, sd, iv p4, iv p5, lv b', sd, iv (((p5.toUInt32 >>> ((1 : Int32) &&& 31).toUInt32).toInt32) &&& (3 : Int32)), lv c', sd, iv (((p5.toUInt32 >>> ((3 : Int32) &&& 31).toUInt32).toInt32) &&& (3 : Int32)), lv d', sd, iv cap, iv r0', iv r1', iv r2', iv r3', rv b48, iv (if m0 q0 = (-1 : Int32) then (1 : Int32) else (0 : Int32)), iv (if m55 b' = (-1 : Int32) then (1 : Int32) else (0 : Int32)), iv (if m60 c' = (-1 : Int32) then (1 : Int32) else (0 : Int32)), iv (if m65 q0 = (-1 : Int32) then (1 : Int32) else (0 : Int32)), iv eB, iv eC, iv r0', iv rB, un, un, un, un] []))
          refine Go.stp (fun t_ k_ => XS.iload X70.here hx rfl (hb hby at_270) rfl k_) ?_
          show Go p.tables e below G (T70.setTop (mkF m 272 #[lv q0, sd, lv q1, sd, lv q2, sd, lv q3, sd, iv p4, iv p5, lv b', sd, iv (((p5.toUInt32 >>> ((1 : Int32) &&& 31).toUInt32).toInt32) &&& (3 : Int32)), lv c', sd, iv (((p5.toUInt32 >>> ((3 : Int32) &&& 31).toUInt32).toInt32) &&& (3 : Int32)), lv d', sd, iv cap, iv r0', iv r1', iv r2', iv r3', rv b48, iv (if m0 q0 = (-1 : Int32) then (1 : Int32) else (0 : Int32)), iv (if m55 b' = (-1 : Int32) then (1 : Int32) else (0 : Int32)), iv (if m60 c' = (-1 : Int32) then (1 : Int32) else (0 : Int32)), iv (if m65 q0 = (-1 : Int32) then (1 : Int32) else (0 : Int32)), iv eB, iv eC, iv r0', iv rB, un, un, un, un] [(.int r2')]))
          exact J78 _ (Or.inr (Or.inr ⟨hc249, hc262, rfl⟩))
    intro rC hj272
    refine Go.stp (fun t_ k_ => XS.istore X70.here hx rfl (hb hby at_272) rfl (l' := #[lv q0, sd, lv q1, sd, lv q2, sd, lv q3, sd, iv p4, iv p5, lv b', sd, iv (((p5.toUInt32 >>> ((1 : Int32) &&& 31).toUInt32).toInt32) &&& (3 : Int32)), lv c', sd, iv (((p5.toUInt32 >>> ((3 : Int32) &&& 31).toUInt32).toInt32) &&& (3 : Int32)), lv d', sd, iv cap, iv r0', iv r1', iv r2', iv r3', rv b48, iv (if m0 q0 = (-1 : Int32) then (1 : Int32) else (0 : Int32)), iv (if m55 b' = (-1 : Int32) then (1 : Int32) else (0 : Int32)), iv (if m60 c' = (-1 : Int32) then (1 : Int32) else (0 : Int32)), iv (if m65 q0 = (-1 : Int32) then (1 : Int32) else (0 : Int32)), iv eB, iv eC, iv r0', iv rB, iv rC, un, un, un]) rfl k_) ?_
    show Go p.tables e below G (T70.setTop (mkF m 274 #[lv q0, sd, lv q1, sd, lv q2, sd, lv q3, sd, iv p4, iv p5, lv b', sd, iv (((p5.toUInt32 >>> ((1 : Int32) &&& 31).toUInt32).toInt32) &&& (3 : Int32)), lv c', sd, iv (((p5.toUInt32 >>> ((3 : Int32) &&& 31).toUInt32).toInt32) &&& (3 : Int32)), lv d', sd, iv cap, iv r0', iv r1', iv r2', iv r3', rv b48, iv (if m0 q0 = (-1 : Int32) then (1 : Int32) else (0 : Int32)), iv (if m55 b' = (-1 : Int32) then (1 : Int32) else (0 : Int32)), iv (if m60 c' = (-1 : Int32) then (1 : Int32) else (0 : Int32)), iv (if m65 q0 = (-1 : Int32) then (1 : Int32) else (0 : Int32)), iv eB, iv eC, iv r0', iv rB, iv rC, un, un, un] []))
    refine Go.stp (fun t_ k_ => XS.lload X70.here hx rfl (hb hby at_274) rfl k_) ?_
    show Go p.tables e below G (T70.setTop (mkF m 276 #[lv q0, sd, lv q1, sd, lv q2, sd, lv q3, sd, iv p4, iv p5, lv b', sd, iv (((p5.toUInt32 >>> ((1 : Int32) &&& 31).toUInt32).toInt32) &&& (3 : Int32)), lv c', sd, iv (((p5.toUInt32 >>> ((3 : Int32) &&& 31).toUInt32).toInt32) &&& (3 : Int32)), lv d', sd, iv cap, iv r0', iv r1', iv r2', iv r3', rv b48, iv (if m0 q0 = (-1 : Int32) then (1 : Int32) else (0 : Int32)), iv (if m55 b' = (-1 : Int32) then (1 : Int32) else (0 : Int32)), iv (if m60 c' = (-1 : Int32) then (1 : Int32) else (0 : Int32)), iv (if m65 q0 = (-1 : Int32) then (1 : Int32) else (0 : Int32)), iv eB, iv eC, iv r0', iv rB, iv rC, un, un, un] [(.long d')]))
    refine Go.stp (fun t_ k_ => XS.lloadN X70.here hx rfl (hb hby at_276) rfl k_) ?_
    show Go p.tables e below G (T70.setTop (mkF m 277 #[lv q0, sd, lv q1, sd, lv q2, sd, lv q3, sd, iv p4, iv p5, lv b', sd, iv (((p5.toUInt32 >>> ((1 : Int32) &&& 31).toUInt32).toInt32) &&& (3 : Int32)), lv c', sd, iv (((p5.toUInt32 >>> ((3 : Int32) &&& 31).toUInt32).toInt32) &&& (3 : Int32)), lv d', sd, iv cap, iv r0', iv r1', iv r2', iv r3', rv b48, iv (if m0 q0 = (-1 : Int32) then (1 : Int32) else (0 : Int32)), iv (if m55 b' = (-1 : Int32) then (1 : Int32) else (0 : Int32)), iv (if m60 c' = (-1 : Int32) then (1 : Int32) else (0 : Int32)), iv (if m65 q0 = (-1 : Int32) then (1 : Int32) else (0 : Int32)), iv eB, iv eC, iv r0', iv rB, iv rC, un, un, un] [(.long q0), (.long d')]))
    refine Go.stp (fun t_ k_ => XS.lcmp X70.here hx rfl (hb hby at_277) rfl k_) ?_
    show Go p.tables e below G (T70.setTop (mkF m 278 #[lv q0, sd, lv q1, sd, lv q2, sd, lv q3, sd, iv p4, iv p5, lv b', sd, iv (((p5.toUInt32 >>> ((1 : Int32) &&& 31).toUInt32).toInt32) &&& (3 : Int32)), lv c', sd, iv (((p5.toUInt32 >>> ((3 : Int32) &&& 31).toUInt32).toInt32) &&& (3 : Int32)), lv d', sd, iv cap, iv r0', iv r1', iv r2', iv r3', rv b48, iv (if m0 q0 = (-1 : Int32) then (1 : Int32) else (0 : Int32)), iv (if m55 b' = (-1 : Int32) then (1 : Int32) else (0 : Int32)), iv (if m60 c' = (-1 : Int32) then (1 : Int32) else (0 : Int32)), iv (if m65 q0 = (-1 : Int32) then (1 : Int32) else (0 : Int32)), iv eB, iv eC, iv r0', iv rB, iv rC, un, un, un] [(.int (lcmpW d' q0))]))
    suffices J79 : ∀ (rD : Int32), (((d' = q0) ∧ rD = r0') ∨ (¬ (d' = q0) ∧ (d' = b') ∧ rD = rB) ∨ (¬ (d' = q0) ∧ ¬ (d' = b') ∧ (d' = c') ∧ rD = rC) ∨ (¬ (d' = q0) ∧ ¬ (d' = b') ∧ ¬ (d' = c') ∧ rD = (-1 : Int32))) → Go p.tables e below G (T70.setTop (mkF m 313 #[lv q0, sd, lv q1, sd, lv q2, sd, lv q3, sd, iv p4, iv p5, lv b', sd, iv (((p5.toUInt32 >>> ((1 : Int32) &&& 31).toUInt32).toInt32) &&& (3 : Int32)), lv c', sd, iv (((p5.toUInt32 >>> ((3 : Int32) &&& 31).toUInt32).toInt32) &&& (3 : Int32)), lv d', sd, iv cap, iv r0', iv r1', iv r2', iv r3', rv b48, iv (if m0 q0 = (-1 : Int32) then (1 : Int32) else (0 : Int32)), iv (if m55 b' = (-1 : Int32) then (1 : Int32) else (0 : Int32)), iv (if m60 c' = (-1 : Int32) then (1 : Int32) else (0 : Int32)), iv (if m65 q0 = (-1 : Int32) then (1 : Int32) else (0 : Int32)), iv eB, iv eC, iv r0', iv rB, iv rC, un, un, un] [(.int rD)])) by
      by_cases hc278 : d' = q0
      · refine Go.stp (fun t_ k_ => XS.ifNo X70.here hx rfl (hb hby at_278) rfl ((if0 _ _).trans (teq ((lw_eq d' q0).mpr hc278)).2) k_) ?_
        show Go p.tables e below G (T70.setTop (mkF m 281 #[lv q0, sd, lv q1, sd, lv q2, sd, lv q3, sd, iv p4, iv p5, lv b', sd, iv (((p5.toUInt32 >>> ((1 : Int32) &&& 31).toUInt32).toInt32) &&& (3 : Int32)), lv c', sd, iv (((p5.toUInt32 >>> ((3 : Int32) &&& 31).toUInt32).toInt32) &&& (3 : Int32)), lv d', sd, iv cap, iv r0', iv r1', iv r2', iv r3', rv b48, iv (if m0 q0 = (-1 : Int32) then (1 : Int32) else (0 : Int32)), iv (if m55 b' = (-1 : Int32) then (1 : Int32) else (0 : Int32)), iv (if m60 c' = (-1 : Int32) then (1 : Int32) else (0 : Int32)), iv (if m65 q0 = (-1 : Int32) then (1 : Int32) else (0 : Int32)), iv eB, iv eC, iv r0', iv rB, iv rC, un, un, un] []))
        refine Go.stp (fun t_ k_ => XS.iload X70.here hx rfl (hb hby at_281) rfl k_) ?_
        show Go p.tables e below G (T70.setTop (mkF m 283 #[lv q0, sd, lv q1, sd, lv q2, sd, lv q3, sd, iv p4, iv p5, lv b', sd, iv (((p5.toUInt32 >>> ((1 : Int32) &&& 31).toUInt32).toInt32) &&& (3 : Int32)), lv c', sd, iv (((p5.toUInt32 >>> ((3 : Int32) &&& 31).toUInt32).toInt32) &&& (3 : Int32)), lv d', sd, iv cap, iv r0', iv r1', iv r2', iv r3', rv b48, iv (if m0 q0 = (-1 : Int32) then (1 : Int32) else (0 : Int32)), iv (if m55 b' = (-1 : Int32) then (1 : Int32) else (0 : Int32)), iv (if m60 c' = (-1 : Int32) then (1 : Int32) else (0 : Int32)), iv (if m65 q0 = (-1 : Int32) then (1 : Int32) else (0 : Int32)), iv eB, iv eC, iv r0', iv rB, iv rC, un, un, un] [(.int r0')]))
        refine Go.stp (fun t_ k_ => XS.goto X70.here hx rfl (pc0 := 283) (pc' := 313) rfl (hb hby at_283) (by decide) (by decide) k_) ?_
        show Go p.tables e below G (T70.setTop (mkF m 313 #[lv q0, sd, lv q1, sd, lv q2, sd, lv q3, sd, iv p4, iv p5, lv b', sd, iv (((p5.toUInt32 >>> ((1 : Int32) &&& 31).toUInt32).toInt32) &&& (3 : Int32)), lv c', sd, iv (((p5.toUInt32 >>> ((3 : Int32) &&& 31).toUInt32).toInt32) &&& (3 : Int32)), lv d', sd, iv cap, iv r0', iv r1', iv r2', iv r3', rv b48, iv (if m0 q0 = (-1 : Int32) then (1 : Int32) else (0 : Int32)), iv (if m55 b' = (-1 : Int32) then (1 : Int32) else (0 : Int32)), iv (if m60 c' = (-1 : Int32) then (1 : Int32) else (0 : Int32)), iv (if m65 q0 = (-1 : Int32) then (1 : Int32) else (0 : Int32)), iv eB, iv eC, iv r0', iv rB, iv rC, un, un, un] [(.int r0')]))
        exact J79 _ (Or.inl ⟨hc278, rfl⟩)
      · refine Go.stp (fun t_ k_ => XS.ifYes X70.here hx rfl (pc0 := 278) (pc' := 286) rfl (hb hby at_278) rfl ((if0 _ _).trans (feq (fun q => hc278 ((lw_eq d' q0).mp q))).2) (by decide) (by decide) k_) ?_
        show Go p.tables e below G (T70.setTop (mkF m 286 #[lv q0, sd, lv q1, sd, lv q2, sd, lv q3, sd, iv p4, iv p5, lv b', sd, iv (((p5.toUInt32 >>> ((1 : Int32) &&& 31).toUInt32).toInt32) &&& (3 : Int32)), lv c', sd, iv (((p5.toUInt32 >>> ((3 : Int32) &&& 31).toUInt32).toInt32) &&& (3 : Int32)), lv d', sd, iv cap, iv r0', iv r1', iv r2', iv r3', rv b48, iv (if m0 q0 = (-1 : Int32) then (1 : Int32) else (0 : Int32)), iv (if m55 b' = (-1 : Int32) then (1 : Int32) else (0 : Int32)), iv (if m60 c' = (-1 : Int32) then (1 : Int32) else (0 : Int32)), iv (if m65 q0 = (-1 : Int32) then (1 : Int32) else (0 : Int32)), iv eB, iv eC, iv r0', iv rB, iv rC, un, un, un] []))
        refine Go.stp (fun t_ k_ => XS.lload X70.here hx rfl (hb hby at_286) rfl k_) ?_
        show Go p.tables e below G (T70.setTop (mkF m 288 #[lv q0, sd, lv q1, sd, lv q2, sd, lv q3, sd, iv p4, iv p5, lv b', sd, iv (((p5.toUInt32 >>> ((1 : Int32) &&& 31).toUInt32).toInt32) &&& (3 : Int32)), lv c', sd, iv (((p5.toUInt32 >>> ((3 : Int32) &&& 31).toUInt32).toInt32) &&& (3 : Int32)), lv d', sd, iv cap, iv r0', iv r1', iv r2', iv r3', rv b48, iv (if m0 q0 = (-1 : Int32) then (1 : Int32) else (0 : Int32)), iv (if m55 b' = (-1 : Int32) then (1 : Int32) else (0 : Int32)), iv (if m60 c' = (-1 : Int32) then (1 : Int32) else (0 : Int32)), iv (if m65 q0 = (-1 : Int32) then (1 : Int32) else (0 : Int32)), iv eB, iv eC, iv r0', iv rB, iv rC, un, un, un] [(.long d')]))
        refine Go.stp (fun t_ k_ => XS.lload X70.here hx rfl (hb hby at_288) rfl k_) ?_
        show Go p.tables e below G (T70.setTop (mkF m 290 #[lv q0, sd, lv q1, sd, lv q2, sd, lv q3, sd, iv p4, iv p5, lv b', sd, iv (((p5.toUInt32 >>> ((1 : Int32) &&& 31).toUInt32).toInt32) &&& (3 : Int32)), lv c', sd, iv (((p5.toUInt32 >>> ((3 : Int32) &&& 31).toUInt32).toInt32) &&& (3 : Int32)), lv d', sd, iv cap, iv r0', iv r1', iv r2', iv r3', rv b48, iv (if m0 q0 = (-1 : Int32) then (1 : Int32) else (0 : Int32)), iv (if m55 b' = (-1 : Int32) then (1 : Int32) else (0 : Int32)), iv (if m60 c' = (-1 : Int32) then (1 : Int32) else (0 : Int32)), iv (if m65 q0 = (-1 : Int32) then (1 : Int32) else (0 : Int32)), iv eB, iv eC, iv r0', iv rB, iv rC, un, un, un] [(.long b'), (.long d')]))
        refine Go.stp (fun t_ k_ => XS.lcmp X70.here hx rfl (hb hby at_290) rfl k_) ?_
        show Go p.tables e below G (T70.setTop (mkF m 291 #[lv q0, sd, lv q1, sd, lv q2, sd, lv q3, sd, iv p4, iv p5, lv b', sd, iv (((p5.toUInt32 >>> ((1 : Int32) &&& 31).toUInt32).toInt32) &&& (3 : Int32)), lv c', sd, iv (((p5.toUInt32 >>> ((3 : Int32) &&& 31).toUInt32).toInt32) &&& (3 : Int32)), lv d', sd, iv cap, iv r0', iv r1', iv r2', iv r3', rv b48, iv (if m0 q0 = (-1 : Int32) then (1 : Int32) else (0 : Int32)), iv (if m55 b' = (-1 : Int32) then (1 : Int32) else (0 : Int32)), iv (if m60 c' = (-1 : Int32) then (1 : Int32) else (0 : Int32)), iv (if m65 q0 = (-1 : Int32) then (1 : Int32) else (0 : Int32)), iv eB, iv eC, iv r0', iv rB, iv rC, un, un, un] [(.int (lcmpW d' b'))]))
        by_cases hc291 : d' = b'
        · refine Go.stp (fun t_ k_ => XS.ifNo X70.here hx rfl (hb hby at_291) rfl ((if0 _ _).trans (teq ((lw_eq d' b').mpr hc291)).2) k_) ?_
          show Go p.tables e below G (T70.setTop (mkF m 294 #[lv q0, sd, lv q1, sd, lv q2, sd, lv q3, sd, iv p4, iv p5, lv b', sd, iv (((p5.toUInt32 >>> ((1 : Int32) &&& 31).toUInt32).toInt32) &&& (3 : Int32)), lv c', sd, iv (((p5.toUInt32 >>> ((3 : Int32) &&& 31).toUInt32).toInt32) &&& (3 : Int32)), lv d', sd, iv cap, iv r0', iv r1', iv r2', iv r3', rv b48, iv (if m0 q0 = (-1 : Int32) then (1 : Int32) else (0 : Int32)), iv (if m55 b' = (-1 : Int32) then (1 : Int32) else (0 : Int32)), iv (if m60 c' = (-1 : Int32) then (1 : Int32) else (0 : Int32)), iv (if m65 q0 = (-1 : Int32) then (1 : Int32) else (0 : Int32)), iv eB, iv eC, iv r0', iv rB, iv rC, un, un, un] []))
          refine Go.stp (fun t_ k_ => XS.iload X70.here hx rfl (hb hby at_294) rfl k_) ?_
          show Go p.tables e below G (T70.setTop (mkF m 296 #[lv q0, sd, lv q1, sd, lv q2, sd, lv q3, sd, iv p4, iv p5, lv b', sd, iv (((p5.toUInt32 >>> ((1 : Int32) &&& 31).toUInt32).toInt32) &&& (3 : Int32)), lv c', sd, iv (((p5.toUInt32 >>> ((3 : Int32) &&& 31).toUInt32).toInt32) &&& (3 : Int32)), lv d', sd, iv cap, iv r0', iv r1', iv r2', iv r3', rv b48, iv (if m0 q0 = (-1 : Int32) then (1 : Int32) else (0 : Int32)), iv (if m55 b' = (-1 : Int32) then (1 : Int32) else (0 : Int32)), iv (if m60 c' = (-1 : Int32) then (1 : Int32) else (0 : Int32)), iv (if m65 q0 = (-1 : Int32) then (1 : Int32) else (0 : Int32)), iv eB, iv eC, iv r0', iv rB, iv rC, un, un, un] [(.int rB)]))
          refine Go.stp (fun t_ k_ => XS.goto X70.here hx rfl (pc0 := 296) (pc' := 313) rfl (hb hby at_296) (by decide) (by decide) k_) ?_
          show Go p.tables e below G (T70.setTop (mkF m 313 #[lv q0, sd, lv q1, sd, lv q2, sd, lv q3, sd, iv p4, iv p5, lv b', sd, iv (((p5.toUInt32 >>> ((1 : Int32) &&& 31).toUInt32).toInt32) &&& (3 : Int32)), lv c', sd, iv (((p5.toUInt32 >>> ((3 : Int32) &&& 31).toUInt32).toInt32) &&& (3 : Int32)), lv d', sd, iv cap, iv r0', iv r1', iv r2', iv r3', rv b48, iv (if m0 q0 = (-1 : Int32) then (1 : Int32) else (0 : Int32)), iv (if m55 b' = (-1 : Int32) then (1 : Int32) else (0 : Int32)), iv (if m60 c' = (-1 : Int32) then (1 : Int32) else (0 : Int32)), iv (if m65 q0 = (-1 : Int32) then (1 : Int32) else (0 : Int32)), iv eB, iv eC, iv r0', iv rB, iv rC, un, un, un] [(.int rB)]))
          exact J79 _ (Or.inr (Or.inl ⟨hc278, hc291, rfl⟩))
        · refine Go.stp (fun t_ k_ => XS.ifYes X70.here hx rfl (pc0 := 291) (pc' := 299) rfl (hb hby at_291) rfl ((if0 _ _).trans (feq (fun q => hc291 ((lw_eq d' b').mp q))).2) (by decide) (by decide) k_) ?_
          show Go p.tables e below G (T70.setTop (mkF m 299 #[lv q0, sd, lv q1, sd, lv q2, sd, lv q3, sd, iv p4, iv p5, lv b', sd, iv (((p5.toUInt32 >>> ((1 : Int32) &&& 31).toUInt32).toInt32) &&& (3 : Int32)), lv c', sd, iv (((p5.toUInt32 >>> ((3 : Int32) &&& 31).toUInt32).toInt32) &&& (3 : Int32)), lv d', sd, iv cap, iv r0', iv r1', iv r2', iv r3', rv b48, iv (if m0 q0 = (-1 : Int32) then (1 : Int32) else (0 : Int32)), iv (if m55 b' = (-1 : Int32) then (1 : Int32) else (0 : Int32)), iv (if m60 c' = (-1 : Int32) then (1 : Int32) else (0 : Int32)), iv (if m65 q0 = (-1 : Int32) then (1 : Int32) else (0 : Int32)), iv eB, iv eC, iv r0', iv rB, iv rC, un, un, un] []))
          refine Go.stp (fun t_ k_ => XS.lload X70.here hx rfl (hb hby at_299) rfl k_) ?_
          show Go p.tables e below G (T70.setTop (mkF m 301 #[lv q0, sd, lv q1, sd, lv q2, sd, lv q3, sd, iv p4, iv p5, lv b', sd, iv (((p5.toUInt32 >>> ((1 : Int32) &&& 31).toUInt32).toInt32) &&& (3 : Int32)), lv c', sd, iv (((p5.toUInt32 >>> ((3 : Int32) &&& 31).toUInt32).toInt32) &&& (3 : Int32)), lv d', sd, iv cap, iv r0', iv r1', iv r2', iv r3', rv b48, iv (if m0 q0 = (-1 : Int32) then (1 : Int32) else (0 : Int32)), iv (if m55 b' = (-1 : Int32) then (1 : Int32) else (0 : Int32)), iv (if m60 c' = (-1 : Int32) then (1 : Int32) else (0 : Int32)), iv (if m65 q0 = (-1 : Int32) then (1 : Int32) else (0 : Int32)), iv eB, iv eC, iv r0', iv rB, iv rC, un, un, un] [(.long d')]))
          refine Go.stp (fun t_ k_ => XS.lload X70.here hx rfl (hb hby at_301) rfl k_) ?_
          show Go p.tables e below G (T70.setTop (mkF m 303 #[lv q0, sd, lv q1, sd, lv q2, sd, lv q3, sd, iv p4, iv p5, lv b', sd, iv (((p5.toUInt32 >>> ((1 : Int32) &&& 31).toUInt32).toInt32) &&& (3 : Int32)), lv c', sd, iv (((p5.toUInt32 >>> ((3 : Int32) &&& 31).toUInt32).toInt32) &&& (3 : Int32)), lv d', sd, iv cap, iv r0', iv r1', iv r2', iv r3', rv b48, iv (if m0 q0 = (-1 : Int32) then (1 : Int32) else (0 : Int32)), iv (if m55 b' = (-1 : Int32) then (1 : Int32) else (0 : Int32)), iv (if m60 c' = (-1 : Int32) then (1 : Int32) else (0 : Int32)), iv (if m65 q0 = (-1 : Int32) then (1 : Int32) else (0 : Int32)), iv eB, iv eC, iv r0', iv rB, iv rC, un, un, un] [(.long c'), (.long d')]))
          refine Go.stp (fun t_ k_ => XS.lcmp X70.here hx rfl (hb hby at_303) rfl k_) ?_
          show Go p.tables e below G (T70.setTop (mkF m 304 #[lv q0, sd, lv q1, sd, lv q2, sd, lv q3, sd, iv p4, iv p5, lv b', sd, iv (((p5.toUInt32 >>> ((1 : Int32) &&& 31).toUInt32).toInt32) &&& (3 : Int32)), lv c', sd, iv (((p5.toUInt32 >>> ((3 : Int32) &&& 31).toUInt32).toInt32) &&& (3 : Int32)), lv d', sd, iv cap, iv r0', iv r1', iv r2', iv r3', rv b48, iv (if m0 q0 = (-1 : Int32) then (1 : Int32) else (0 : Int32)), iv (if m55 b' = (-1 : Int32) then (1 : Int32) else (0 : Int32)), iv (if m60 c' = (-1 : Int32) then (1 : Int32) else (0 : Int32)), iv (if m65 q0 = (-1 : Int32) then (1 : Int32) else (0 : Int32)), iv eB, iv eC, iv r0', iv rB, iv rC, un, un, un] [(.int (lcmpW d' c'))]))
          by_cases hc304 : d' = c'
          · refine Go.stp (fun t_ k_ => XS.ifNo X70.here hx rfl (hb hby at_304) rfl ((if0 _ _).trans (teq ((lw_eq d' c').mpr hc304)).2) k_) ?_
            show Go p.tables e below G (T70.setTop (mkF m 307 #[lv q0, sd, lv q1, sd, lv q2, sd, lv q3, sd, iv p4, iv p5, lv b', sd, iv (((p5.toUInt32 >>> ((1 : Int32) &&& 31).toUInt32).toInt32) &&& (3 : Int32)), lv c', sd, iv (((p5.toUInt32 >>> ((3 : Int32) &&& 31).toUInt32).toInt32) &&& (3 : Int32)), lv d', sd, iv cap, iv r0', iv r1', iv r2', iv r3', rv b48, iv (if m0 q0 = (-1 : Int32) then (1 : Int32) else (0 : Int32)), iv (if m55 b' = (-1 : Int32) then (1 : Int32) else (0 : Int32)), iv (if m60 c' = (-1 : Int32) then (1 : Int32) else (0 : Int32)), iv (if m65 q0 = (-1 : Int32) then (1 : Int32) else (0 : Int32)), iv eB, iv eC, iv r0', iv rB, iv rC, un, un, un] []))
            refine Go.stp (fun t_ k_ => XS.iload X70.here hx rfl (hb hby at_307) rfl k_) ?_
            show Go p.tables e below G (T70.setTop (mkF m 309 #[lv q0, sd, lv q1, sd, lv q2, sd, lv q3, sd, iv p4, iv p5, lv b', sd, iv (((p5.toUInt32 >>> ((1 : Int32) &&& 31).toUInt32).toInt32) &&& (3 : Int32)), lv c', sd, iv (((p5.toUInt32 >>> ((3 : Int32) &&& 31).toUInt32).toInt32) &&& (3 : Int32)), lv d', sd, iv cap, iv r0', iv r1', iv r2', iv r3', rv b48, iv (if m0 q0 = (-1 : Int32) then (1 : Int32) else (0 : Int32)), iv (if m55 b' = (-1 : Int32) then (1 : Int32) else (0 : Int32)), iv (if m60 c' = (-1 : Int32) then (1 : Int32) else (0 : Int32)), iv (if m65 q0 = (-1 : Int32) then (1 : Int32) else (0 : Int32)), iv eB, iv eC, iv r0', iv rB, iv rC, un, un, un] [(.int rC)]))
            refine Go.stp (fun t_ k_ => XS.goto X70.here hx rfl (pc0 := 309) (pc' := 313) rfl (hb hby at_309) (by decide) (by decide) k_) ?_
            show Go p.tables e below G (T70.setTop (mkF m 313 #[lv q0, sd, lv q1, sd, lv q2, sd, lv q3, sd, iv p4, iv p5, lv b', sd, iv (((p5.toUInt32 >>> ((1 : Int32) &&& 31).toUInt32).toInt32) &&& (3 : Int32)), lv c', sd, iv (((p5.toUInt32 >>> ((3 : Int32) &&& 31).toUInt32).toInt32) &&& (3 : Int32)), lv d', sd, iv cap, iv r0', iv r1', iv r2', iv r3', rv b48, iv (if m0 q0 = (-1 : Int32) then (1 : Int32) else (0 : Int32)), iv (if m55 b' = (-1 : Int32) then (1 : Int32) else (0 : Int32)), iv (if m60 c' = (-1 : Int32) then (1 : Int32) else (0 : Int32)), iv (if m65 q0 = (-1 : Int32) then (1 : Int32) else (0 : Int32)), iv eB, iv eC, iv r0', iv rB, iv rC, un, un, un] [(.int rC)]))
            exact J79 _ (Or.inr (Or.inr (Or.inl ⟨hc278, hc291, hc304, rfl⟩)))
          · refine Go.stp (fun t_ k_ => XS.ifYes X70.here hx rfl (pc0 := 304) (pc' := 312) rfl (hb hby at_304) rfl ((if0 _ _).trans (feq (fun q => hc304 ((lw_eq d' c').mp q))).2) (by decide) (by decide) k_) ?_
            show Go p.tables e below G (T70.setTop (mkF m 312 #[lv q0, sd, lv q1, sd, lv q2, sd, lv q3, sd, iv p4, iv p5, lv b', sd, iv (((p5.toUInt32 >>> ((1 : Int32) &&& 31).toUInt32).toInt32) &&& (3 : Int32)), lv c', sd, iv (((p5.toUInt32 >>> ((3 : Int32) &&& 31).toUInt32).toInt32) &&& (3 : Int32)), lv d', sd, iv cap, iv r0', iv r1', iv r2', iv r3', rv b48, iv (if m0 q0 = (-1 : Int32) then (1 : Int32) else (0 : Int32)), iv (if m55 b' = (-1 : Int32) then (1 : Int32) else (0 : Int32)), iv (if m60 c' = (-1 : Int32) then (1 : Int32) else (0 : Int32)), iv (if m65 q0 = (-1 : Int32) then (1 : Int32) else (0 : Int32)), iv eB, iv eC, iv r0', iv rB, iv rC, un, un, un] []))
            refine Go.stp (fun t_ k_ => XS.iconst X70.here hx rfl (hb hby at_312) k_) ?_
            show Go p.tables e below G (T70.setTop (mkF m 313 #[lv q0, sd, lv q1, sd, lv q2, sd, lv q3, sd, iv p4, iv p5, lv b', sd, iv (((p5.toUInt32 >>> ((1 : Int32) &&& 31).toUInt32).toInt32) &&& (3 : Int32)), lv c', sd, iv (((p5.toUInt32 >>> ((3 : Int32) &&& 31).toUInt32).toInt32) &&& (3 : Int32)), lv d', sd, iv cap, iv r0', iv r1', iv r2', iv r3', rv b48, iv (if m0 q0 = (-1 : Int32) then (1 : Int32) else (0 : Int32)), iv (if m55 b' = (-1 : Int32) then (1 : Int32) else (0 : Int32)), iv (if m60 c' = (-1 : Int32) then (1 : Int32) else (0 : Int32)), iv (if m65 q0 = (-1 : Int32) then (1 : Int32) else (0 : Int32)), iv eB, iv eC, iv r0', iv rB, iv rC, un, un, un] [(.int (-1 : Int32))]))
            exact J79 _ (Or.inr (Or.inr (Or.inr ⟨hc278, hc291, hc304, rfl⟩)))
    intro rD hj313
    refine Go.stp (fun t_ k_ => XS.istore X70.here hx rfl (hb hby at_313) rfl (l' := #[lv q0, sd, lv q1, sd, lv q2, sd, lv q3, sd, iv p4, iv p5, lv b', sd, iv (((p5.toUInt32 >>> ((1 : Int32) &&& 31).toUInt32).toInt32) &&& (3 : Int32)), lv c', sd, iv (((p5.toUInt32 >>> ((3 : Int32) &&& 31).toUInt32).toInt32) &&& (3 : Int32)), lv d', sd, iv cap, iv r0', iv r1', iv r2', iv r3', rv b48, iv (if m0 q0 = (-1 : Int32) then (1 : Int32) else (0 : Int32)), iv (if m55 b' = (-1 : Int32) then (1 : Int32) else (0 : Int32)), iv (if m60 c' = (-1 : Int32) then (1 : Int32) else (0 : Int32)), iv (if m65 q0 = (-1 : Int32) then (1 : Int32) else (0 : Int32)), iv eB, iv eC, iv r0', iv rB, iv rC, iv rD, un, un]) rfl k_) ?_
    show Go p.tables e below G (T70.setTop (mkF m 315 #[lv q0, sd, lv q1, sd, lv q2, sd, lv q3, sd, iv p4, iv p5, lv b', sd, iv (((p5.toUInt32 >>> ((1 : Int32) &&& 31).toUInt32).toInt32) &&& (3 : Int32)), lv c', sd, iv (((p5.toUInt32 >>> ((3 : Int32) &&& 31).toUInt32).toInt32) &&& (3 : Int32)), lv d', sd, iv cap, iv r0', iv r1', iv r2', iv r3', rv b48, iv (if m0 q0 = (-1 : Int32) then (1 : Int32) else (0 : Int32)), iv (if m55 b' = (-1 : Int32) then (1 : Int32) else (0 : Int32)), iv (if m60 c' = (-1 : Int32) then (1 : Int32) else (0 : Int32)), iv (if m65 q0 = (-1 : Int32) then (1 : Int32) else (0 : Int32)), iv eB, iv eC, iv r0', iv rB, iv rC, iv rD, un, un] []))
    refine Go.stp (fun t_ k_ => XS.iload X70.here hx rfl (hb hby at_315) rfl k_) ?_
    show Go p.tables e below G (T70.setTop (mkF m 317 #[lv q0, sd, lv q1, sd, lv q2, sd, lv q3, sd, iv p4, iv p5, lv b', sd, iv (((p5.toUInt32 >>> ((1 : Int32) &&& 31).toUInt32).toInt32) &&& (3 : Int32)), lv c', sd, iv (((p5.toUInt32 >>> ((3 : Int32) &&& 31).toUInt32).toInt32) &&& (3 : Int32)), lv d', sd, iv cap, iv r0', iv r1', iv r2', iv r3', rv b48, iv (if m0 q0 = (-1 : Int32) then (1 : Int32) else (0 : Int32)), iv (if m55 b' = (-1 : Int32) then (1 : Int32) else (0 : Int32)), iv (if m60 c' = (-1 : Int32) then (1 : Int32) else (0 : Int32)), iv (if m65 q0 = (-1 : Int32) then (1 : Int32) else (0 : Int32)), iv eB, iv eC, iv r0', iv rB, iv rC, iv rD, un, un] [(.int (if m0 q0 = (-1 : Int32) then (1 : Int32) else (0 : Int32)))]))
    have hd317 : ¬ ((if m0 q0 = (-1 : Int32) then (1 : Int32) else (0 : Int32)) = (0 : Int32)) := (by rw [fn0]; decide)
    refine Go.stp (fun t_ k_ => XS.ifNo X70.here hx rfl (hb hby at_317) rfl ((if0 _ _).trans (feq hd317).1) k_) ?_
    show Go p.tables e below G (T70.setTop (mkF m 320 #[lv q0, sd, lv q1, sd, lv q2, sd, lv q3, sd, iv p4, iv p5, lv b', sd, iv (((p5.toUInt32 >>> ((1 : Int32) &&& 31).toUInt32).toInt32) &&& (3 : Int32)), lv c', sd, iv (((p5.toUInt32 >>> ((3 : Int32) &&& 31).toUInt32).toInt32) &&& (3 : Int32)), lv d', sd, iv cap, iv r0', iv r1', iv r2', iv r3', rv b48, iv (if m0 q0 = (-1 : Int32) then (1 : Int32) else (0 : Int32)), iv (if m55 b' = (-1 : Int32) then (1 : Int32) else (0 : Int32)), iv (if m60 c' = (-1 : Int32) then (1 : Int32) else (0 : Int32)), iv (if m65 q0 = (-1 : Int32) then (1 : Int32) else (0 : Int32)), iv eB, iv eC, iv r0', iv rB, iv rC, iv rD, un, un] []))
    refine Go.stp (fun t_ k_ => XS.iload X70.here hx rfl (hb hby at_320) rfl k_) ?_
    show Go p.tables e below G (T70.setTop (mkF m 322 #[lv q0, sd, lv q1, sd, lv q2, sd, lv q3, sd, iv p4, iv p5, lv b', sd, iv (((p5.toUInt32 >>> ((1 : Int32) &&& 31).toUInt32).toInt32) &&& (3 : Int32)), lv c', sd, iv (((p5.toUInt32 >>> ((3 : Int32) &&& 31).toUInt32).toInt32) &&& (3 : Int32)), lv d', sd, iv cap, iv r0', iv r1', iv r2', iv r3', rv b48, iv (if m0 q0 = (-1 : Int32) then (1 : Int32) else (0 : Int32)), iv (if m55 b' = (-1 : Int32) then (1 : Int32) else (0 : Int32)), iv (if m60 c' = (-1 : Int32) then (1 : Int32) else (0 : Int32)), iv (if m65 q0 = (-1 : Int32) then (1 : Int32) else (0 : Int32)), iv eB, iv eC, iv r0', iv rB, iv rC, iv rD, un, un] [(.int (if m55 b' = (-1 : Int32) then (1 : Int32) else (0 : Int32)))]))
    refine Go.stp (fun t_ k_ => XS.iload X70.here hx rfl (hb hby at_322) rfl k_) ?_
    show Go p.tables e below G (T70.setTop (mkF m 324 #[lv q0, sd, lv q1, sd, lv q2, sd, lv q3, sd, iv p4, iv p5, lv b', sd, iv (((p5.toUInt32 >>> ((1 : Int32) &&& 31).toUInt32).toInt32) &&& (3 : Int32)), lv c', sd, iv (((p5.toUInt32 >>> ((3 : Int32) &&& 31).toUInt32).toInt32) &&& (3 : Int32)), lv d', sd, iv cap, iv r0', iv r1', iv r2', iv r3', rv b48, iv (if m0 q0 = (-1 : Int32) then (1 : Int32) else (0 : Int32)), iv (if m55 b' = (-1 : Int32) then (1 : Int32) else (0 : Int32)), iv (if m60 c' = (-1 : Int32) then (1 : Int32) else (0 : Int32)), iv (if m65 q0 = (-1 : Int32) then (1 : Int32) else (0 : Int32)), iv eB, iv eC, iv r0', iv rB, iv rC, iv rD, un, un] [(.int eB), (.int (if m55 b' = (-1 : Int32) then (1 : Int32) else (0 : Int32)))]))
    have hd324 : (if m55 b' = (-1 : Int32) then (1 : Int32) else (0 : Int32)) = eB := (by rw [fn1]; rcases hj201 with ⟨g1, g2⟩ | ⟨g1, g2⟩ <;> simp [g1, g2])
    refine Go.stp (fun t_ k_ => XS.icmpNo X70.here hx rfl (hb hby at_324) rfl (teq hd324).2 k_) ?_
    show Go p.tables e below G (T70.setTop (mkF m 327 #[lv q0, sd, lv q1, sd, lv q2, sd, lv q3, sd, iv p4, iv p5, lv b', sd, iv (((p5.toUInt32 >>> ((1 : Int32) &&& 31).toUInt32).toInt32) &&& (3 : Int32)), lv c', sd, iv (((p5.toUInt32 >>> ((3 : Int32) &&& 31).toUInt32).toInt32) &&& (3 : Int32)), lv d', sd, iv cap, iv r0', iv r1', iv r2', iv r3', rv b48, iv (if m0 q0 = (-1 : Int32) then (1 : Int32) else (0 : Int32)), iv (if m55 b' = (-1 : Int32) then (1 : Int32) else (0 : Int32)), iv (if m60 c' = (-1 : Int32) then (1 : Int32) else (0 : Int32)), iv (if m65 q0 = (-1 : Int32) then (1 : Int32) else (0 : Int32)), iv eB, iv eC, iv r0', iv rB, iv rC, iv rD, un, un] []))
    refine Go.stp (fun t_ k_ => XS.iload X70.here hx rfl (hb hby at_327) rfl k_) ?_
    show Go p.tables e below G (T70.setTop (mkF m 329 #[lv q0, sd, lv q1, sd, lv q2, sd, lv q3, sd, iv p4, iv p5, lv b', sd, iv (((p5.toUInt32 >>> ((1 : Int32) &&& 31).toUInt32).toInt32) &&& (3 : Int32)), lv c', sd, iv (((p5.toUInt32 >>> ((3 : Int32) &&& 31).toUInt32).toInt32) &&& (3 : Int32)), lv d', sd, iv cap, iv r0', iv r1', iv r2', iv r3', rv b48, iv (if m0 q0 = (-1 : Int32) then (1 : Int32) else (0 : Int32)), iv (if m55 b' = (-1 : Int32) then (1 : Int32) else (0 : Int32)), iv (if m60 c' = (-1 : Int32) then (1 : Int32) else (0 : Int32)), iv (if m65 q0 = (-1 : Int32) then (1 : Int32) else (0 : Int32)), iv eB, iv eC, iv r0', iv rB, iv rC, iv rD, un, un] [(.int (if m60 c' = (-1 : Int32) then (1 : Int32) else (0 : Int32)))]))
    refine Go.stp (fun t_ k_ => XS.iload X70.here hx rfl (hb hby at_329) rfl k_) ?_
    show Go p.tables e below G (T70.setTop (mkF m 331 #[lv q0, sd, lv q1, sd, lv q2, sd, lv q3, sd, iv p4, iv p5, lv b', sd, iv (((p5.toUInt32 >>> ((1 : Int32) &&& 31).toUInt32).toInt32) &&& (3 : Int32)), lv c', sd, iv (((p5.toUInt32 >>> ((3 : Int32) &&& 31).toUInt32).toInt32) &&& (3 : Int32)), lv d', sd, iv cap, iv r0', iv r1', iv r2', iv r3', rv b48, iv (if m0 q0 = (-1 : Int32) then (1 : Int32) else (0 : Int32)), iv (if m55 b' = (-1 : Int32) then (1 : Int32) else (0 : Int32)), iv (if m60 c' = (-1 : Int32) then (1 : Int32) else (0 : Int32)), iv (if m65 q0 = (-1 : Int32) then (1 : Int32) else (0 : Int32)), iv eB, iv eC, iv r0', iv rB, iv rC, iv rD, un, un] [(.int eC), (.int (if m60 c' = (-1 : Int32) then (1 : Int32) else (0 : Int32)))]))
    have hd331 : (if m60 c' = (-1 : Int32) then (1 : Int32) else (0 : Int32)) = eC := (by rw [fn2]; rcases hj223 with ⟨g1, g2⟩ | ⟨g1, g2, g3⟩ | ⟨g1, g2, g3⟩ <;> simp [*])
    refine Go.stp (fun t_ k_ => XS.icmpNo X70.here hx rfl (hb hby at_331) rfl (teq hd331).2 k_) ?_
    show Go p.tables e below G (T70.setTop (mkF m 334 #[lv q0, sd, lv q1, sd, lv q2, sd, lv q3, sd, iv p4, iv p5, lv b', sd, iv (((p5.toUInt32 >>> ((1 : Int32) &&& 31).toUInt32).toInt32) &&& (3 : Int32)), lv c', sd, iv (((p5.toUInt32 >>> ((3 : Int32) &&& 31).toUInt32).toInt32) &&& (3 : Int32)), lv d', sd, iv cap, iv r0', iv r1', iv r2', iv r3', rv b48, iv (if m0 q0 = (-1 : Int32) then (1 : Int32) else (0 : Int32)), iv (if m55 b' = (-1 : Int32) then (1 : Int32) else (0 : Int32)), iv (if m60 c' = (-1 : Int32) then (1 : Int32) else (0 : Int32)), iv (if m65 q0 = (-1 : Int32) then (1 : Int32) else (0 : Int32)), iv eB, iv eC, iv r0', iv rB, iv rC, iv rD, un, un] []))
    refine Go.stp (fun t_ k_ => XS.iload X70.here hx rfl (hb hby at_334) rfl k_) ?_
    show Go p.tables e below G (T70.setTop (mkF m 336 #[lv q0, sd, lv q1, sd, lv q2, sd, lv q3, sd, iv p4, iv p5, lv b', sd, iv (((p5.toUInt32 >>> ((1 : Int32) &&& 31).toUInt32).toInt32) &&& (3 : Int32)), lv c', sd, iv (((p5.toUInt32 >>> ((3 : Int32) &&& 31).toUInt32).toInt32) &&& (3 : Int32)), lv d', sd, iv cap, iv r0', iv r1', iv r2', iv r3', rv b48, iv (if m0 q0 = (-1 : Int32) then (1 : Int32) else (0 : Int32)), iv (if m55 b' = (-1 : Int32) then (1 : Int32) else (0 : Int32)), iv (if m60 c' = (-1 : Int32) then (1 : Int32) else (0 : Int32)), iv (if m65 q0 = (-1 : Int32) then (1 : Int32) else (0 : Int32)), iv eB, iv eC, iv r0', iv rB, iv rC, iv rD, un, un] [(.int (if m65 q0 = (-1 : Int32) then (1 : Int32) else (0 : Int32)))]))
    have hd336 : (if m65 q0 = (-1 : Int32) then (1 : Int32) else (0 : Int32)) = (0 : Int32) := fn3
    refine Go.stp (fun t_ k_ => XS.ifNo X70.here hx rfl (hb hby at_336) rfl ((if0 _ _).trans (teq hd336).2) k_) ?_
    show Go p.tables e below G (T70.setTop (mkF m 339 #[lv q0, sd, lv q1, sd, lv q2, sd, lv q3, sd, iv p4, iv p5, lv b', sd, iv (((p5.toUInt32 >>> ((1 : Int32) &&& 31).toUInt32).toInt32) &&& (3 : Int32)), lv c', sd, iv (((p5.toUInt32 >>> ((3 : Int32) &&& 31).toUInt32).toInt32) &&& (3 : Int32)), lv d', sd, iv cap, iv r0', iv r1', iv r2', iv r3', rv b48, iv (if m0 q0 = (-1 : Int32) then (1 : Int32) else (0 : Int32)), iv (if m55 b' = (-1 : Int32) then (1 : Int32) else (0 : Int32)), iv (if m60 c' = (-1 : Int32) then (1 : Int32) else (0 : Int32)), iv (if m65 q0 = (-1 : Int32) then (1 : Int32) else (0 : Int32)), iv eB, iv eC, iv r0', iv rB, iv rC, iv rD, un, un] []))
    refine Go.stp (fun t_ k_ => XS.iconst X70.here hx rfl (hb hby at_339) k_) ?_
    show Go p.tables e below G (T70.setTop (mkF m 340 #[lv q0, sd, lv q1, sd, lv q2, sd, lv q3, sd, iv p4, iv p5, lv b', sd, iv (((p5.toUInt32 >>> ((1 : Int32) &&& 31).toUInt32).toInt32) &&& (3 : Int32)), lv c', sd, iv (((p5.toUInt32 >>> ((3 : Int32) &&& 31).toUInt32).toInt32) &&& (3 : Int32)), lv d', sd, iv cap, iv r0', iv r1', iv r2', iv r3', rv b48, iv (if m0 q0 = (-1 : Int32) then (1 : Int32) else (0 : Int32)), iv (if m55 b' = (-1 : Int32) then (1 : Int32) else (0 : Int32)), iv (if m60 c' = (-1 : Int32) then (1 : Int32) else (0 : Int32)), iv (if m65 q0 = (-1 : Int32) then (1 : Int32) else (0 : Int32)), iv eB, iv eC, iv r0', iv rB, iv rC, iv rD, un, un] [(.int (1 : Int32))]))
    refine Go.stp (fun t_ k_ => XS.goto X70.here hx rfl (pc0 := 340) (pc' := 344) rfl (hb hby at_340) (by decide) (by decide) k_) ?_
    show Go p.tables e below G (T70.setTop (mkF m 344 #[lv q0, sd, lv q1, sd, lv q2, sd, lv q3, sd, iv p4, iv p5, lv b', sd, iv (((p5.toUInt32 >>> ((1 : Int32) &&& 31).toUInt32).toInt32) &&& (3 : Int32)), lv c', sd, iv (((p5.toUInt32 >>> ((3 : Int32) &&& 31).toUInt32).toInt32) &&& (3 : Int32)), lv d', sd, iv cap, iv r0', iv r1', iv r2', iv r3', rv b48, iv (if m0 q0 = (-1 : Int32) then (1 : Int32) else (0 : Int32)), iv (if m55 b' = (-1 : Int32) then (1 : Int32) else (0 : Int32)), iv (if m60 c' = (-1 : Int32) then (1 : Int32) else (0 : Int32)), iv (if m65 q0 = (-1 : Int32) then (1 : Int32) else (0 : Int32)), iv eB, iv eC, iv r0', iv rB, iv rC, iv rD, un, un] [(.int (1 : Int32))]))
    refine Go.stp (fun t_ k_ => XS.istore X70.here hx rfl (hb hby at_344) rfl (l' := #[lv q0, sd, lv q1, sd, lv q2, sd, lv q3, sd, iv p4, iv p5, lv b', sd, iv (((p5.toUInt32 >>> ((1 : Int32) &&& 31).toUInt32).toInt32) &&& (3 : Int32)), lv c', sd, iv (((p5.toUInt32 >>> ((3 : Int32) &&& 31).toUInt32).toInt32) &&& (3 : Int32)), lv d', sd, iv cap, iv r0', iv r1', iv r2', iv r3', rv b48, iv (if m0 q0 = (-1 : Int32) then (1 : Int32) else (0 : Int32)), iv (if m55 b' = (-1 : Int32) then (1 : Int32) else (0 : Int32)), iv (if m60 c' = (-1 : Int32) then (1 : Int32) else (0 : Int32)), iv (if m65 q0 = (-1 : Int32) then (1 : Int32) else (0 : Int32)), iv eB, iv eC, iv r0', iv rB, iv rC, iv rD, iv (1 : Int32), un]) rfl k_) ?_
    show Go p.tables e below G (T70.setTop (mkF m 346 #[lv q0, sd, lv q1, sd, lv q2, sd, lv q3, sd, iv p4, iv p5, lv b', sd, iv (((p5.toUInt32 >>> ((1 : Int32) &&& 31).toUInt32).toInt32) &&& (3 : Int32)), lv c', sd, iv (((p5.toUInt32 >>> ((3 : Int32) &&& 31).toUInt32).toInt32) &&& (3 : Int32)), lv d', sd, iv cap, iv r0', iv r1', iv r2', iv r3', rv b48, iv (if m0 q0 = (-1 : Int32) then (1 : Int32) else (0 : Int32)), iv (if m55 b' = (-1 : Int32) then (1 : Int32) else (0 : Int32)), iv (if m60 c' = (-1 : Int32) then (1 : Int32) else (0 : Int32)), iv (if m65 q0 = (-1 : Int32) then (1 : Int32) else (0 : Int32)), iv eB, iv eC, iv r0', iv rB, iv rC, iv rD, iv (1 : Int32), un] []))
    refine Go.stp (fun t_ k_ => XS.aload X70.here hx rfl (hb hby at_346) rfl rfl k_) ?_
    show Go p.tables e below G (T70.setTop (mkF m 348 #[lv q0, sd, lv q1, sd, lv q2, sd, lv q3, sd, iv p4, iv p5, lv b', sd, iv (((p5.toUInt32 >>> ((1 : Int32) &&& 31).toUInt32).toInt32) &&& (3 : Int32)), lv c', sd, iv (((p5.toUInt32 >>> ((3 : Int32) &&& 31).toUInt32).toInt32) &&& (3 : Int32)), lv d', sd, iv cap, iv r0', iv r1', iv r2', iv r3', rv b48, iv (if m0 q0 = (-1 : Int32) then (1 : Int32) else (0 : Int32)), iv (if m55 b' = (-1 : Int32) then (1 : Int32) else (0 : Int32)), iv (if m60 c' = (-1 : Int32) then (1 : Int32) else (0 : Int32)), iv (if m65 q0 = (-1 : Int32) then (1 : Int32) else (0 : Int32)), iv eB, iv eC, iv r0', iv rB, iv rC, iv rD, iv (1 : Int32), un] [(.ref b48)]))
    refine Go.stp (fun t_ k_ => XS.lloadN X70.here hx rfl (hb hby at_348) rfl k_) ?_
    show Go p.tables e below G (T70.setTop (mkF m 349 #[lv q0, sd, lv q1, sd, lv q2, sd, lv q3, sd, iv p4, iv p5, lv b', sd, iv (((p5.toUInt32 >>> ((1 : Int32) &&& 31).toUInt32).toInt32) &&& (3 : Int32)), lv c', sd, iv (((p5.toUInt32 >>> ((3 : Int32) &&& 31).toUInt32).toInt32) &&& (3 : Int32)), lv d', sd, iv cap, iv r0', iv r1', iv r2', iv r3', rv b48, iv (if m0 q0 = (-1 : Int32) then (1 : Int32) else (0 : Int32)), iv (if m55 b' = (-1 : Int32) then (1 : Int32) else (0 : Int32)), iv (if m60 c' = (-1 : Int32) then (1 : Int32) else (0 : Int32)), iv (if m65 q0 = (-1 : Int32) then (1 : Int32) else (0 : Int32)), iv eB, iv eC, iv r0', iv rB, iv rC, iv rD, iv (1 : Int32), un] [(.long q0), (.ref b48)]))
    obtain ⟨cq80, kq80, q80a, q80b, q80c⟩ := isOf hZ rfl f71
    obtain ⟨_, _, ⟨T80, L80, k80, n80⟩, -, X80, ⟨Lc80, hQ80, l80, y80, z80⟩, st80⟩ := X70.virtualBack hx (y := (⟨"com/example/chatterbench/chatterbench/data/IdIndex", "row", "(J)I"⟩ : MethodName)) (z := (⟨"com/example/chatterbench/chatterbench/data/IdIndex", "row", "(J)I"⟩ : MethodName)) hown (mvT hZ (hw _ (List.mem_of_getElem? (i := 43) rfl))) (mvT hZ (hw _ (List.mem_of_getElem? (i := 44) rfl))) (notFace_of_selects (args := #[]) (mvT hZ (hw _ (List.mem_of_getElem? (i := 46) rfl)))) (mvT hZ (hw _ (List.mem_of_getElem? (i := 46) rfl))) (mvT hZ (hw _ (List.mem_of_getElem? (i := 45) rfl))) (by decide) (backOf (W := 0) (rm8_16 l Z a0 hw [] b48 q0 ra ia R70 I70 m70 F70 T70.heap n0 Z70 f72 f73 Ja70 Jb70 f74 f71 rp70) hZ (hw _ (List.mem_of_getElem? (i := 47) rfl)) (hw _ (List.mem_of_getElem? (i := 3) rfl)) (by decide) (by decide)) q80a q80c (g := (mkF m 349 #[lv q0, sd, lv q1, sd, lv q2, sd, lv q3, sd, iv p4, iv p5, lv b', sd, iv (((p5.toUInt32 >>> ((1 : Int32) &&& 31).toUInt32).toInt32) &&& (3 : Int32)), lv c', sd, iv (((p5.toUInt32 >>> ((3 : Int32) &&& 31).toUInt32).toInt32) &&& (3 : Int32)), lv d', sd, iv cap, iv r0', iv r1', iv r2', iv r3', rv b48, iv (if m0 q0 = (-1 : Int32) then (1 : Int32) else (0 : Int32)), iv (if m55 b' = (-1 : Int32) then (1 : Int32) else (0 : Int32)), iv (if m60 c' = (-1 : Int32) then (1 : Int32) else (0 : Int32)), iv (if m65 q0 = (-1 : Int32) then (1 : Int32) else (0 : Int32)), iv eB, iv eC, iv r0', iv rB, iv rC, iv rD, iv (1 : Int32), un] [(.long q0), (.ref b48)])) rfl (by rw [hml]; rfl) (Steps.refl _) (argsL := [(.long q0)]) (rest := []) (lenOf pd_3 rfl) rfl (by show 2 * 0 + _ ≤ _; exact Nat.le_of_eq rfl) (hb hby at_349) (fun _ _ => ⟨rfl, rfl, (by decide : 3 + 0 ≤ _), (by decide : 36 + 0 ≤ _)⟩)
    dsimp only [Pt.U, Pt.locs, Pt.cells, Pt.slots] at X80 l80 y80 z80 st80 hQ80
    subst l80 y80 z80
    obtain ⟨rfl, Nq80, e80⟩ := hQ80
    have N80 := Fr.app N70 Nq80
    refine Go.stp (fun t_ k_ => st80.trans k_) ?_
    show Go p.tables e below G (T80.setTop (mkF m 352 #[lv q0, sd, lv q1, sd, lv q2, sd, lv q3, sd, iv p4, iv p5, lv b', sd, iv (((p5.toUInt32 >>> ((1 : Int32) &&& 31).toUInt32).toInt32) &&& (3 : Int32)), lv c', sd, iv (((p5.toUInt32 >>> ((3 : Int32) &&& 31).toUInt32).toInt32) &&& (3 : Int32)), lv d', sd, iv cap, iv r0', iv r1', iv r2', iv r3', rv b48, iv (if m0 q0 = (-1 : Int32) then (1 : Int32) else (0 : Int32)), iv (if m55 b' = (-1 : Int32) then (1 : Int32) else (0 : Int32)), iv (if m60 c' = (-1 : Int32) then (1 : Int32) else (0 : Int32)), iv (if m65 q0 = (-1 : Int32) then (1 : Int32) else (0 : Int32)), iv eB, iv eC, iv r0', iv rB, iv rC, iv rD, iv (1 : Int32), un] [(.int (m70 q0))]))
    refine Go.stp (fun t_ k_ => XS.iload X80.here hx rfl (hb hby at_352) rfl k_) ?_
    show Go p.tables e below G (T80.setTop (mkF m 354 #[lv q0, sd, lv q1, sd, lv q2, sd, lv q3, sd, iv p4, iv p5, lv b', sd, iv (((p5.toUInt32 >>> ((1 : Int32) &&& 31).toUInt32).toInt32) &&& (3 : Int32)), lv c', sd, iv (((p5.toUInt32 >>> ((3 : Int32) &&& 31).toUInt32).toInt32) &&& (3 : Int32)), lv d', sd, iv cap, iv r0', iv r1', iv r2', iv r3', rv b48, iv (if m0 q0 = (-1 : Int32) then (1 : Int32) else (0 : Int32)), iv (if m55 b' = (-1 : Int32) then (1 : Int32) else (0 : Int32)), iv (if m60 c' = (-1 : Int32) then (1 : Int32) else (0 : Int32)), iv (if m65 q0 = (-1 : Int32) then (1 : Int32) else (0 : Int32)), iv eB, iv eC, iv r0', iv rB, iv rC, iv rD, iv (1 : Int32), un] [(.int r0'), (.int (m70 q0))]))
    have hd354 : (m70 q0) = r0' := fa
    refine Go.stp (fun t_ k_ => XS.icmpNo X80.here hx rfl (hb hby at_354) rfl (teq hd354).2 k_) ?_
    show Go p.tables e below G (T80.setTop (mkF m 357 #[lv q0, sd, lv q1, sd, lv q2, sd, lv q3, sd, iv p4, iv p5, lv b', sd, iv (((p5.toUInt32 >>> ((1 : Int32) &&& 31).toUInt32).toInt32) &&& (3 : Int32)), lv c', sd, iv (((p5.toUInt32 >>> ((3 : Int32) &&& 31).toUInt32).toInt32) &&& (3 : Int32)), lv d', sd, iv cap, iv r0', iv r1', iv r2', iv r3', rv b48, iv (if m0 q0 = (-1 : Int32) then (1 : Int32) else (0 : Int32)), iv (if m55 b' = (-1 : Int32) then (1 : Int32) else (0 : Int32)), iv (if m60 c' = (-1 : Int32) then (1 : Int32) else (0 : Int32)), iv (if m65 q0 = (-1 : Int32) then (1 : Int32) else (0 : Int32)), iv eB, iv eC, iv r0', iv rB, iv rC, iv rD, iv (1 : Int32), un] []))
    refine Go.stp (fun t_ k_ => XS.aload X80.here hx rfl (hb hby at_357) rfl rfl k_) ?_
    show Go p.tables e below G (T80.setTop (mkF m 359 #[lv q0, sd, lv q1, sd, lv q2, sd, lv q3, sd, iv p4, iv p5, lv b', sd, iv (((p5.toUInt32 >>> ((1 : Int32) &&& 31).toUInt32).toInt32) &&& (3 : Int32)), lv c', sd, iv (((p5.toUInt32 >>> ((3 : Int32) &&& 31).toUInt32).toInt32) &&& (3 : Int32)), lv d', sd, iv cap, iv r0', iv r1', iv r2', iv r3', rv b48, iv (if m0 q0 = (-1 : Int32) then (1 : Int32) else (0 : Int32)), iv (if m55 b' = (-1 : Int32) then (1 : Int32) else (0 : Int32)), iv (if m60 c' = (-1 : Int32) then (1 : Int32) else (0 : Int32)), iv (if m65 q0 = (-1 : Int32) then (1 : Int32) else (0 : Int32)), iv eB, iv eC, iv r0', iv rB, iv rC, iv rD, iv (1 : Int32), un] [(.ref b48)]))
    refine Go.stp (fun t_ k_ => XS.lload X80.here hx rfl (hb hby at_359) rfl k_) ?_
    show Go p.tables e below G (T80.setTop (mkF m 361 #[lv q0, sd, lv q1, sd, lv q2, sd, lv q3, sd, iv p4, iv p5, lv b', sd, iv (((p5.toUInt32 >>> ((1 : Int32) &&& 31).toUInt32).toInt32) &&& (3 : Int32)), lv c', sd, iv (((p5.toUInt32 >>> ((3 : Int32) &&& 31).toUInt32).toInt32) &&& (3 : Int32)), lv d', sd, iv cap, iv r0', iv r1', iv r2', iv r3', rv b48, iv (if m0 q0 = (-1 : Int32) then (1 : Int32) else (0 : Int32)), iv (if m55 b' = (-1 : Int32) then (1 : Int32) else (0 : Int32)), iv (if m60 c' = (-1 : Int32) then (1 : Int32) else (0 : Int32)), iv (if m65 q0 = (-1 : Int32) then (1 : Int32) else (0 : Int32)), iv eB, iv eC, iv r0', iv rB, iv rC, iv rD, iv (1 : Int32), un] [(.long b'), (.ref b48)]))
    obtain ⟨cq81, kq81, q81a, q81b, q81c⟩ := isOf hZ e80 f71
    obtain ⟨_, _, ⟨T81, L81, k81, n81⟩, -, X81, ⟨Lc81, hQ81, l81, y81, z81⟩, st81⟩ := X80.virtualBack hx (y := (⟨"com/example/chatterbench/chatterbench/data/IdIndex", "row", "(J)I"⟩ : MethodName)) (z := (⟨"com/example/chatterbench/chatterbench/data/IdIndex", "row", "(J)I"⟩ : MethodName)) hown (mvT hZ (hw _ (List.mem_of_getElem? (i := 43) rfl))) (mvT hZ (hw _ (List.mem_of_getElem? (i := 44) rfl))) (notFace_of_selects (args := #[]) (mvT hZ (hw _ (List.mem_of_getElem? (i := 46) rfl)))) (mvT hZ (hw _ (List.mem_of_getElem? (i := 46) rfl))) (mvT hZ (hw _ (List.mem_of_getElem? (i := 45) rfl))) (by decide) (backOf (W := 0) (rm8_16 l Z a0 hw [] b48 b' ra ia R70 I70 m70 F70 T70.heap n0 Z70 f72 f73 Ja70 Jb70 f74 f71 rp70) hZ (hw _ (List.mem_of_getElem? (i := 47) rfl)) (hw _ (List.mem_of_getElem? (i := 3) rfl)) (by decide) (by decide)) q81a q81c (g := (mkF m 361 #[lv q0, sd, lv q1, sd, lv q2, sd, lv q3, sd, iv p4, iv p5, lv b', sd, iv (((p5.toUInt32 >>> ((1 : Int32) &&& 31).toUInt32).toInt32) &&& (3 : Int32)), lv c', sd, iv (((p5.toUInt32 >>> ((3 : Int32) &&& 31).toUInt32).toInt32) &&& (3 : Int32)), lv d', sd, iv cap, iv r0', iv r1', iv r2', iv r3', rv b48, iv (if m0 q0 = (-1 : Int32) then (1 : Int32) else (0 : Int32)), iv (if m55 b' = (-1 : Int32) then (1 : Int32) else (0 : Int32)), iv (if m60 c' = (-1 : Int32) then (1 : Int32) else (0 : Int32)), iv (if m65 q0 = (-1 : Int32) then (1 : Int32) else (0 : Int32)), iv eB, iv eC, iv r0', iv rB, iv rC, iv rD, iv (1 : Int32), un] [(.long b'), (.ref b48)])) rfl (by rw [hml]; rfl) (Steps.refl _) (argsL := [(.long b')]) (rest := []) (lenOf pd_3 rfl) rfl (by show 2 * 0 + _ ≤ _; exact Nat.le_of_eq rfl) (hb hby at_361) (fun _ _ => ⟨rfl, e80, (by decide : 3 + 0 ≤ _), (by decide : 36 + 0 ≤ _)⟩)
    dsimp only [Pt.U, Pt.locs, Pt.cells, Pt.slots] at X81 l81 y81 z81 st81 hQ81
    subst l81 y81 z81
    obtain ⟨rfl, Nq81, e81⟩ := hQ81
    have N81 := Fr.app N80 Nq81
    refine Go.stp (fun t_ k_ => st81.trans k_) ?_
    show Go p.tables e below G (T81.setTop (mkF m 364 #[lv q0, sd, lv q1, sd, lv q2, sd, lv q3, sd, iv p4, iv p5, lv b', sd, iv (((p5.toUInt32 >>> ((1 : Int32) &&& 31).toUInt32).toInt32) &&& (3 : Int32)), lv c', sd, iv (((p5.toUInt32 >>> ((3 : Int32) &&& 31).toUInt32).toInt32) &&& (3 : Int32)), lv d', sd, iv cap, iv r0', iv r1', iv r2', iv r3', rv b48, iv (if m0 q0 = (-1 : Int32) then (1 : Int32) else (0 : Int32)), iv (if m55 b' = (-1 : Int32) then (1 : Int32) else (0 : Int32)), iv (if m60 c' = (-1 : Int32) then (1 : Int32) else (0 : Int32)), iv (if m65 q0 = (-1 : Int32) then (1 : Int32) else (0 : Int32)), iv eB, iv eC, iv r0', iv rB, iv rC, iv rD, iv (1 : Int32), un] [(.int (m70 b'))]))
    refine Go.stp (fun t_ k_ => XS.iload X81.here hx rfl (hb hby at_364) rfl k_) ?_
    show Go p.tables e below G (T81.setTop (mkF m 366 #[lv q0, sd, lv q1, sd, lv q2, sd, lv q3, sd, iv p4, iv p5, lv b', sd, iv (((p5.toUInt32 >>> ((1 : Int32) &&& 31).toUInt32).toInt32) &&& (3 : Int32)), lv c', sd, iv (((p5.toUInt32 >>> ((3 : Int32) &&& 31).toUInt32).toInt32) &&& (3 : Int32)), lv d', sd, iv cap, iv r0', iv r1', iv r2', iv r3', rv b48, iv (if m0 q0 = (-1 : Int32) then (1 : Int32) else (0 : Int32)), iv (if m55 b' = (-1 : Int32) then (1 : Int32) else (0 : Int32)), iv (if m60 c' = (-1 : Int32) then (1 : Int32) else (0 : Int32)), iv (if m65 q0 = (-1 : Int32) then (1 : Int32) else (0 : Int32)), iv eB, iv eC, iv r0', iv rB, iv rC, iv rD, iv (1 : Int32), un] [(.int rB), (.int (m70 b'))]))
    have hd366 : (m70 b') = rB := (by rw [fb]; rcases hj243 with ⟨g1, g2⟩ | ⟨g1, g2⟩ <;> simp [g1, g2])
    refine Go.stp (fun t_ k_ => XS.icmpNo X81.here hx rfl (hb hby at_366) rfl (teq hd366).2 k_) ?_
    show Go p.tables e below G (T81.setTop (mkF m 369 #[lv q0, sd, lv q1, sd, lv q2, sd, lv q3, sd, iv p4, iv p5, lv b', sd, iv (((p5.toUInt32 >>> ((1 : Int32) &&& 31).toUInt32).toInt32) &&& (3 : Int32)), lv c', sd, iv (((p5.toUInt32 >>> ((3 : Int32) &&& 31).toUInt32).toInt32) &&& (3 : Int32)), lv d', sd, iv cap, iv r0', iv r1', iv r2', iv r3', rv b48, iv (if m0 q0 = (-1 : Int32) then (1 : Int32) else (0 : Int32)), iv (if m55 b' = (-1 : Int32) then (1 : Int32) else (0 : Int32)), iv (if m60 c' = (-1 : Int32) then (1 : Int32) else (0 : Int32)), iv (if m65 q0 = (-1 : Int32) then (1 : Int32) else (0 : Int32)), iv eB, iv eC, iv r0', iv rB, iv rC, iv rD, iv (1 : Int32), un] []))
    refine Go.stp (fun t_ k_ => XS.aload X81.here hx rfl (hb hby at_369) rfl rfl k_) ?_
    show Go p.tables e below G (T81.setTop (mkF m 371 #[lv q0, sd, lv q1, sd, lv q2, sd, lv q3, sd, iv p4, iv p5, lv b', sd, iv (((p5.toUInt32 >>> ((1 : Int32) &&& 31).toUInt32).toInt32) &&& (3 : Int32)), lv c', sd, iv (((p5.toUInt32 >>> ((3 : Int32) &&& 31).toUInt32).toInt32) &&& (3 : Int32)), lv d', sd, iv cap, iv r0', iv r1', iv r2', iv r3', rv b48, iv (if m0 q0 = (-1 : Int32) then (1 : Int32) else (0 : Int32)), iv (if m55 b' = (-1 : Int32) then (1 : Int32) else (0 : Int32)), iv (if m60 c' = (-1 : Int32) then (1 : Int32) else (0 : Int32)), iv (if m65 q0 = (-1 : Int32) then (1 : Int32) else (0 : Int32)), iv eB, iv eC, iv r0', iv rB, iv rC, iv rD, iv (1 : Int32), un] [(.ref b48)]))
    refine Go.stp (fun t_ k_ => XS.lload X81.here hx rfl (hb hby at_371) rfl k_) ?_
    show Go p.tables e below G (T81.setTop (mkF m 373 #[lv q0, sd, lv q1, sd, lv q2, sd, lv q3, sd, iv p4, iv p5, lv b', sd, iv (((p5.toUInt32 >>> ((1 : Int32) &&& 31).toUInt32).toInt32) &&& (3 : Int32)), lv c', sd, iv (((p5.toUInt32 >>> ((3 : Int32) &&& 31).toUInt32).toInt32) &&& (3 : Int32)), lv d', sd, iv cap, iv r0', iv r1', iv r2', iv r3', rv b48, iv (if m0 q0 = (-1 : Int32) then (1 : Int32) else (0 : Int32)), iv (if m55 b' = (-1 : Int32) then (1 : Int32) else (0 : Int32)), iv (if m60 c' = (-1 : Int32) then (1 : Int32) else (0 : Int32)), iv (if m65 q0 = (-1 : Int32) then (1 : Int32) else (0 : Int32)), iv eB, iv eC, iv r0', iv rB, iv rC, iv rD, iv (1 : Int32), un] [(.long c'), (.ref b48)]))
    obtain ⟨cq82, kq82, q82a, q82b, q82c⟩ := isOf hZ e81 f71
    obtain ⟨_, _, ⟨T82, L82, k82, n82⟩, -, X82, ⟨Lc82, hQ82, l82, y82, z82⟩, st82⟩ := X81.virtualBack hx (y := (⟨"com/example/chatterbench/chatterbench/data/IdIndex", "row", "(J)I"⟩ : MethodName)) (z := (⟨"com/example/chatterbench/chatterbench/data/IdIndex", "row", "(J)I"⟩ : MethodName)) hown (mvT hZ (hw _ (List.mem_of_getElem? (i := 43) rfl))) (mvT hZ (hw _ (List.mem_of_getElem? (i := 44) rfl))) (notFace_of_selects (args := #[]) (mvT hZ (hw _ (List.mem_of_getElem? (i := 46) rfl)))) (mvT hZ (hw _ (List.mem_of_getElem? (i := 46) rfl))) (mvT hZ (hw _ (List.mem_of_getElem? (i := 45) rfl))) (by decide) (backOf (W := 0) (rm8_16 l Z a0 hw [] b48 c' ra ia R70 I70 m70 F70 T70.heap n0 Z70 f72 f73 Ja70 Jb70 f74 f71 rp70) hZ (hw _ (List.mem_of_getElem? (i := 47) rfl)) (hw _ (List.mem_of_getElem? (i := 3) rfl)) (by decide) (by decide)) q82a q82c (g := (mkF m 373 #[lv q0, sd, lv q1, sd, lv q2, sd, lv q3, sd, iv p4, iv p5, lv b', sd, iv (((p5.toUInt32 >>> ((1 : Int32) &&& 31).toUInt32).toInt32) &&& (3 : Int32)), lv c', sd, iv (((p5.toUInt32 >>> ((3 : Int32) &&& 31).toUInt32).toInt32) &&& (3 : Int32)), lv d', sd, iv cap, iv r0', iv r1', iv r2', iv r3', rv b48, iv (if m0 q0 = (-1 : Int32) then (1 : Int32) else (0 : Int32)), iv (if m55 b' = (-1 : Int32) then (1 : Int32) else (0 : Int32)), iv (if m60 c' = (-1 : Int32) then (1 : Int32) else (0 : Int32)), iv (if m65 q0 = (-1 : Int32) then (1 : Int32) else (0 : Int32)), iv eB, iv eC, iv r0', iv rB, iv rC, iv rD, iv (1 : Int32), un] [(.long c'), (.ref b48)])) rfl (by rw [hml]; rfl) (Steps.refl _) (argsL := [(.long c')]) (rest := []) (lenOf pd_3 rfl) rfl (by show 2 * 0 + _ ≤ _; exact Nat.le_of_eq rfl) (hb hby at_373) (fun _ _ => ⟨rfl, e81, (by decide : 3 + 0 ≤ _), (by decide : 36 + 0 ≤ _)⟩)
    dsimp only [Pt.U, Pt.locs, Pt.cells, Pt.slots] at X82 l82 y82 z82 st82 hQ82
    subst l82 y82 z82
    obtain ⟨rfl, Nq82, e82⟩ := hQ82
    have N82 := Fr.app N81 Nq82
    refine Go.stp (fun t_ k_ => st82.trans k_) ?_
    show Go p.tables e below G (T82.setTop (mkF m 376 #[lv q0, sd, lv q1, sd, lv q2, sd, lv q3, sd, iv p4, iv p5, lv b', sd, iv (((p5.toUInt32 >>> ((1 : Int32) &&& 31).toUInt32).toInt32) &&& (3 : Int32)), lv c', sd, iv (((p5.toUInt32 >>> ((3 : Int32) &&& 31).toUInt32).toInt32) &&& (3 : Int32)), lv d', sd, iv cap, iv r0', iv r1', iv r2', iv r3', rv b48, iv (if m0 q0 = (-1 : Int32) then (1 : Int32) else (0 : Int32)), iv (if m55 b' = (-1 : Int32) then (1 : Int32) else (0 : Int32)), iv (if m60 c' = (-1 : Int32) then (1 : Int32) else (0 : Int32)), iv (if m65 q0 = (-1 : Int32) then (1 : Int32) else (0 : Int32)), iv eB, iv eC, iv r0', iv rB, iv rC, iv rD, iv (1 : Int32), un] [(.int (m70 c'))]))
    refine Go.stp (fun t_ k_ => XS.iload X82.here hx rfl (hb hby at_376) rfl k_) ?_
    show Go p.tables e below G (T82.setTop (mkF m 378 #[lv q0, sd, lv q1, sd, lv q2, sd, lv q3, sd, iv p4, iv p5, lv b', sd, iv (((p5.toUInt32 >>> ((1 : Int32) &&& 31).toUInt32).toInt32) &&& (3 : Int32)), lv c', sd, iv (((p5.toUInt32 >>> ((3 : Int32) &&& 31).toUInt32).toInt32) &&& (3 : Int32)), lv d', sd, iv cap, iv r0', iv r1', iv r2', iv r3', rv b48, iv (if m0 q0 = (-1 : Int32) then (1 : Int32) else (0 : Int32)), iv (if m55 b' = (-1 : Int32) then (1 : Int32) else (0 : Int32)), iv (if m60 c' = (-1 : Int32) then (1 : Int32) else (0 : Int32)), iv (if m65 q0 = (-1 : Int32) then (1 : Int32) else (0 : Int32)), iv eB, iv eC, iv r0', iv rB, iv rC, iv rD, iv (1 : Int32), un] [(.int rC), (.int (m70 c'))]))
    have hd378 : (m70 c') = rC := (by rw [fc]; rcases hj243 with ⟨g1, g2⟩ | ⟨g1, g2⟩ <;> rcases hj272 with ⟨g3, g4⟩ | ⟨g3, g4, g5⟩ | ⟨g3, g4, g5⟩ <;> simp [*])
    refine Go.stp (fun t_ k_ => XS.icmpNo X82.here hx rfl (hb hby at_378) rfl (teq hd378).2 k_) ?_
    show Go p.tables e below G (T82.setTop (mkF m 381 #[lv q0, sd, lv q1, sd, lv q2, sd, lv q3, sd, iv p4, iv p5, lv b', sd, iv (((p5.toUInt32 >>> ((1 : Int32) &&& 31).toUInt32).toInt32) &&& (3 : Int32)), lv c', sd, iv (((p5.toUInt32 >>> ((3 : Int32) &&& 31).toUInt32).toInt32) &&& (3 : Int32)), lv d', sd, iv cap, iv r0', iv r1', iv r2', iv r3', rv b48, iv (if m0 q0 = (-1 : Int32) then (1 : Int32) else (0 : Int32)), iv (if m55 b' = (-1 : Int32) then (1 : Int32) else (0 : Int32)), iv (if m60 c' = (-1 : Int32) then (1 : Int32) else (0 : Int32)), iv (if m65 q0 = (-1 : Int32) then (1 : Int32) else (0 : Int32)), iv eB, iv eC, iv r0', iv rB, iv rC, iv rD, iv (1 : Int32), un] []))
    refine Go.stp (fun t_ k_ => XS.aload X82.here hx rfl (hb hby at_381) rfl rfl k_) ?_
    show Go p.tables e below G (T82.setTop (mkF m 383 #[lv q0, sd, lv q1, sd, lv q2, sd, lv q3, sd, iv p4, iv p5, lv b', sd, iv (((p5.toUInt32 >>> ((1 : Int32) &&& 31).toUInt32).toInt32) &&& (3 : Int32)), lv c', sd, iv (((p5.toUInt32 >>> ((3 : Int32) &&& 31).toUInt32).toInt32) &&& (3 : Int32)), lv d', sd, iv cap, iv r0', iv r1', iv r2', iv r3', rv b48, iv (if m0 q0 = (-1 : Int32) then (1 : Int32) else (0 : Int32)), iv (if m55 b' = (-1 : Int32) then (1 : Int32) else (0 : Int32)), iv (if m60 c' = (-1 : Int32) then (1 : Int32) else (0 : Int32)), iv (if m65 q0 = (-1 : Int32) then (1 : Int32) else (0 : Int32)), iv eB, iv eC, iv r0', iv rB, iv rC, iv rD, iv (1 : Int32), un] [(.ref b48)]))
    refine Go.stp (fun t_ k_ => XS.lload X82.here hx rfl (hb hby at_383) rfl k_) ?_
    show Go p.tables e below G (T82.setTop (mkF m 385 #[lv q0, sd, lv q1, sd, lv q2, sd, lv q3, sd, iv p4, iv p5, lv b', sd, iv (((p5.toUInt32 >>> ((1 : Int32) &&& 31).toUInt32).toInt32) &&& (3 : Int32)), lv c', sd, iv (((p5.toUInt32 >>> ((3 : Int32) &&& 31).toUInt32).toInt32) &&& (3 : Int32)), lv d', sd, iv cap, iv r0', iv r1', iv r2', iv r3', rv b48, iv (if m0 q0 = (-1 : Int32) then (1 : Int32) else (0 : Int32)), iv (if m55 b' = (-1 : Int32) then (1 : Int32) else (0 : Int32)), iv (if m60 c' = (-1 : Int32) then (1 : Int32) else (0 : Int32)), iv (if m65 q0 = (-1 : Int32) then (1 : Int32) else (0 : Int32)), iv eB, iv eC, iv r0', iv rB, iv rC, iv rD, iv (1 : Int32), un] [(.long d'), (.ref b48)]))
    obtain ⟨cq83, kq83, q83a, q83b, q83c⟩ := isOf hZ e82 f71
    obtain ⟨_, _, ⟨T83, L83, k83, n83⟩, -, X83, ⟨Lc83, hQ83, l83, y83, z83⟩, st83⟩ := X82.virtualBack hx (y := (⟨"com/example/chatterbench/chatterbench/data/IdIndex", "row", "(J)I"⟩ : MethodName)) (z := (⟨"com/example/chatterbench/chatterbench/data/IdIndex", "row", "(J)I"⟩ : MethodName)) hown (mvT hZ (hw _ (List.mem_of_getElem? (i := 43) rfl))) (mvT hZ (hw _ (List.mem_of_getElem? (i := 44) rfl))) (notFace_of_selects (args := #[]) (mvT hZ (hw _ (List.mem_of_getElem? (i := 46) rfl)))) (mvT hZ (hw _ (List.mem_of_getElem? (i := 46) rfl))) (mvT hZ (hw _ (List.mem_of_getElem? (i := 45) rfl))) (by decide) (backOf (W := 0) (rm8_16 l Z a0 hw [] b48 d' ra ia R70 I70 m70 F70 T70.heap n0 Z70 f72 f73 Ja70 Jb70 f74 f71 rp70) hZ (hw _ (List.mem_of_getElem? (i := 47) rfl)) (hw _ (List.mem_of_getElem? (i := 3) rfl)) (by decide) (by decide)) q83a q83c (g := (mkF m 385 #[lv q0, sd, lv q1, sd, lv q2, sd, lv q3, sd, iv p4, iv p5, lv b', sd, iv (((p5.toUInt32 >>> ((1 : Int32) &&& 31).toUInt32).toInt32) &&& (3 : Int32)), lv c', sd, iv (((p5.toUInt32 >>> ((3 : Int32) &&& 31).toUInt32).toInt32) &&& (3 : Int32)), lv d', sd, iv cap, iv r0', iv r1', iv r2', iv r3', rv b48, iv (if m0 q0 = (-1 : Int32) then (1 : Int32) else (0 : Int32)), iv (if m55 b' = (-1 : Int32) then (1 : Int32) else (0 : Int32)), iv (if m60 c' = (-1 : Int32) then (1 : Int32) else (0 : Int32)), iv (if m65 q0 = (-1 : Int32) then (1 : Int32) else (0 : Int32)), iv eB, iv eC, iv r0', iv rB, iv rC, iv rD, iv (1 : Int32), un] [(.long d'), (.ref b48)])) rfl (by rw [hml]; rfl) (Steps.refl _) (argsL := [(.long d')]) (rest := []) (lenOf pd_3 rfl) rfl (by show 2 * 0 + _ ≤ _; exact Nat.le_of_eq rfl) (hb hby at_385) (fun _ _ => ⟨rfl, e82, (by decide : 3 + 0 ≤ _), (by decide : 36 + 0 ≤ _)⟩)
    dsimp only [Pt.U, Pt.locs, Pt.cells, Pt.slots] at X83 l83 y83 z83 st83 hQ83
    subst l83 y83 z83
    obtain ⟨rfl, Nq83, e83⟩ := hQ83
    have N83 := Fr.app N82 Nq83
    refine Go.stp (fun t_ k_ => st83.trans k_) ?_
    show Go p.tables e below G (T83.setTop (mkF m 388 #[lv q0, sd, lv q1, sd, lv q2, sd, lv q3, sd, iv p4, iv p5, lv b', sd, iv (((p5.toUInt32 >>> ((1 : Int32) &&& 31).toUInt32).toInt32) &&& (3 : Int32)), lv c', sd, iv (((p5.toUInt32 >>> ((3 : Int32) &&& 31).toUInt32).toInt32) &&& (3 : Int32)), lv d', sd, iv cap, iv r0', iv r1', iv r2', iv r3', rv b48, iv (if m0 q0 = (-1 : Int32) then (1 : Int32) else (0 : Int32)), iv (if m55 b' = (-1 : Int32) then (1 : Int32) else (0 : Int32)), iv (if m60 c' = (-1 : Int32) then (1 : Int32) else (0 : Int32)), iv (if m65 q0 = (-1 : Int32) then (1 : Int32) else (0 : Int32)), iv eB, iv eC, iv r0', iv rB, iv rC, iv rD, iv (1 : Int32), un] [(.int (m70 d'))]))
    refine Go.stp (fun t_ k_ => XS.iload X83.here hx rfl (hb hby at_388) rfl k_) ?_
    show Go p.tables e below G (T83.setTop (mkF m 390 #[lv q0, sd, lv q1, sd, lv q2, sd, lv q3, sd, iv p4, iv p5, lv b', sd, iv (((p5.toUInt32 >>> ((1 : Int32) &&& 31).toUInt32).toInt32) &&& (3 : Int32)), lv c', sd, iv (((p5.toUInt32 >>> ((3 : Int32) &&& 31).toUInt32).toInt32) &&& (3 : Int32)), lv d', sd, iv cap, iv r0', iv r1', iv r2', iv r3', rv b48, iv (if m0 q0 = (-1 : Int32) then (1 : Int32) else (0 : Int32)), iv (if m55 b' = (-1 : Int32) then (1 : Int32) else (0 : Int32)), iv (if m60 c' = (-1 : Int32) then (1 : Int32) else (0 : Int32)), iv (if m65 q0 = (-1 : Int32) then (1 : Int32) else (0 : Int32)), iv eB, iv eC, iv r0', iv rB, iv rC, iv rD, iv (1 : Int32), un] [(.int rD), (.int (m70 d'))]))
    have hd390 : (m70 d') = rD := (by rw [fd]; rcases hj243 with ⟨g1, g2⟩ | ⟨g1, g2⟩ <;> rcases hj272 with ⟨g3, g4⟩ | ⟨g3, g4, g5⟩ | ⟨g3, g4, g5⟩ <;> rcases hj313 with ⟨g6, g7⟩ | ⟨g6, g7, g8⟩ | ⟨g6, g7, g8, g9⟩ | ⟨g6, g7, g8, g9⟩ <;> simp [*])
    refine Go.stp (fun t_ k_ => XS.icmpNo X83.here hx rfl (hb hby at_390) rfl (teq hd390).2 k_) ?_
    show Go p.tables e below G (T83.setTop (mkF m 393 #[lv q0, sd, lv q1, sd, lv q2, sd, lv q3, sd, iv p4, iv p5, lv b', sd, iv (((p5.toUInt32 >>> ((1 : Int32) &&& 31).toUInt32).toInt32) &&& (3 : Int32)), lv c', sd, iv (((p5.toUInt32 >>> ((3 : Int32) &&& 31).toUInt32).toInt32) &&& (3 : Int32)), lv d', sd, iv cap, iv r0', iv r1', iv r2', iv r3', rv b48, iv (if m0 q0 = (-1 : Int32) then (1 : Int32) else (0 : Int32)), iv (if m55 b' = (-1 : Int32) then (1 : Int32) else (0 : Int32)), iv (if m60 c' = (-1 : Int32) then (1 : Int32) else (0 : Int32)), iv (if m65 q0 = (-1 : Int32) then (1 : Int32) else (0 : Int32)), iv eB, iv eC, iv r0', iv rB, iv rC, iv rD, iv (1 : Int32), un] []))
    refine Go.stp (fun t_ k_ => XS.iconst X83.here hx rfl (hb hby at_393) k_) ?_
    show Go p.tables e below G (T83.setTop (mkF m 394 #[lv q0, sd, lv q1, sd, lv q2, sd, lv q3, sd, iv p4, iv p5, lv b', sd, iv (((p5.toUInt32 >>> ((1 : Int32) &&& 31).toUInt32).toInt32) &&& (3 : Int32)), lv c', sd, iv (((p5.toUInt32 >>> ((3 : Int32) &&& 31).toUInt32).toInt32) &&& (3 : Int32)), lv d', sd, iv cap, iv r0', iv r1', iv r2', iv r3', rv b48, iv (if m0 q0 = (-1 : Int32) then (1 : Int32) else (0 : Int32)), iv (if m55 b' = (-1 : Int32) then (1 : Int32) else (0 : Int32)), iv (if m60 c' = (-1 : Int32) then (1 : Int32) else (0 : Int32)), iv (if m65 q0 = (-1 : Int32) then (1 : Int32) else (0 : Int32)), iv eB, iv eC, iv r0', iv rB, iv rC, iv rD, iv (1 : Int32), un] [(.int (1 : Int32))]))
    refine Go.stp (fun t_ k_ => XS.goto X83.here hx rfl (pc0 := 394) (pc' := 398) rfl (hb hby at_394) (by decide) (by decide) k_) ?_
    show Go p.tables e below G (T83.setTop (mkF m 398 #[lv q0, sd, lv q1, sd, lv q2, sd, lv q3, sd, iv p4, iv p5, lv b', sd, iv (((p5.toUInt32 >>> ((1 : Int32) &&& 31).toUInt32).toInt32) &&& (3 : Int32)), lv c', sd, iv (((p5.toUInt32 >>> ((3 : Int32) &&& 31).toUInt32).toInt32) &&& (3 : Int32)), lv d', sd, iv cap, iv r0', iv r1', iv r2', iv r3', rv b48, iv (if m0 q0 = (-1 : Int32) then (1 : Int32) else (0 : Int32)), iv (if m55 b' = (-1 : Int32) then (1 : Int32) else (0 : Int32)), iv (if m60 c' = (-1 : Int32) then (1 : Int32) else (0 : Int32)), iv (if m65 q0 = (-1 : Int32) then (1 : Int32) else (0 : Int32)), iv eB, iv eC, iv r0', iv rB, iv rC, iv rD, iv (1 : Int32), un] [(.int (1 : Int32))]))
    refine Go.stp (fun t_ k_ => XS.istore X83.here hx rfl (hb hby at_398) rfl (l' := #[lv q0, sd, lv q1, sd, lv q2, sd, lv q3, sd, iv p4, iv p5, lv b', sd, iv (((p5.toUInt32 >>> ((1 : Int32) &&& 31).toUInt32).toInt32) &&& (3 : Int32)), lv c', sd, iv (((p5.toUInt32 >>> ((3 : Int32) &&& 31).toUInt32).toInt32) &&& (3 : Int32)), lv d', sd, iv cap, iv r0', iv r1', iv r2', iv r3', rv b48, iv (if m0 q0 = (-1 : Int32) then (1 : Int32) else (0 : Int32)), iv (if m55 b' = (-1 : Int32) then (1 : Int32) else (0 : Int32)), iv (if m60 c' = (-1 : Int32) then (1 : Int32) else (0 : Int32)), iv (if m65 q0 = (-1 : Int32) then (1 : Int32) else (0 : Int32)), iv eB, iv eC, iv r0', iv rB, iv rC, iv rD, iv (1 : Int32), iv (1 : Int32)]) rfl k_) ?_
    show Go p.tables e below G (T83.setTop (mkF m 400 #[lv q0, sd, lv q1, sd, lv q2, sd, lv q3, sd, iv p4, iv p5, lv b', sd, iv (((p5.toUInt32 >>> ((1 : Int32) &&& 31).toUInt32).toInt32) &&& (3 : Int32)), lv c', sd, iv (((p5.toUInt32 >>> ((3 : Int32) &&& 31).toUInt32).toInt32) &&& (3 : Int32)), lv d', sd, iv cap, iv r0', iv r1', iv r2', iv r3', rv b48, iv (if m0 q0 = (-1 : Int32) then (1 : Int32) else (0 : Int32)), iv (if m55 b' = (-1 : Int32) then (1 : Int32) else (0 : Int32)), iv (if m60 c' = (-1 : Int32) then (1 : Int32) else (0 : Int32)), iv (if m65 q0 = (-1 : Int32) then (1 : Int32) else (0 : Int32)), iv eB, iv eC, iv r0', iv rB, iv rC, iv rD, iv (1 : Int32), iv (1 : Int32)] []))
    refine Go.stp (fun t_ k_ => XS.iload X83.here hx rfl (hb hby at_400) rfl k_) ?_
    show Go p.tables e below G (T83.setTop (mkF m 402 #[lv q0, sd, lv q1, sd, lv q2, sd, lv q3, sd, iv p4, iv p5, lv b', sd, iv (((p5.toUInt32 >>> ((1 : Int32) &&& 31).toUInt32).toInt32) &&& (3 : Int32)), lv c', sd, iv (((p5.toUInt32 >>> ((3 : Int32) &&& 31).toUInt32).toInt32) &&& (3 : Int32)), lv d', sd, iv cap, iv r0', iv r1', iv r2', iv r3', rv b48, iv (if m0 q0 = (-1 : Int32) then (1 : Int32) else (0 : Int32)), iv (if m55 b' = (-1 : Int32) then (1 : Int32) else (0 : Int32)), iv (if m60 c' = (-1 : Int32) then (1 : Int32) else (0 : Int32)), iv (if m65 q0 = (-1 : Int32) then (1 : Int32) else (0 : Int32)), iv eB, iv eC, iv r0', iv rB, iv rC, iv rD, iv (1 : Int32), iv (1 : Int32)] [(.int (1 : Int32))]))
    refine Go.stp (fun t_ k_ => XS.ifNo X83.here hx rfl (hb hby at_402) rfl ((if0 _ _).trans (feq (by decide : ¬ ((1 : Int32) = (0 : Int32)))).1) k_) ?_
    show Go p.tables e below G (T83.setTop (mkF m 405 #[lv q0, sd, lv q1, sd, lv q2, sd, lv q3, sd, iv p4, iv p5, lv b', sd, iv (((p5.toUInt32 >>> ((1 : Int32) &&& 31).toUInt32).toInt32) &&& (3 : Int32)), lv c', sd, iv (((p5.toUInt32 >>> ((3 : Int32) &&& 31).toUInt32).toInt32) &&& (3 : Int32)), lv d', sd, iv cap, iv r0', iv r1', iv r2', iv r3', rv b48, iv (if m0 q0 = (-1 : Int32) then (1 : Int32) else (0 : Int32)), iv (if m55 b' = (-1 : Int32) then (1 : Int32) else (0 : Int32)), iv (if m60 c' = (-1 : Int32) then (1 : Int32) else (0 : Int32)), iv (if m65 q0 = (-1 : Int32) then (1 : Int32) else (0 : Int32)), iv eB, iv eC, iv r0', iv rB, iv rC, iv rD, iv (1 : Int32), iv (1 : Int32)] []))
    refine Go.stp (fun t_ k_ => XS.iload X83.here hx rfl (hb hby at_405) rfl k_) ?_
    show Go p.tables e below G (T83.setTop (mkF m 407 #[lv q0, sd, lv q1, sd, lv q2, sd, lv q3, sd, iv p4, iv p5, lv b', sd, iv (((p5.toUInt32 >>> ((1 : Int32) &&& 31).toUInt32).toInt32) &&& (3 : Int32)), lv c', sd, iv (((p5.toUInt32 >>> ((3 : Int32) &&& 31).toUInt32).toInt32) &&& (3 : Int32)), lv d', sd, iv cap, iv r0', iv r1', iv r2', iv r3', rv b48, iv (if m0 q0 = (-1 : Int32) then (1 : Int32) else (0 : Int32)), iv (if m55 b' = (-1 : Int32) then (1 : Int32) else (0 : Int32)), iv (if m60 c' = (-1 : Int32) then (1 : Int32) else (0 : Int32)), iv (if m65 q0 = (-1 : Int32) then (1 : Int32) else (0 : Int32)), iv eB, iv eC, iv r0', iv rB, iv rC, iv rD, iv (1 : Int32), iv (1 : Int32)] [(.int (1 : Int32))]))
    refine Go.stp (fun t_ k_ => XS.ifNo X83.here hx rfl (hb hby at_407) rfl ((if0 _ _).trans (feq (by decide : ¬ ((1 : Int32) = (0 : Int32)))).1) k_) ?_
    show Go p.tables e below G (T83.setTop (mkF m 410 #[lv q0, sd, lv q1, sd, lv q2, sd, lv q3, sd, iv p4, iv p5, lv b', sd, iv (((p5.toUInt32 >>> ((1 : Int32) &&& 31).toUInt32).toInt32) &&& (3 : Int32)), lv c', sd, iv (((p5.toUInt32 >>> ((3 : Int32) &&& 31).toUInt32).toInt32) &&& (3 : Int32)), lv d', sd, iv cap, iv r0', iv r1', iv r2', iv r3', rv b48, iv (if m0 q0 = (-1 : Int32) then (1 : Int32) else (0 : Int32)), iv (if m55 b' = (-1 : Int32) then (1 : Int32) else (0 : Int32)), iv (if m60 c' = (-1 : Int32) then (1 : Int32) else (0 : Int32)), iv (if m65 q0 = (-1 : Int32) then (1 : Int32) else (0 : Int32)), iv eB, iv eC, iv r0', iv rB, iv rC, iv rD, iv (1 : Int32), iv (1 : Int32)] []))
    refine Go.stp (fun t_ k_ => XS.iconst X83.here hx rfl (hb hby at_410) k_) ?_
    show Go p.tables e below G (T83.setTop (mkF m 411 #[lv q0, sd, lv q1, sd, lv q2, sd, lv q3, sd, iv p4, iv p5, lv b', sd, iv (((p5.toUInt32 >>> ((1 : Int32) &&& 31).toUInt32).toInt32) &&& (3 : Int32)), lv c', sd, iv (((p5.toUInt32 >>> ((3 : Int32) &&& 31).toUInt32).toInt32) &&& (3 : Int32)), lv d', sd, iv cap, iv r0', iv r1', iv r2', iv r3', rv b48, iv (if m0 q0 = (-1 : Int32) then (1 : Int32) else (0 : Int32)), iv (if m55 b' = (-1 : Int32) then (1 : Int32) else (0 : Int32)), iv (if m60 c' = (-1 : Int32) then (1 : Int32) else (0 : Int32)), iv (if m65 q0 = (-1 : Int32) then (1 : Int32) else (0 : Int32)), iv eB, iv eC, iv r0', iv rB, iv rC, iv rD, iv (1 : Int32), iv (1 : Int32)] [(.int (1 : Int32))]))
    refine Go.stp (fun t_ k_ => XS.goto X83.here hx rfl (pc0 := 411) (pc' := 415) rfl (hb hby at_411) (by decide) (by decide) k_) ?_
    show Go p.tables e below G (T83.setTop (mkF m 415 #[lv q0, sd, lv q1, sd, lv q2, sd, lv q3, sd, iv p4, iv p5, lv b', sd, iv (((p5.toUInt32 >>> ((1 : Int32) &&& 31).toUInt32).toInt32) &&& (3 : Int32)), lv c', sd, iv (((p5.toUInt32 >>> ((3 : Int32) &&& 31).toUInt32).toInt32) &&& (3 : Int32)), lv d', sd, iv cap, iv r0', iv r1', iv r2', iv r3', rv b48, iv (if m0 q0 = (-1 : Int32) then (1 : Int32) else (0 : Int32)), iv (if m55 b' = (-1 : Int32) then (1 : Int32) else (0 : Int32)), iv (if m60 c' = (-1 : Int32) then (1 : Int32) else (0 : Int32)), iv (if m65 q0 = (-1 : Int32) then (1 : Int32) else (0 : Int32)), iv eB, iv eC, iv r0', iv rB, iv rC, iv rD, iv (1 : Int32), iv (1 : Int32)] [(.int (1 : Int32))]))
    obtain ⟨fs, hr, hrun, hended, hW, hsame⟩ := X83.leave (v := some (.int (1 : Int32))) (fun h => by rw [Bd.returns] at h; cases h)
    refine ⟨_, _, retN X83 hx (t := .boolean) Bd.returns (by simp) (hb hby at_415) hr, hrun, hended, hG _ _ _ ?_ ⟨⟨_, rfl⟩, hW, hsame.mono (by decide) (by decide)⟩⟩
    show Q0 Z q0 q1 q2 q3 p4 p5 h0 n0 _ T83.heap _
    rw [e83]
    exact ⟨rfl, N83⟩
set_option maxRecDepth 65536 in
set_option maxHeartbeats 40000000 in
theorem comes_1 {Post : Tables → Env → Array Value → State → Outcome → State → Prop} (hpost : ∀ tb e args s v u, (limb_1_1.after args s (.returned v) u = true ∧ limb_1_2.after args s (.returned v) u = true ∧ True) → FrameEnd s (.returned v) u (Jvm.fieldLocs frame_1_writes args s ++ Jvm.arrayLocs frame_1_arrays args s ++ Jvm.staticLocs frame_1_statics s) 16 192 → Post tb e args s (.returned v) u) :
    ArmFor flags0 classFile x code maxLocals ret World_1 tables_1 room_1 Calls_1 rest_1 Pre_1 Post := by
  intro l hfl _ _ p e ha hc hk s m args below hf hA hF happ hP
  obtain ⟨hcalls, hrest, hpre⟩ := hP
  obtain ⟨-, -, -, hnamed, -, -, -, hat⟩ := (Spec.applies_iff hf).mp happ
  obtain ⟨hg, hn⟩ := and_e (Cond.before_iff.mp (show (Jvm.Cond.and given_1 narrow_1).before args s = true from hpre))
  obtain ⟨g1a, g1b⟩ := and_e hg
  obtain ⟨g2a, g2b⟩ := and_e g1b
  obtain ⟨g3a, g3b⟩ := and_e g2b
  obtain ⟨g4a, g4b⟩ := and_e g3b
  obtain ⟨g5a, g5b⟩ := and_e g4b
  obtain ⟨g6a, g6b⟩ := and_e g5b
  obtain ⟨w0, w1, w2, w3, w4, w5, rfl⟩ : ∃ w0 w1 w2 w3 w4 w5 : Value, args = #[w0, w1, w2, w3, w4, w5] := by
    have hs : args.size = 6 := by simpa [Cond.value, given_1] using g1a
    obtain ⟨L⟩ := args
    match L, hs with
    | [w0, w1, w2, w3, w4, w5], _ => exact ⟨w0, w1, w2, w3, w4, w5, rfl⟩
  have hw := fun d (hd : d ∈ tables_1) => atoms_spec (ws := Jvm.Cond.code x code maxLocals ret :: tables_1) hat d (List.mem_cons_of_mem _ hd)
  have hfit : Fit s := fun {y c} hc i hi => by
    obtain ⟨ha, rfl⟩ := Array.getElem?_eq_some_iff.mp hc
    have q := List.all_eq_true.mp ((Array.all_eq_true_iff_forall_mem.mp hF) _ (Array.getElem_mem ha)) i (List.mem_range.mpr hi)
    simpa [Array.getElem?_eq_getElem hi] using q
  obtain ⟨i0, ei0⟩ := isL_v g2a
  obtain rfl : w0 = (.long i0) := Option.some.inj ei0
  obtain ⟨i1, ei1⟩ := isL_v g3a
  obtain rfl : w1 = (.long i1) := Option.some.inj ei1
  obtain ⟨i2, ei2⟩ := isL_v g4a
  obtain rfl : w2 = (.long i2) := Option.some.inj ei2
  obtain ⟨i3, ei3⟩ := isL_v g5a
  obtain rfl : w3 = (.long i3) := Option.some.inj ei3
  obtain ⟨i4, ei4⟩ := is_v g6a
  obtain rfl : w4 = (.int i4) := Option.some.inj ei4
  obtain ⟨i5, ei5⟩ := is_v g6b
  obtain rfl : w5 = (.int i5) := Option.some.inj ei5
  obtain ⟨n, o, h1, h2, h3, _, L, rfl, ⟨rfl, N⟩, hq⟩ := rm0 l s _ hw tables_1 i0 i1 i2 i3 i4 i5  s.heap s.heap.size (Nat.le_refl _)  p e ha hc hk s m _ below hf ((Spec.applies_iff_loose hf).mp happ).1 ⟨rfl, State.Warmed39.refl s, rfl⟩ trivial
  refine ⟨n, _, h1, h2, h3, hpost _ _ _ _ _ _ ⟨Cond.after_iff.mpr rfl, Cond.after_iff.mpr (eq_i res_at (Term.int_eval (1)) rfl), trivial⟩ ⟨hq.1, hq.2.1, (hq.2.2.sift fun y hy => Or.inr (N y hy)).mono (by decide) (by decide)⟩⟩
theorem main_1_1 : Claimed_1_1 := comes_1 fun _ _ _ _ _ _ h hF => ⟨h.1, hF⟩
theorem main_1_2 : Claimed_1_2 := comes_1 fun _ _ _ _ _ _ h hF => ⟨h.2.1, hF⟩
end Jvm.Pilot.@@N@@
namespace Jvm.Pilot.@@N@@
open Jvm Jvm.ClassFile Sem Op Lib Jvm.Free Jvm.Stand Jvm.Pilot.@@N@@.Jvm.D
/-! MADE BY PROGRAM (witnessworld.py) out of the Statement's table words and the real class files: 18 classes; the members and pool entries that the words name. The judged class is class 1, her method 1. -/
namespace start1
open Jvm.ClassFile
def u (s : String) : CpInfo := .utf8 (stringToUtf16 s)
/-- a pool by its gaps: so many unusable entries, then the entry; so many at the end -/
def gap : Nat → List CpInfo → List CpInfo
  | 0, r => r
  | n + 1, r => .unusable :: gap n r
def poolList (es : List (Nat × CpInfo)) (last : Nat) : List CpInfo := es.foldr (fun e r => gap e.1 (e.2 :: r)) (gap last [])
def pool (es : List (Nat × CpInfo)) (last : Nat) : Array CpInfo := ⟨poolList es last⟩
def fileOf (pool : Array CpInfo) (this : Nat) (attrs : Array Attribute := #[]) (ms : Array MethodInfo := #[]) (fl : Nat := 33) (sup : Nat := 0) (ifs : Array Nat := #[]) (fds : Array FieldInfo := #[]) : ClassFile where
  minorVersion := 0
  majorVersion := 65
  constantPool := pool
  accessFlags := fl
  thisClass := this
  superClass := sup
  interfaces := ifs
  fields := fds
  methods := ms
  attributes := attrs
def plain (name : String) (sup : Option ClassId) : Class where
  name := name
  kind := .ordinary
  loader := none
  accessFlags := 33
  super := sup
  interfaces := #[]
  cf := none
  fields := #[]
  methods := #[]
  instanceTypes := #[]
  staticTypes := #[]
  resolved := #[]
  callSites := []
  init := .initialized
  statics := none
  mirror := none

def pool0 : Array CpInfo := pool [(5, u "<init>"), (0, u "()V"), (1, .class_ 10), (1, u "java/lang/Object")] 113

def k0c0 : Code := { maxStack := 0, maxLocals := 1, code := object_method_1_code, exceptionTable := #[], attributes := #[] }
def k0m0 : Method := { name := "<init>", desc := "()V", sig := { parameters := [], returnType := none }, accessFlags := 1, code := some k0c0 }
/-- java/lang/Object -/
def k0 : Class := { plain "java/lang/Object" none with
  accessFlags := 33
  interfaces := #[]
  cf := some (fileOf pool0 8 #[] #[{ accessFlags := 1, nameIndex := 5, descriptorIndex := 6, attributes := #[] }] 33 0 #[] #[])
  fields := #[]
  methods := #[k0m0]
  instanceTypes := #[]
  staticTypes := #[]
  resolved := Array.replicate 124 none
  statics := none }

def pool1 : Array CpInfo := pool [(2, .class_ 4), (1, u "java/lang/Object"), (0, u "<init>"), (0, u "()V"), (0, .integer 2147483647), (0, .class_ 9), (0, u "com/example/chatterbench/chatterbench/data/IdIndex"), (0, .methodref 8 11), (0, .nameAndType 5 12), (0, u "(Lcom/example/chatterbench/chatterbench/data/Entity;I)V"), (0, .methodref 8 14), (0, .nameAndType 15 16), (0, u "add"), (0, u "(JI)Z"), (0, .methodref 8 18), (0, .nameAndType 19 20), (0, u "row"), (0, u "(J)I"), (0, .class_ 22), (0, u "com/example/chatterbench/chatterbench/data/IdIndexAddPinLaw"), (2, u "law"), (0, u "(JJJJII)Z")] 3

def k1m0 : Method := { name := "<init>", desc := "()V", sig := { parameters := [], returnType := none }, accessFlags := 2, code := none }
def k1c1 : Code := { maxStack := 4, maxLocals := 36, code := code, exceptionTable := #[], attributes := #[] }
def k1m1 : Method := { name := "law", desc := "(JJJJII)Z", sig := { parameters := [.long, .long, .long, .long, .int, .int], returnType := some .boolean }, accessFlags := 9, code := some k1c1 }
/-- com/example/chatterbench/chatterbench/data/IdIndexAddPinLaw -/
def k1 : Class := { plain "com/example/chatterbench/chatterbench/data/IdIndexAddPinLaw" (some 0) with
  accessFlags := 49
  interfaces := #[]
  cf := some (fileOf pool1 21 #[] #[{ accessFlags := 2, nameIndex := 5, descriptorIndex := 6, attributes := #[] }, { accessFlags := 9, nameIndex := 25, descriptorIndex := 26, attributes := #[] }] 49 2 #[] #[])
  fields := #[]
  methods := #[k1m0, k1m1]
  instanceTypes := #[]
  staticTypes := #[]
  resolved := Array.replicate 30 none
  statics := none }

def pool2 : Array CpInfo := pool [(1, .methodref 2 3), (0, .class_ 4), (0, .nameAndType 5 6), (0, u "java/lang/Object"), (0, u "<init>"), (0, u "()V"), (0, .fieldref 8 9), (0, .class_ 10), (0, .nameAndType 11 12), (0, u "com/example/chatterbench/chatterbench/data/IdIndex"), (0, u "entity"), (0, u "Lcom/example/chatterbench/chatterbench/data/Entity;"), (0, .class_ 14), (0, u "java/lang/Integer"), (0, .methodref 16 17), (0, .class_ 18), (0, .nameAndType 19 20), (0, u "java/lang/Math"), (0, u "max"), (0, u "(II)I"), (0, .methodref 13 22), (0, .nameAndType 23 24), (0, u "numberOfLeadingZeros"), (0, u "(I)I"), (0, .fieldref 8 26), (0, .nameAndType 27 28), (0, u "ids"), (0, u "[J"), (0, .fieldref 8 30), (0, .nameAndType 31 32), (0, u "rows"), (0, u "[I"), (0, .methodref 34 35), (0, .class_ 36), (0, .nameAndType 37 38), (0, u "java/util/Arrays"), (0, u "fill"), (0, u "([II)V"), (2, .fieldref 8 42), (0, .nameAndType 43 44), (0, u "shift"), (0, u "I"), (8, u "(Lcom/example/chatterbench/chatterbench/data/Entity;I)V"), (6, u "add"), (0, u "(JI)Z"), (12, .methodref 8 75), (0, .nameAndType 76 77), (0, u "slot"), (0, u "(J)I"), (18, u "row"), (3, .long 11400714819323198485), (1, u "NO_ROW"), (2, u "SPREAD"), (0, u "J")] 32

def k2c0 : Code := { maxStack := 4, maxLocals := 4, code := prog_10_method_1_code, exceptionTable := #[], attributes := #[] }
def k2m0 : Method := { name := "<init>", desc := "(Lcom/example/chatterbench/chatterbench/data/Entity;I)V", sig := { parameters := [(.object "com/example/chatterbench/chatterbench/data/Entity"), .int], returnType := none }, accessFlags := 0, code := some k2c0 }
def k2c1 : Code := { maxStack := 4, maxLocals := 6, code := prog_10_method_3_code, exceptionTable := #[], attributes := #[] }
def k2m1 : Method := { name := "add", desc := "(JI)Z", sig := { parameters := [.long, .int], returnType := some .boolean }, accessFlags := 0, code := some k2c1 }
def k2c2 : Code := { maxStack := 4, maxLocals := 3, code := prog_10_method_4_code, exceptionTable := #[], attributes := #[] }
def k2m2 : Method := { name := "row", desc := "(J)I", sig := { parameters := [.long], returnType := some .int }, accessFlags := 1, code := some k2c2 }
def k2c3 : Code := { maxStack := 4, maxLocals := 4, code := prog_10_method_7_code, exceptionTable := #[], attributes := #[] }
def k2m3 : Method := { name := "slot", desc := "(J)I", sig := { parameters := [.long], returnType := some .int }, accessFlags := 2, code := some k2c3 }
/-- com/example/chatterbench/chatterbench/data/IdIndex -/
def k2 : Class := { plain "com/example/chatterbench/chatterbench/data/IdIndex" (some 0) with
  accessFlags := 49
  interfaces := #[]
  cf := some (fileOf pool2 8 #[] #[{ accessFlags := 0, nameIndex := 5, descriptorIndex := 53, attributes := #[] }, { accessFlags := 0, nameIndex := 60, descriptorIndex := 61, attributes := #[] }, { accessFlags := 1, nameIndex := 96, descriptorIndex := 77, attributes := #[] }, { accessFlags := 2, nameIndex := 76, descriptorIndex := 77, attributes := #[] }] 49 2 #[] #[{ accessFlags := 25, nameIndex := 102, descriptorIndex := 44, attributes := #[] }, { accessFlags := 26, nameIndex := 105, descriptorIndex := 106, attributes := #[] }, { accessFlags := 18, nameIndex := 11, descriptorIndex := 12, attributes := #[] }, { accessFlags := 18, nameIndex := 27, descriptorIndex := 28, attributes := #[] }, { accessFlags := 18, nameIndex := 31, descriptorIndex := 32, attributes := #[] }, { accessFlags := 18, nameIndex := 43, descriptorIndex := 44, attributes := #[] }])
  fields := #[{ name := "NO_ROW", type := .int, accessFlags := 25, slot := 0, constantValue := 0 }, { name := "SPREAD", type := .long, accessFlags := 26, slot := 1, constantValue := 0 }, { name := "entity", type := (.object "com/example/chatterbench/chatterbench/data/Entity"), accessFlags := 18, slot := 0, constantValue := 0 }, { name := "ids", type := (.array .long), accessFlags := 18, slot := 1, constantValue := 0 }, { name := "rows", type := (.array .int), accessFlags := 18, slot := 2, constantValue := 0 }, { name := "shift", type := .int, accessFlags := 18, slot := 3, constantValue := 0 }]
  methods := #[k2m0, k2m1, k2m2, k2m3]
  instanceTypes := #[(.object "com/example/chatterbench/chatterbench/data/Entity"), (.array .long), (.array .int), .int]
  staticTypes := #[.int, .long]
  resolved := Array.replicate 139 none
  statics := none }

def pool3 : Array CpInfo := pool [(1, .class_ 2), (0, u "java/lang/Math"), (1, .class_ 6), (1, u "java/lang/Object"), (0, u "<init>"), (0, u "()V"), (89, .class_ 100), (1, u "java/lang/Math$RandomNumberGeneratorHolder"), (71, u "negativeZeroFloatBits"), (0, u "J"), (2, u "negativeZeroDoubleBits"), (21, u "max"), (46, u "$assertionsDisabled"), (0, u "Z"), (88, u "(II)I"), (2, u "twoToTheDoubleScaleDown"), (0, u "D"), (4, u "twoToTheDoubleScaleUp"), (9, u "E"), (3, u "PI"), (2, u "TAU"), (2, u "DEGREES_TO_RADIANS"), (0, u "RADIANS_TO_DEGREES")] 94

def k3m0 : Method := { name := "<init>", desc := "()V", sig := { parameters := [], returnType := none }, accessFlags := 2, code := none }
def k3c1 : Code := { maxStack := 2, maxLocals := 2, code := jdk_29_method_65_code, exceptionTable := #[], attributes := #[] }
def k3m1 : Method := { name := "max", desc := "(II)I", sig := { parameters := [.int, .int], returnType := some .int }, accessFlags := 9, code := some k3c1 }
/-- java/lang/Math -/
def k3 : Class := { plain "java/lang/Math" (some 0) with
  accessFlags := 49
  interfaces := #[]
  cf := some (fileOf pool3 1 #[.nestMembers #[98]] #[{ accessFlags := 2, nameIndex := 7, descriptorIndex := 8, attributes := #[] }, { accessFlags := 9, nameIndex := 198, descriptorIndex := 335, attributes := #[] }] 49 4 #[] #[{ accessFlags := 25, nameIndex := 354, descriptorIndex := 339, attributes := #[] }, { accessFlags := 25, nameIndex := 358, descriptorIndex := 339, attributes := #[] }, { accessFlags := 25, nameIndex := 361, descriptorIndex := 339, attributes := #[] }, { accessFlags := 26, nameIndex := 364, descriptorIndex := 339, attributes := #[] }, { accessFlags := 26, nameIndex := 365, descriptorIndex := 339, attributes := #[] }, { accessFlags := 26, nameIndex := 172, descriptorIndex := 173, attributes := #[] }, { accessFlags := 26, nameIndex := 176, descriptorIndex := 173, attributes := #[] }, { accessFlags := 8, nameIndex := 344, descriptorIndex := 339, attributes := #[] }, { accessFlags := 8, nameIndex := 338, descriptorIndex := 339, attributes := #[] }, { accessFlags := 4120, nameIndex := 245, descriptorIndex := 246, attributes := #[] }])
  fields := #[{ name := "E", type := .double, accessFlags := 25, slot := 0, constantValue := 0 }, { name := "PI", type := .double, accessFlags := 25, slot := 1, constantValue := 0 }, { name := "TAU", type := .double, accessFlags := 25, slot := 2, constantValue := 0 }, { name := "DEGREES_TO_RADIANS", type := .double, accessFlags := 26, slot := 3, constantValue := 0 }, { name := "RADIANS_TO_DEGREES", type := .double, accessFlags := 26, slot := 4, constantValue := 0 }, { name := "negativeZeroFloatBits", type := .long, accessFlags := 26, slot := 5, constantValue := 0 }, { name := "negativeZeroDoubleBits", type := .long, accessFlags := 26, slot := 6, constantValue := 0 }, { name := "twoToTheDoubleScaleUp", type := .double, accessFlags := 8, slot := 7, constantValue := 0 }, { name := "twoToTheDoubleScaleDown", type := .double, accessFlags := 8, slot := 8, constantValue := 0 }, { name := "$assertionsDisabled", type := .boolean, accessFlags := 4120, slot := 9, constantValue := 0 }]
  methods := #[k3m0, k3m1]
  instanceTypes := #[]
  staticTypes := #[.double, .double, .double, .double, .double, .long, .long, .double, .double, .boolean]
  resolved := Array.replicate 460 none
  statics := none }

def pool4 : Array CpInfo := pool [(1, .class_ 2), (0, u "java/io/Serializable"), (0, .class_ 4), (0, u "java/lang/Object")] 2

/-- java/io/Serializable -/
def k4 : Class := { plain "java/io/Serializable" (some 0) with
  accessFlags := 1537
  interfaces := #[]
  cf := some (fileOf pool4 1 #[] #[] 1537 3 #[] #[])
  fields := #[]
  methods := #[]
  instanceTypes := #[]
  staticTypes := #[]
  resolved := Array.replicate 7 none
  statics := none }

def pool5 : Array CpInfo := pool [(2, .class_ 4), (1, u "java/lang/Object"), (0, u "<init>"), (0, u "()V"), (1, .class_ 10), (1, u "java/lang/Number"), (2, .class_ 14), (0, u "java/io/Serializable"), (0, u "serialVersionUID"), (0, u "J")] 20

def k5m0 : Method := { name := "<init>", desc := "()V", sig := { parameters := [], returnType := none }, accessFlags := 1, code := none }
/-- java/lang/Number -/
def k5 : Class := { plain "java/lang/Number" (some 0) with
  accessFlags := 1057
  interfaces := #[4]
  cf := some (fileOf pool5 8 #[] #[{ accessFlags := 1, nameIndex := 5, descriptorIndex := 6, attributes := #[] }] 1057 2 #[13] #[{ accessFlags := 26, nameIndex := 15, descriptorIndex := 16, attributes := #[] }])
  fields := #[{ name := "serialVersionUID", type := .long, accessFlags := 26, slot := 0, constantValue := 0 }]
  methods := #[k5m0]
  instanceTypes := #[]
  staticTypes := #[.long]
  resolved := Array.replicate 37 none
  statics := none }

def pool6 : Array CpInfo := pool [(1, .class_ 2), (0, u "java/lang/Comparable"), (0, .class_ 4), (0, u "java/lang/Object")] 7

/-- java/lang/Comparable -/
def k6 : Class := { plain "java/lang/Comparable" (some 0) with
  accessFlags := 1537
  interfaces := #[]
  cf := some (fileOf pool6 1 #[] #[] 1537 3 #[] #[])
  fields := #[]
  methods := #[]
  instanceTypes := #[]
  staticTypes := #[]
  resolved := Array.replicate 12 none
  statics := none }

def pool7 : Array CpInfo := pool [(1, .class_ 2), (0, u "java/lang/constant/Constable"), (0, .class_ 4), (0, u "java/lang/Object")] 6

/-- java/lang/constant/Constable -/
def k7 : Class := { plain "java/lang/constant/Constable" (some 0) with
  accessFlags := 1537
  interfaces := #[]
  cf := some (fileOf pool7 1 #[] #[] 1537 3 #[] #[])
  fields := #[]
  methods := #[]
  instanceTypes := #[]
  staticTypes := #[]
  resolved := Array.replicate 11 none
  statics := none }

def pool8 : Array CpInfo := pool [(1, .class_ 2), (0, u "java/lang/constant/ConstantDesc"), (0, .class_ 4), (0, u "java/lang/Object")] 32

/-- java/lang/constant/ConstantDesc -/
def k8 : Class := { plain "java/lang/constant/ConstantDesc" (some 0) with
  accessFlags := 1537
  interfaces := #[]
  cf := some (fileOf pool8 1 #[] #[] 1537 3 #[] #[])
  fields := #[]
  methods := #[]
  instanceTypes := #[]
  staticTypes := #[]
  resolved := Array.replicate 37 none
  statics := none }

def pool9 : Array CpInfo := pool [(1, .class_ 2), (0, u "java/lang/Integer"), (16, u "digits"), (0, u "[C"), (32, u "numberOfLeadingZeros"), (0, u "(I)I"), (30, u "DigitOnes"), (0, u "[B"), (2, u "DigitTens"), (99, .class_ 190), (0, u "java/lang/Integer$IntegerCache"), (3, u "I"), (8, .class_ 204), (0, u "java/lang/Number"), (2, u "value"), (56, .integer 65536), (37, u "TYPE"), (0, u "Ljava/lang/Class;"), (0, .class_ 305), (0, u "java/lang/Comparable"), (0, .class_ 307), (0, u "java/lang/constant/Constable"), (0, .class_ 309), (0, u "java/lang/constant/ConstantDesc"), (0, u "MIN_VALUE"), (1, u "MAX_VALUE"), (3, u "SIZE"), (1, u "BYTES"), (1, u "serialVersionUID"), (0, u "J")] 131

def k9c0 : Code := { maxStack := 3, maxLocals := 2, code := jdk_33_method_47_code, exceptionTable := #[], attributes := #[] }
def k9m0 : Method := { name := "numberOfLeadingZeros", desc := "(I)I", sig := { parameters := [.int], returnType := some .int }, accessFlags := 9, code := some k9c0 }
/-- java/lang/Integer -/
def k9 : Class := { plain "java/lang/Integer" (some 5) with
  accessFlags := 49
  interfaces := #[6, 7, 8]
  cf := some (fileOf pool9 1 #[.nestMembers #[189]] #[{ accessFlags := 9, nameIndex := 53, descriptorIndex := 54, attributes := #[] }] 49 203 #[304, 306, 308] #[{ accessFlags := 25, nameIndex := 310, descriptorIndex := 194, attributes := #[] }, { accessFlags := 25, nameIndex := 312, descriptorIndex := 194, attributes := #[] }, { accessFlags := 25, nameIndex := 302, descriptorIndex := 303, attributes := #[] }, { accessFlags := 24, nameIndex := 19, descriptorIndex := 20, attributes := #[] }, { accessFlags := 24, nameIndex := 89, descriptorIndex := 86, attributes := #[] }, { accessFlags := 24, nameIndex := 85, descriptorIndex := 86, attributes := #[] }, { accessFlags := 18, nameIndex := 207, descriptorIndex := 194, attributes := #[] }, { accessFlags := 25, nameIndex := 316, descriptorIndex := 194, attributes := #[] }, { accessFlags := 25, nameIndex := 318, descriptorIndex := 194, attributes := #[] }, { accessFlags := 26, nameIndex := 320, descriptorIndex := 321, attributes := #[] }])
  fields := #[{ name := "MIN_VALUE", type := .int, accessFlags := 25, slot := 0, constantValue := 0 }, { name := "MAX_VALUE", type := .int, accessFlags := 25, slot := 1, constantValue := 0 }, { name := "TYPE", type := (.object "java/lang/Class"), accessFlags := 25, slot := 2, constantValue := 0 }, { name := "digits", type := (.array .char), accessFlags := 24, slot := 3, constantValue := 0 }, { name := "DigitTens", type := (.array .byte), accessFlags := 24, slot := 4, constantValue := 0 }, { name := "DigitOnes", type := (.array .byte), accessFlags := 24, slot := 5, constantValue := 0 }, { name := "value", type := .int, accessFlags := 18, slot := 0, constantValue := 0 }, { name := "SIZE", type := .int, accessFlags := 25, slot := 6, constantValue := 0 }, { name := "BYTES", type := .int, accessFlags := 25, slot := 7, constantValue := 0 }, { name := "serialVersionUID", type := .long, accessFlags := 26, slot := 8, constantValue := 0 }]
  methods := #[k9m0]
  instanceTypes := #[.int]
  staticTypes := #[.int, .int, (.object "java/lang/Class"), (.array .char), (.array .byte), (.array .byte), .int, .int, .long]
  resolved := Array.replicate 453 none
  statics := none }

def pool10 : Array CpInfo := pool [(2, .class_ 4), (1, u "java/lang/Object"), (0, u "<init>"), (0, u "()V"), (7, .class_ 16), (1, u "java/util/Arrays"), (57, .class_ 76), (1, u "java/util/Arrays$NaturalOrder"), (36, .class_ 115), (1, u "java/util/Arrays$LegacyMergeSort"), (1, u "Z"), (257, .class_ 376), (0, u "java/util/Arrays$ArrayList"), (68, u "$assertionsDisabled"), (269, u "MIN_ARRAY_SORT_GRAN"), (0, u "I"), (2, u "INSERTIONSORT_THRESHOLD"), (120, u "fill"), (4, u "([II)V"), (129, .class_ 976), (0, u "java/util/Arrays$ArrayItr")] 52

def k10m0 : Method := { name := "<init>", desc := "()V", sig := { parameters := [], returnType := none }, accessFlags := 2, code := none }
def k10c1 : Code := { maxStack := 3, maxLocals := 4, code := jdk_65_method_103_code, exceptionTable := #[], attributes := #[] }
def k10m1 : Method := { name := "fill", desc := "([II)V", sig := { parameters := [(.array .int), .int], returnType := none }, accessFlags := 9, code := some k10c1 }
/-- java/util/Arrays -/
def k10 : Class := { plain "java/util/Arrays" (some 0) with
  accessFlags := 49
  interfaces := #[]
  cf := some (fileOf pool10 14 #[.nestMembers #[975, 375, 113, 74]] #[{ accessFlags := 2, nameIndex := 5, descriptorIndex := 6, attributes := #[] }, { accessFlags := 9, nameIndex := 840, descriptorIndex := 845, attributes := #[] }] 49 2 #[] #[{ accessFlags := 26, nameIndex := 715, descriptorIndex := 716, attributes := #[] }, { accessFlags := 26, nameIndex := 719, descriptorIndex := 716, attributes := #[] }, { accessFlags := 4120, nameIndex := 445, descriptorIndex := 117, attributes := #[] }])
  fields := #[{ name := "MIN_ARRAY_SORT_GRAN", type := .int, accessFlags := 26, slot := 0, constantValue := 0 }, { name := "INSERTIONSORT_THRESHOLD", type := .int, accessFlags := 26, slot := 1, constantValue := 0 }, { name := "$assertionsDisabled", type := .boolean, accessFlags := 4120, slot := 2, constantValue := 0 }]
  methods := #[k10m0, k10m1]
  instanceTypes := #[]
  staticTypes := #[.int, .int, .boolean]
  resolved := Array.replicate 1029 none
  statics := none }

def pool11 : Array CpInfo := pool [(1, u "java/lang/Cloneable"), (0, .class_ 1), (0, u "java/lang/Object"), (0, .class_ 3)] 3

/-- java/lang/Cloneable -/
def k11 : Class := { plain "java/lang/Cloneable" (some 0) with
  accessFlags := 1537
  interfaces := #[]
  cf := some (fileOf pool11 2 #[] #[] 1537 4 #[] #[])
  fields := #[]
  methods := #[]
  instanceTypes := #[]
  staticTypes := #[]
  resolved := Array.replicate 8 none
  statics := none }

/-- the primitive byte -/
def k12 : Class := { plain "byte" none with kind := .primitive 'B', accessFlags := 0x411 }
/-- [B -/
def k13 : Class := { plain "[B" (some 0) with kind := .array 12 .byte, interfaces := #[11, 4], accessFlags := 1041 }

/-- the primitive int -/
def k14 : Class := { plain "int" none with kind := .primitive 'I', accessFlags := 0x411 }
/-- [I -/
def k15 : Class := { plain "[I" (some 0) with kind := .array 14 .int, interfaces := #[11, 4], accessFlags := 1041 }

/-- the primitive long -/
def k16 : Class := { plain "long" none with kind := .primitive 'J', accessFlags := 0x411 }
/-- [J -/
def k17 : Class := { plain "[J" (some 0) with kind := .array 16 .long, interfaces := #[11, 4], accessFlags := 1041 }

def heap : Heap := #[]
def classes : Array Class := #[k0, k1, k2, k3, k4, k5, k6, k7, k8, k9, k10, k11, k12, k13, k14, k15, k16, k17]
def interned : List (Array UInt16 × Addr) := []
def slotsUsed : Nat := 0
def theMethod : MethodId := ⟨1, 1⟩
def args0 : Array Value := #[.long 5, .long 7, .long 9, .long 11, .int 3, .int 0]
def aboutOver (below : List Frame) : State where
  vm := { classes := classes, interned := interned.toArray }
  heap := heap
  slotsUsed := slotsUsed
  threads := #[{ frames := .invoking theMethod args0 :: below }]
def below0 : List Frame := [.native { method := ⟨0, 0⟩, args := #[] }]
def about1 : State := aboutOver below0
def p0 : Program := .bare "" "" ""
def e0 : Env := launch0.env 0 0 0
theorem w_frames : about1.frames = Frame.invoking theMethod args0 :: below0 := rfl
set_option maxRecDepth 65536 in
theorem w_args : argsFit about1.vm theMethod args0 = true := by decide +kernel
set_option maxRecDepth 65536 in
theorem w_heap : heapFits about1 = true := by decide +kernel
set_option maxRecDepth 65536 in
theorem w_runnable : about1.curStatus? = some .runnable := by decide +kernel
set_option maxRecDepth 65536 in
theorem w_alone : about1.alone = true := by decide +kernel
set_option maxRecDepth 65536 in
theorem w_named : about1.methodNamed? x = some theMethod := by decide +kernel
set_option maxRecDepth 65536 in
theorem w_hears : about1.hears theMethod below0 = true := by decide +kernel
set_option maxRecDepth 65536 in
theorem w_ripe : about1.ripe theMethod args0 below0 = true := by decide +kernel
theorem w_running : about1.status = .running := rfl
set_option maxRecDepth 65536 in
theorem w_room : about1.hasRoom e0.platform room_1 = true :=
  launch0.hasRoom_least _ room_1 (by decide +kernel) (by decide +kernel) (by decide +kernel) (by decide +kernel) (by decide +kernel) (by decide +kernel)
theorem allAtoms_all (ts : List Jvm.Cond) (a : Array Jvm.Value) (st : Jvm.State) : (allAtoms ts).before a st = ts.all (fun c => c.before a st) := by
  induction ts with
  | nil => rfl
  | cons c t ih =>
    show (Jvm.Cond.and c (allAtoms t)).before a st = _
    rw [Jvm.Cond.before_and, ih, List.all_cons]
def words1 : List Jvm.Cond := Jvm.Cond.code x code maxLocals ret :: tables_1
/-- a 'code' word, met by the world's own term for the bytes: nothing is compared byte by byte -/
theorem code_word {y : MethodName} {bytes : ByteArray} {mx : Nat} {rt : Option FieldType} {a : Array Value} {s : State} {m : MethodId} {meth : Method} {c : Code} (h1 : s.methodNamed? y = some m) (h2 : s.vm.method? m = some meth) (h3 : meth.code = some c) (h4 : c.code = bytes)
    (h5 : (c.maxLocals == mx && c.exceptionTable.isEmpty && decide (c.maxStack ≤ mostOperands) && decide (meth.sig.returnType = rt) && !meth.locks && decide (parseMethodDescriptor y.desc = some meth.sig)) = true) : (Jvm.Cond.code y bytes mx rt).before a s = true := by
  simp only [Bool.and_eq_true, beq_iff_eq, Bool.not_eq_true', decide_eq_true_eq] at h5
  obtain ⟨⟨⟨⟨⟨g1, g2⟩, g3⟩, g4⟩, g5⟩, g6⟩ := h5
  simp [Cond.before, Cond.holds, Cond.value, h1, h2, h3, h4, g1, g2, g3, g4, g5, g6]
def isCode : Jvm.Cond → Bool
  | .code _ _ _ _ => true
  | _ => false
theorem all_split {L : List Jvm.Cond} {P : Jvm.Cond → Bool} (h1 : L.all (fun c => isCode c || P c) = true) (h2 : ∀ c ∈ L.filter isCode, P c = true) : L.all P = true := by
  refine List.all_eq_true.mpr fun c hc => ?_
  have h := List.all_eq_true.mp h1 c hc
  rcases Bool.eq_false_or_eq_true (isCode c) with hi | hi
  · exact h2 c (List.mem_filter.mpr ⟨hc, hi⟩)
  · simpa [hi] using h
set_option maxRecDepth 65536 in
theorem w_c0 : (Jvm.Cond.code x code maxLocals ret).before args0 about1 = true := code_word (m := ⟨1, 1⟩) (meth := k1m1) (c := k1c1) (by decide +kernel) rfl rfl rfl (by decide +kernel)
set_option maxRecDepth 65536 in
theorem w_c1 : (Jvm.Cond.code ({ cls := "com/example/chatterbench/chatterbench/data/IdIndex", name := "<init>", desc := "(Lcom/example/chatterbench/chatterbench/data/Entity;I)V" } : Jvm.MethodName) prog_10_method_1_code (4 : Nat) (Option.none : Option Jvm.ClassFile.FieldType)).before args0 about1 = true := code_word (m := ⟨2, 0⟩) (meth := k2m0) (c := k2c0) (by decide +kernel) rfl rfl rfl (by decide +kernel)
set_option maxRecDepth 65536 in
theorem w_c2 : (Jvm.Cond.code ({ cls := "java/lang/Object", name := "<init>", desc := "()V" } : Jvm.MethodName) object_method_1_code (1 : Nat) (Option.none : Option Jvm.ClassFile.FieldType)).before args0 about1 = true := code_word (m := ⟨0, 0⟩) (meth := k0m0) (c := k0c0) (by decide +kernel) rfl rfl rfl (by decide +kernel)
set_option maxRecDepth 65536 in
theorem w_c3 : (Jvm.Cond.code ({ cls := "java/lang/Math", name := "max", desc := "(II)I" } : Jvm.MethodName) jdk_29_method_65_code (2 : Nat) (Option.some Jvm.ClassFile.FieldType.int)).before args0 about1 = true := code_word (m := ⟨3, 1⟩) (meth := k3m1) (c := k3c1) (by decide +kernel) rfl rfl rfl (by decide +kernel)
set_option maxRecDepth 65536 in
theorem w_c4 : (Jvm.Cond.code ({ cls := "java/lang/Integer", name := "numberOfLeadingZeros", desc := "(I)I" } : Jvm.MethodName) jdk_33_method_47_code (2 : Nat) (Option.some Jvm.ClassFile.FieldType.int)).before args0 about1 = true := code_word (m := ⟨9, 0⟩) (meth := k9m0) (c := k9c0) (by decide +kernel) rfl rfl rfl (by decide +kernel)
set_option maxRecDepth 65536 in
theorem w_c5 : (Jvm.Cond.code ({ cls := "java/util/Arrays", name := "fill", desc := "([II)V" } : Jvm.MethodName) jdk_65_method_103_code (4 : Nat) (Option.none : Option Jvm.ClassFile.FieldType)).before args0 about1 = true := code_word (m := ⟨10, 1⟩) (meth := k10m1) (c := k10c1) (by decide +kernel) rfl rfl rfl (by decide +kernel)
set_option maxRecDepth 65536 in
theorem w_c6 : (Jvm.Cond.code ({ cls := "com/example/chatterbench/chatterbench/data/IdIndex", name := "add", desc := "(JI)Z" } : Jvm.MethodName) prog_10_method_3_code (6 : Nat) (Option.some Jvm.ClassFile.FieldType.boolean)).before args0 about1 = true := code_word (m := ⟨2, 1⟩) (meth := k2m1) (c := k2c1) (by decide +kernel) rfl rfl rfl (by decide +kernel)
set_option maxRecDepth 65536 in
theorem w_c7 : (Jvm.Cond.code ({ cls := "com/example/chatterbench/chatterbench/data/IdIndex", name := "slot", desc := "(J)I" } : Jvm.MethodName) prog_10_method_7_code (4 : Nat) (Option.some Jvm.ClassFile.FieldType.int)).before args0 about1 = true := code_word (m := ⟨2, 3⟩) (meth := k2m3) (c := k2c3) (by decide +kernel) rfl rfl rfl (by decide +kernel)
set_option maxRecDepth 65536 in
theorem w_c8 : (Jvm.Cond.code ({ cls := "com/example/chatterbench/chatterbench/data/IdIndex", name := "row", desc := "(J)I" } : Jvm.MethodName) prog_10_method_4_code (3 : Nat) (Option.some Jvm.ClassFile.FieldType.int)).before args0 about1 = true := code_word (m := ⟨2, 2⟩) (meth := k2m2) (c := k2c2) (by decide +kernel) rfl rfl rfl (by decide +kernel)
def codes1 : List Jvm.Cond := [Jvm.Cond.code x code maxLocals ret, Jvm.Cond.code ({ cls := "com/example/chatterbench/chatterbench/data/IdIndex", name := "<init>", desc := "(Lcom/example/chatterbench/chatterbench/data/Entity;I)V" } : Jvm.MethodName) prog_10_method_1_code (4 : Nat) (Option.none : Option Jvm.ClassFile.FieldType), Jvm.Cond.code ({ cls := "java/lang/Object", name := "<init>", desc := "()V" } : Jvm.MethodName) object_method_1_code (1 : Nat) (Option.none : Option Jvm.ClassFile.FieldType), Jvm.Cond.code ({ cls := "java/lang/Math", name := "max", desc := "(II)I" } : Jvm.MethodName) jdk_29_method_65_code (2 : Nat) (Option.some Jvm.ClassFile.FieldType.int), Jvm.Cond.code ({ cls := "java/lang/Integer", name := "numberOfLeadingZeros", desc := "(I)I" } : Jvm.MethodName) jdk_33_method_47_code (2 : Nat) (Option.some Jvm.ClassFile.FieldType.int), Jvm.Cond.code ({ cls := "java/util/Arrays", name := "fill", desc := "([II)V" } : Jvm.MethodName) jdk_65_method_103_code (4 : Nat) (Option.none : Option Jvm.ClassFile.FieldType), Jvm.Cond.code ({ cls := "com/example/chatterbench/chatterbench/data/IdIndex", name := "add", desc := "(JI)Z" } : Jvm.MethodName) prog_10_method_3_code (6 : Nat) (Option.some Jvm.ClassFile.FieldType.boolean), Jvm.Cond.code ({ cls := "com/example/chatterbench/chatterbench/data/IdIndex", name := "slot", desc := "(J)I" } : Jvm.MethodName) prog_10_method_7_code (4 : Nat) (Option.some Jvm.ClassFile.FieldType.int), Jvm.Cond.code ({ cls := "com/example/chatterbench/chatterbench/data/IdIndex", name := "row", desc := "(J)I" } : Jvm.MethodName) prog_10_method_4_code (3 : Nat) (Option.some Jvm.ClassFile.FieldType.int)]
set_option maxRecDepth 65536 in
theorem codes_eq : words1.filter isCode = codes1 := rfl
theorem w_codes : ∀ c ∈ words1.filter isCode, c.before args0 about1 = true := by
  rw [codes_eq]
  intro c hc
  simp only [codes1, List.mem_cons, List.not_mem_nil, or_false] at hc
  rcases hc with rfl | rfl | rfl | rfl | rfl | rfl | rfl | rfl | rfl
  · exact w_c0
  · exact w_c1
  · exact w_c2
  · exact w_c3
  · exact w_c4
  · exact w_c5
  · exact w_c6
  · exact w_c7
  · exact w_c8
set_option maxRecDepth 65536 in
theorem w_t1 : (words1.take 24).all (fun c => isCode c || c.before args0 about1) = true := by decide +kernel
set_option maxRecDepth 65536 in
theorem w_t2 : ((words1.drop 24).take 24).all (fun c => isCode c || c.before args0 about1) = true := by decide +kernel
set_option maxRecDepth 65536 in
theorem w_t3 : ((words1.drop 24).drop 24).all (fun c => isCode c || c.before args0 about1) = true := by decide +kernel
theorem w_tables : (allAtoms (Jvm.Cond.code x code maxLocals ret :: tables_1)).before args0 about1 = true := by
  rw [allAtoms_all]
  show words1.all (fun c => c.before args0 about1) = true
  refine all_split ?_ w_codes
  rw [← List.take_append_drop 24 words1, List.all_append, w_t1, ← List.take_append_drop 24 (words1.drop 24), List.all_append, w_t2, w_t3]
  rfl
set_option maxRecDepth 65536 in
theorem w_case : (Jvm.Cond.and given_1 narrow_1).before args0 about1 = true := by decide +kernel
theorem w_applies : (headSpec (Jvm.Cond.code x code maxLocals ret :: tables_1) room_1).applies x e0.platform about1 = true :=
  (Spec.applies_iff w_frames).mpr ⟨w_running, w_runnable, w_alone, w_named, w_hears, w_ripe, w_room, w_tables⟩
theorem atStart : AtStart classFile x code maxLocals ret World_1 tables_1 room_1 Calls_1 rest_1 Pre_1 launch0 p0 e0 about1 theMethod args0 below0 :=
  ⟨lists_1, trivial, launch0.admits_env _ _ _, launch0.least_env, fairChoices_fair.cas, fairChoices_fair.clock, w_frames, w_args, w_heap, w_applies, trivial, trivial, w_case⟩
end start1
theorem witness_1 : WitnessClaimed_1 := ⟨start1.p0, start1.e0, start1.about1, start1.theMethod, start1.args0, start1.below0, start1.atStart⟩
end Jvm.Pilot.@@N@@
