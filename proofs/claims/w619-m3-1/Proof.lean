import JvmDerived
import JvmDerived.Pilot.@@N@@Statement
import JvmDerived.Pilot.@@N@@Code
set_option linter.unusedVariables false
set_option linter.unusedSimpArgs false
namespace Jvm.RoadKit
open Sem ClassFile Op Lib Jvm.Stand Jvm.Free Jvm.LawKit
section New
variable {p : Program} {l : Launch} {e : Env} {R : Room} {s : State} {m : MethodId} {args : Array Value} {below : List Frame} {meth : Method} {c : Code} {T : State} {locs : List Loc} {cells slots : Nat}
theorem retI (X : Stand p l e R s m args below meth c T locs cells slots) (hx : p.tables.exec = Jvm.exec) {pc : Nat} {Ls : Array Slot} {z : Int32} {rest : List Value} (hret : meth.sig.returnType = some .int) (hd : decode c.code pc = .ok (.ireturn, 1)) {fs : List Frame}
    (hl : ∀ (f : JFrame) (acts : List Action), f.method = m → f.locked = none → f.entered = [] → (doReturn e (T.setTop f) acts (some (.int z))).1 = T.setFrames fs) : Steps p.tables e below (T.setTop (mkF m pc Ls (.int z :: rest))) (T.setFrames fs) := by
  have hm' : T.vm.method? m = some meth := X.method'
  have hn : narrow .int (.int z) = .int z := rfl
  show Steps p.tables e below (T.setTop { method := m, pc := pc, locals := Ls, stack := _ :: rest, locked := none }) _
  jvm_step X.here [X.here.top, hx, hd, hm', hret, hn]
  first | (intro acts; rw [hl _ acts rfl rfl rfl]) | rw [hl _ _ rfl rfl rfl]
  exact Steps.refl _
theorem retL (X : Stand p l e R s m args below meth c T locs cells slots) (hx : p.tables.exec = Jvm.exec) {pc : Nat} {Ls : Array Slot} {z : Int64} {rest : List Value} (hret : meth.sig.returnType = some .long) (hd : decode c.code pc = .ok (.lreturn, 1)) {fs : List Frame}
    (hl : ∀ (f : JFrame) (acts : List Action), f.method = m → f.locked = none → f.entered = [] → (doReturn e (T.setTop f) acts (some (.long z))).1 = T.setFrames fs) : Steps p.tables e below (T.setTop (mkF m pc Ls (.long z :: rest))) (T.setFrames fs) := by
  have hm' : T.vm.method? m = some meth := X.method'
  show Steps p.tables e below (T.setTop { method := m, pc := pc, locals := Ls, stack := _ :: rest, locked := none }) _
  jvm_step X.here [X.here.top, hx, hd, hm', hret, narrow]
  first | (intro acts; rw [hl _ acts rfl rfl rfl]) | rw [hl _ _ rfl rfl rfl]
  exact Steps.refl _
theorem retR (X : Stand p l e R s m args below meth c T locs cells slots) (hx : p.tables.exec = Jvm.exec) {pc : Nat} {Ls : Array Slot} {z : Value} {rest : List Value} {ty : FieldType} (hz : z.isRef = true) (hty : ty.isReference = true) (hret : meth.sig.returnType = some ty) (hd : decode c.code pc = .ok (.areturn, 1)) {fs : List Frame}
    (hl : ∀ (f : JFrame) (acts : List Action), f.method = m → f.locked = none → f.entered = [] → (doReturn e (T.setTop f) acts (some z)).1 = T.setFrames fs) : Steps p.tables e below (T.setTop (mkF m pc Ls (z :: rest))) (T.setFrames fs) := by
  have hm' : T.vm.method? m = some meth := X.method'
  show Steps p.tables e below (T.setTop { method := m, pc := pc, locals := Ls, stack := _ :: rest, locked := none }) _
  jvm_step X.here [X.here.top, hx, hd, hm', hret, hz, hty]
  first | (intro acts; rw [hl _ acts rfl rfl rfl]) | rw [hl _ _ rfl rfl rfl]
  exact Steps.refl _
end New
abbrev lv (x : Int64) : Slot := .val (.long x)
abbrev un : Slot := .unset
abbrev sd : Slot := .second
/-- where the run stands, it comes to an end that G likes -/
def Go (tb : Tables) (e : Env) (below : List Frame) (G : Outcome → State → Prop) (F : State) : Prop := ∃ t o, Steps tb e below F t ∧ t.status = .running ∧ Ended t below o ∧ G o t
theorem Go.stp {tb : Tables} {e : Env} {below : List Frame} {G : Outcome → State → Prop} {F F' : State} (h : ∀ t, Steps tb e below F' t → Steps tb e below F t) (g : Go tb e below G F') : Go tb e below G F := by
  obtain ⟨t, o, h1, r⟩ := g
  exact ⟨t, o, h _ h1, r⟩
end Jvm.RoadKit
namespace Jvm.RoadKit
open Sem ClassFile Op Lib Jvm.Stand Jvm.Free Jvm.LawKit
/-- the array at a has n places of the sort ty; place j holds f j -/
def Ia {α : Type} (Z : State) (h : Heap) (a : Addr) (ty : FieldType) (n : Nat) (mk : α → Value) (f : Nat → α) : Prop := ∃ c : Cell, Arr Z h a c ty ∧ c.slots.size = n ∧ n < 2147483648 ∧ ∀ j, j < n → c.slots[j]? = some (mk (f j))
def upf {α : Type} (f : Nat → α) (i : Nat) (x : α) : Nat → α := fun j => if j = i then x else f j
theorem upf_same {α : Type} (f : Nat → α) (i : Nat) (x : α) : upf f i x i = x := by simp [upf]
theorem upf_ne {α : Type} (f : Nat → α) (i j : Nat) (x : α) (h : j ≠ i) : upf f i x j = f j := by simp [upf, h]
section IaS
variable {α : Type} {Z : State} {h h' : Heap} {a b : Addr} {ty : FieldType} {n sl : Nat} {mk : α → Value} {f : Nat → α} {v : Value} {ws : List Addr}
theorem Ia.lt (F : Ia Z h a ty n mk f) : a < h.size := by obtain ⟨c, A, -⟩ := F; exact A.lt
theorem Ia.ext (F : Ia Z h a ty n mk f) (E : Ext h h') : Ia Z h' a ty n mk f := by obtain ⟨c, A, r⟩ := F; exact ⟨c, A.ext E, r⟩
theorem Ia.other (F : Ia Z h b ty n mk f) (W : Wr h h' a sl v) (q : b ≠ a) : Ia Z h' b ty n mk f := by obtain ⟨c, A, r⟩ := F; exact ⟨c, A.other W q, r⟩
theorem Ia.keep (F : Ia Z h a ty n mk f) (K : Keep h h' ws) (q : a ∉ ws) : Ia Z h' a ty n mk f := by obtain ⟨c, A, r⟩ := F; exact ⟨c, ⟨K.2.1 a c A.1 q, A.2⟩, r⟩
theorem Ia.new {k : ClassId} {z : Int32} {x : α} (A : Arr Z h a (newA k ty z) ty) (hz : z.toNatClampNeg = n) (hn : n < 2147483648) (hx : defaultValue ty = mk x) : Ia Z h a ty n mk (fun _ => x) := by
  refine ⟨_, A, by rw [sz_new, hz], hn, fun j hj => ?_⟩
  simp [newA, hz, hj, hx]
theorem Ia.set {x : α} {j : Int32} {i : Nat} (F : Ia Z h a ty n mk f) (W : Wr h h' a j.toNatClampNeg (mk x)) (hj : j.toNatClampNeg = i) : Ia Z h' a ty n mk (upf f i x) := by
  obtain ⟨c, A, s1, s2, s3⟩ := F
  refine ⟨_, A.same W, by simpa [Cell.setSlot] using s1, s2, fun k hk => ?_⟩
  subst hj
  have q := s3 k hk
  simp only [Cell.setSlot, upf]
  by_cases e : k = j.toNatClampNeg
  · subst e
    rw [Array.getElem?_setIfInBounds_self]
    simp [s1, hk]
  · rw [Array.getElem?_setIfInBounds_ne (by omega), q]
    simp [e]
end IaS
theorem in_of {c : Cell} {n : Nat} {j : Int32} (S : c.slots.size = n) (h : 0 ≤ j.toInt ∧ j.toInt < n) : ¬ (j < 0 ∨ c.slots.size ≤ j.toNatClampNeg) := by
  rw [S, Int32.lt_iff_toInt_lt]
  have e0 : (0 : Int32).toInt = 0 := rfl
  simp only [Int32.toNatClampNeg]
  omega
theorem at_of {n : Nat} {j : Int32} (h : 0 ≤ j.toInt ∧ j.toInt < n) : j.toNatClampNeg < n := by
  simp only [Int32.toNatClampNeg]
  omega
end Jvm.RoadKit
namespace Jvm.RoadKit
open Sem ClassFile Op Lib Jvm.Stand Jvm.Free Jvm.LawKit
theorem sta_keep {Z : State} {h h' : Heap} {a : Addr} {C C' n d : String} {v : Value} (F : Sta Z h C n d v) (K : Keep h h' [a]) (E : Exa Z h a C') : Sta Z h' C n d v := by
  obtain ⟨cf, i, k, f, st, cell, h1, h2, h3, h4, h5, h6, h7⟩ := F
  obtain ⟨ce, ke, g1, g2, g3, g4, g5⟩ := E
  refine ⟨cf, i, k, f, st, cell, h1, h2, h3, h4, K.2.1 st cell h5 (fun q => ?_), h6, h7⟩
  rw [List.mem_singleton.mp q, g1] at h5
  rw [Option.some.inj h5] at g4
  rw [g4] at h6
  cases h6
end Jvm.RoadKit
namespace Jvm.RoadKit
open Sem ClassFile Op Lib Jvm.Stand Jvm.Free Jvm.LawKit
theorem sel_priv {s : State} {args : Array Value} {y : MethodName} {n : Nat} (hi : (Jvm.Cond.instantiable y.cls n).before args s = true) (hpriv : s.PrivateAt y) (hinst : (Jvm.Cond.instanceMethod y).before args s = true) (hy : y.cls ≠ "java/lang/invoke/MethodHandle" ∧ y.cls ≠ "java/lang/invoke/VarHandle") : (Jvm.Cond.selects y.cls y y).before args s = true := by
  cases hc : s.vm.findClass y.cls with
  | none => simp [Jvm.Cond.before, Jvm.Cond.holds, Jvm.Cond.value, hc] at hi
  | some c =>
    cases hk : s.vm.classes[c]? with
    | none => simp [Jvm.Cond.before, Jvm.Cond.holds, Jvm.Cond.value, hc, hk] at hi
    | some k =>
      refine selects_self_of_private hc hk ?_ hpriv hinst hy
      simp [Jvm.Cond.before, Jvm.Cond.holds, Jvm.Cond.value, hc, hk] at hi
      cases hq : k.isInterface with
      | false => rfl
      | true => simp [hq] at hi
end Jvm.RoadKit
namespace Jvm.Pilot.@@N@@
open Jvm Jvm.ClassFile Sem Op Lib Jvm.Free Jvm.Stand Jvm.LawKit Jvm.RoadKit Bundle Jvm.Pilot.@@N@@.Jvm.D
def own_max (a b : Int32) : Int32 := if a < b then b else a
def own_i : Nat → Int32
  | 0 => 0
  | u + 1 => own_i u + (1 : Int32)
theorem own_iv (u : Nat) (h : u < 1000) : (own_i u).toInt = u := by
  induction u with
  | zero => rfl
  | succ u ih =>
    have q := ih (by omega)
    have a := c_iadd (own_i u) 1
    have r := rng32 (own_i u + 1)
    have e1 : (1 : Int32).toInt = 1 := by decide
    show (own_i u + 1).toInt = _
    omega
theorem own_in (u : Nat) (h : u < 1000) : (own_i u).toNatClampNeg = u := by
  have q := own_iv u h
  simp only [Int32.toNatClampNeg]
  omega
def own_it (h M : Int32) : Nat → Int32
  | 0 => h
  | u + 1 => (own_it h M u + (1 : Int32)) &&& M
theorem own_pig (F : List Nat) : ∀ (f : Nat → Nat), (∀ u v, u ≤ F.length → v ≤ F.length → f u = f v → u = v) → ∃ v, v ≤ F.length ∧ f v ∉ F := by
  induction F with
  | nil => intro f _; exact ⟨0, Nat.le_refl _, by simp⟩
  | cons a F ih =>
    intro f hf
    by_cases hw : ∃ w, w ≤ F.length + 1 ∧ f w = a
    · obtain ⟨w, hw1, hw2⟩ := hw
      obtain ⟨v, hv1, hv2⟩ := ih (fun u => if u < w then f u else f (u + 1)) (by
        intro u v hu hv
        simp only [List.length_cons] at hf
        by_cases h1 : u < w
        · by_cases h2 : v < w
          · simp only [h1, h2, if_true]; exact fun q => hf u v (by omega) (by omega) q
          · simp only [h1, h2, if_true, if_false]; intro q; have := hf u (v + 1) (by omega) (by omega) q; omega
        · by_cases h2 : v < w
          · simp only [h1, h2, if_true, if_false]; intro q; have := hf (u + 1) v (by omega) (by omega) q; omega
          · simp only [h1, h2, if_false]; intro q; have := hf (u + 1) (v + 1) (by omega) (by omega) q; omega)
      simp only [List.length_cons] at hf ⊢
      by_cases h1 : v < w
      · simp only [h1, if_true] at hv2
        refine ⟨v, by omega, ?_⟩
        rw [List.mem_cons]
        rintro (q | q)
        · have := hf v w (by omega) hw1 (q.trans hw2.symm); omega
        · exact hv2 q
      · simp only [h1, if_false] at hv2
        refine ⟨v + 1, by omega, ?_⟩
        rw [List.mem_cons]
        rintro (q | q)
        · have := hf (v + 1) w (by omega) hw1 (q.trans hw2.symm); omega
        · exact hv2 q
    · simp only [List.length_cons] at hf ⊢
      obtain ⟨v, hv1, hv2⟩ := ih f (fun u v hu hv q => hf u v (by omega) (by omega) q)
      refine ⟨v, by omega, ?_⟩
      rw [List.mem_cons]
      rintro (q | q)
      · exact hw ⟨v, by omega, q⟩
      · exact hv2 q
theorem own_least (Q : Nat → Prop) (n : Nat) (h : Q n) : ∃ t, t ≤ n ∧ Q t ∧ ∀ u, u < t → ¬ Q u := by
  induction n using Nat.strongRecOn with
  | _ n ih =>
    by_cases hu : ∃ u, u < n ∧ Q u
    · obtain ⟨u, h1, h2⟩ := hu
      obtain ⟨t, t1, t2, t3⟩ := ih u h1 h2
      exact ⟨t, by omega, t2, t3⟩
    · exact ⟨n, Nat.le_refl _, h, fun u h1 h2 => hu ⟨u, h1, h2⟩⟩
def Stop (R : Nat → Int32) (I : Nat → Int64) (p : Nat → Nat) (x : Int64) (t : Nat) : Prop := (∀ u, u < t → R (p u) ≠ (-1 : Int32) ∧ I (p u) ≠ x) ∧ (R (p t) = (-1 : Int32) ∨ I (p t) = x)
def updm (m : Int64 → Int32) (x : Int64) (r : Int32) : Int64 → Int32 := fun y => if y = x then r else m y
def Rep (N : Nat) (P : Int64 → Nat → Nat) (R : Nat → Int32) (I : Nat → Int64) (m : Int64 → Int32) (F : List Nat) : Prop :=
  (∀ i, i < N → R i ≠ (-1 : Int32) → i ∈ F) ∧ (∀ x, ∃ t, t < N ∧ Stop R I (P x) x t ∧ R (P x t) = m x) ∧ (∀ i, i < N → R i ≠ (-1 : Int32) → m (I i) = R i)
theorem rep_nil (N : Nat) (P : Int64 → Nat → Nat) (I : Nat → Int64) (hN : 0 < N) : Rep N P (fun _ => (-1 : Int32)) I (fun _ => (-1 : Int32)) [] :=
  ⟨fun i _ h => absurd rfl h, fun x => ⟨0, hN, ⟨fun u h => absurd h (Nat.not_lt_zero _), Or.inl rfl⟩, rfl⟩, fun i _ h => absurd rfl h⟩
theorem rep_add {N : Nat} {P : Int64 → Nat → Nat} {R : Nat → Int32} {I : Nat → Int64} {m : Int64 → Int32} {F : List Nat} (h : Rep N P R I m F) (hP : ∀ x u, P x u < N) (hI : ∀ x u v, u < N → v < N → P x u = P x v → u = v) (hF : F.length + 1 < N) {x : Int64} {r : Int32} (hr : r ≠ (-1 : Int32)) {t : Nat} (hs : Stop R I (P x) x t) (he : R (P x t) = (-1 : Int32)) (ht : t < N) (hm : m x = (-1 : Int32)) :
    Rep N P (upf R (P x t) r) (upf I (P x t) x) (updm m x r) (P x t :: F) := by
  obtain ⟨h1, h2, h3⟩ := h
  have k1 : ∀ i, i < N → upf R (P x t) r i ≠ (-1 : Int32) → i ∈ P x t :: F := by
    intro i hi hn
    by_cases e : i = P x t
    · rw [e]; exact List.mem_cons_self
    · rw [upf_ne _ _ _ _ e] at hn; exact List.mem_cons_of_mem _ (h1 i hi hn)
  have k3 : ∀ i, i < N → upf R (P x t) r i ≠ (-1 : Int32) → updm m x r (upf I (P x t) x i) = upf R (P x t) r i := by
    intro i hi hn
    by_cases e : i = P x t
    · rw [e, upf_same, upf_same]; simp [updm]
    · rw [upf_ne _ _ _ _ e] at hn ⊢
      rw [upf_ne _ _ _ _ e]
      have q := h3 i hi hn
      unfold updm
      split
      · rename_i ei
        rw [ei, hm] at q
        exact absurd q.symm hn
      · exact q
  refine ⟨k1, fun y => ?_, k3⟩
  obtain ⟨s, s1, s2, s3⟩ := h2 y
  have far : ∀ u, u < s → P y u ≠ P x t := fun u hu q => (s2.1 u hu).1 (by rw [q]; exact he)
  by_cases hy : y = x
  · subst hy
    refine ⟨t, ht, ⟨fun u hu => ?_, Or.inr (upf_same _ _ _)⟩, by rw [upf_same]; simp [updm]⟩
    have q : P y u ≠ P y t := fun q => (hs.1 u hu).1 (by rw [q]; exact he)
    rw [upf_ne _ _ _ _ q, upf_ne _ _ _ _ q]
    exact hs.1 u hu
  · have um : updm m x r y = m y := by simp [updm, hy]
    by_cases hq : P y s = P x t
    · have my : m y = (-1 : Int32) := by rw [← s3, hq]; exact he
      obtain ⟨v, v1, v2⟩ := own_pig (P x t :: F) (P y) (fun a b ha hb => hI y a b (by simp only [List.length_cons] at ha; omega) (by simp only [List.length_cons] at hb; omega))
      simp only [List.length_cons] at v1
      have ve : upf R (P x t) r (P y v) = (-1 : Int32) := by
        cases Decidable.em (upf R (P x t) r (P y v) = (-1 : Int32)) with
        | inl q => exact q
        | inr q => exact absurd (k1 _ (hP y v) q) v2
      obtain ⟨w, w1, w2, w3⟩ := own_least (fun u => upf R (P x t) r (P y u) = (-1 : Int32) ∨ upf I (P x t) x (P y u) = y) v (Or.inl ve)
      refine ⟨w, by omega, ⟨fun u hu => ⟨fun q => w3 u hu (Or.inl q), fun q => w3 u hu (Or.inr q)⟩, w2⟩, ?_⟩
      rw [um, my]
      cases Decidable.em (upf R (P x t) r (P y w) = (-1 : Int32)) with
      | inl q => exact q
      | inr q =>
        have z := k3 _ (hP y w) q
        rcases w2 with w2 | w2
        · exact absurd w2 q
        · rw [w2, um, my] at z
          exact absurd z.symm q
    · refine ⟨s, s1, ⟨fun u hu => ?_, ?_⟩, ?_⟩
      · rw [upf_ne _ _ _ _ (far u hu), upf_ne _ _ _ _ (far u hu)]
        exact s2.1 u hu
      · rw [upf_ne _ _ _ _ hq, upf_ne _ _ _ _ hq]
        exact s2.2
      · rw [upf_ne _ _ _ _ hq, um]
        exact s3
theorem own_fs {g : Nat → Int32} {u : Nat} {x : Int32} (h : ∀ j, j < u → g j = x) (hu : u < 1000) : ∀ j, j < u + 1 → upf g (own_i u).toNatClampNeg x j = x := by
  rw [own_in u hu]
  intro j hj
  by_cases e : j = u
  · rw [e, upf_same]
  · rw [upf_ne _ _ _ _ e]
    exact h j (by omega)
theorem Ia_cong {α : Type} {Z : State} {h : Heap} {a : Addr} {ty : FieldType} {n : Nat} {mk : α → Value} {f g : Nat → α} (F : Ia Z h a ty n mk f) (q : ∀ j, j < n → f j = g j) : Ia Z h a ty n mk g := by
  obtain ⟨c, A, s1, s2, s3⟩ := F
  exact ⟨c, A, s1, s2, fun j hj => by rw [← q j hj]; exact s3 j hj⟩
def own_hm8 (x : Int64) : Int32 := (((x * (-7046029254386353131 : Int64)).toUInt64 >>> ((61 : Int32) &&& 0x3f).toInt64.toUInt64).toInt64).toInt32
theorem own_hb8 (x : Int64) : 0 ≤ (own_hm8 x).toInt ∧ (own_hm8 x).toInt < 8 := by
  have h := c_lushr (x * (-7046029254386353131 : Int64)) 61 61 (by decide) (by decide)
  have r := rng64 (x * (-7046029254386353131 : Int64))
  unfold own_hm8
  have q := c_l2i (((x * (-7046029254386353131 : Int64)).toUInt64 >>> ((61 : Int32) &&& 0x3f).toInt64.toUInt64).toInt64)
  have r2 := rng32 ((((x * (-7046029254386353131 : Int64)).toUInt64 >>> ((61 : Int32) &&& 0x3f).toInt64.toUInt64).toInt64).toInt32)
  omega
theorem own_tv8 (h : Int32) (hb : 0 ≤ h.toInt ∧ h.toInt < 8) (u : Nat) : (own_it h ((8 : Int32) - (1 : Int32)) u).toInt = (h.toInt + u) % 8 := by
  have e1 : (1 : Int32).toInt = 1 := by decide
  have eM : ((8 : Int32) - (1 : Int32)) = (7 : Int32) := by decide
  rw [eM]
  induction u with
  | zero => show h.toInt = _; omega
  | succ u ih =>
    have a := c_mask (own_it h (7 : Int32) u + (1 : Int32)) 7 3 (by decide) (by decide)
    have b := c_iadd (own_it h (7 : Int32) u) 1
    show ((own_it h (7 : Int32) u + (1 : Int32)) &&& (7 : Int32)).toInt = _
    omega
theorem own_tb8 (x : Int64) (u : Nat) : 0 ≤ (own_it (own_hm8 x) ((8 : Int32) - (1 : Int32)) u).toInt ∧ (own_it (own_hm8 x) ((8 : Int32) - (1 : Int32)) u).toInt < ((8 : Nat) : Int) := by
  rw [own_tv8 _ (own_hb8 x)]
  omega
def own_P8 (x : Int64) (u : Nat) : Nat := (own_it (own_hm8 x) ((8 : Int32) - (1 : Int32)) u).toNatClampNeg
theorem own_Pl8 (x : Int64) (u : Nat) : own_P8 x u < 8 := at_of (own_tb8 x u)
theorem own_Pi8 (x : Int64) (u v : Nat) (hu : u < 8) (hv : v < 8) (q : own_P8 x u = own_P8 x v) : u = v := by
  have a := own_tv8 _ (own_hb8 x) u
  have b := own_tv8 _ (own_hb8 x) v
  have c := own_hb8 x
  unfold own_P8 at q
  simp only [Int32.toNatClampNeg] at q
  omega
theorem own_rows (x : Int32) : (x &&& (536870911 : Int32)) ≠ (-1 : Int32) ∧ (x &&& (536870911 : Int32)) + (536870912 : Int32) ≠ (-1 : Int32) ∧ (x &&& (536870911 : Int32)) + (1073741824 : Int32) ≠ (-1 : Int32) ∧ (x &&& (536870911 : Int32)) ≠ (x &&& (536870911 : Int32)) + (536870912 : Int32) ∧ (x &&& (536870911 : Int32)) ≠ (x &&& (536870911 : Int32)) + (1073741824 : Int32) ∧ (x &&& (536870911 : Int32)) + (536870912 : Int32) ≠ (x &&& (536870911 : Int32)) + (1073741824 : Int32) := by
  have h := c_mask x 536870911 29 (by decide) (by decide)
  generalize (x &&& (536870911 : Int32)) = b at *
  have a1 := c_iadd b 536870912
  have a2 := c_iadd b 1073741824
  have e1 : (536870912 : Int32).toInt = 536870912 := by decide
  have e2 : (1073741824 : Int32).toInt = 1073741824 := by decide
  have e3 : (-1 : Int32).toInt = -1 := by decide
  have r1 := rng32 (b + 536870912)
  have r2 := rng32 (b + 1073741824)
  simp only [ne_eq, ← Int32.toInt_inj]
  omega
theorem pd_0 : parseMethodDescriptor "(II)I" = some ⟨[.int, .int], some .int⟩ := by decide +kernel
theorem pd_1 : parseMethodDescriptor "(I)I" = some ⟨[.int], some .int⟩ := by decide +kernel
theorem pd_2 : parseMethodDescriptor "([II)V" = some ⟨[(.array .int), .int], none⟩ := by decide +kernel
theorem pd_3 : parseMethodDescriptor "(J)I" = some ⟨[.long], some .int⟩ := by decide +kernel
theorem pd_4 : parseMethodDescriptor "(Lcom/example/chatterbench/chatterbench/data/Entity;I)V" = some ⟨[(.object "com/example/chatterbench/chatterbench/data/Entity"), .int], none⟩ := by decide +kernel
theorem pd_5 : parseMethodDescriptor "(JI)Z" = some ⟨[.long, .int], some .boolean⟩ := by decide +kernel
theorem pd_6 : parseMethodDescriptor "(I)J" = some ⟨[.int], some .long⟩ := by decide +kernel
theorem d3_0 : decode jdk_29_method_65_code 0 = .ok (.iload_n 0, 1) := by decide +kernel
theorem d3_1 : decode jdk_29_method_65_code 1 = .ok (.iload_n 1, 1) := by decide +kernel
theorem d3_2 : decode jdk_29_method_65_code 2 = .ok (.if_icmp .lt 7, 3) := by decide +kernel
theorem d3_5 : decode jdk_29_method_65_code 5 = .ok (.iload_n 0, 1) := by decide +kernel
theorem d3_6 : decode jdk_29_method_65_code 6 = .ok (.goto 4, 3) := by decide +kernel
theorem d3_9 : decode jdk_29_method_65_code 9 = .ok (.iload_n 1, 1) := by decide +kernel
theorem d3_10 : decode jdk_29_method_65_code 10 = .ok (.ireturn, 1) := by decide +kernel
theorem ef_3 (m : MethodId) (p0 : Int32) (p1 : Int32) : entryFrame m #[(.int p0), (.int p1)] 2 = mkF m 0 #[iv p0, iv p1] [] := by first | (simp [entryFrame, mkF, argsToLocals, Value.category, iv, rv, lv, un, sd]; done) | rfl
def Q3 (Z : State) (p0 : Int32) (p1 : Int32) (h0 : Heap) (n0 : Nat) (v : Option Value) (h : Heap) (L : List Loc) : Prop := v = some (.int (own_max p0 p1)) ∧ Fr n0 L ∧ h = h0
set_option maxRecDepth 65536 in
set_option maxHeartbeats 40000000 in
theorem rm3 (l : Launch) (Z : State) (a0 : Array Value) (hw : ∀ d ∈ tables_1, d.before a0 Z = true) (ws : List Jvm.Cond) (p0 : Int32) (p1 : Int32) (h0 : Heap) (n0 : Nat) (Z0 : n0 ≤ h0.size) :
    MetFree l (⟨"java/lang/Math", "max", "(II)I"⟩ : MethodName) (head1 (Jvm.Cond.code (⟨"java/lang/Math", "max", "(II)I"⟩ : MethodName) jdk_29_method_65_code 2 (some .int) :: ws) ({ frames := 0, cells := 0, slots := 0, locals := 0 } : Room)) (fun a U => a = #[(.int p0), (.int p1)] ∧ Z.Warmed39 U.vm ∧ U.heap = h0) (fun _ _ _ _ _ => True) (fun _ U o U' => ∃ v L, o = .returned v ∧ Q3 Z p0 p1 h0 n0 v U'.heap L ∧ FrameEnd U o U' L ({ frames := 0, cells := 0, slots := 0, locals := 0 } : Room).cells ({ frames := 0, cells := 0, slots := 0, locals := 0 } : Room).slots) := by
  refine MetFree.of_bodySF (Jvm.Free.JP.mathPlain rfl (by decide +kernel)) hisR ?_
  intro p e s m args below meth c s₁ Bd hml0 hP hK
  obtain ⟨rfl, hZ, hh⟩ := hP
  have hx := Bd.exec
  have hby := Bd.bytes
  have hml : c.maxLocals = 2 := hml0
  have hown : s.vm.findClass "java/lang/Math" = some m.cls := findClass_of_methodNamed Bd.named
  have hnm := (name_of_methodNamed Bd.named Bd.method).1
  have X0 : Stand p l e ({ frames := 0, cells := 0, slots := 0, locals := 0 } : Room) s m #[(.int p0), (.int p1)] below meth c s₁ [] 0 0 := Stand.of_body Bd
  have e0 : s₁.heap = h0 := by rw [← hh, Bd.state]; rfl
  have N0 := Fr.nil n0
  suffices HH : ∀ G : Outcome → State → Prop, (∀ v L U', Q3 Z p0 p1 h0 n0 v U'.heap L → FrameEnd s (.returned v) U' L ({ frames := 0, cells := 0, slots := 0, locals := 0 } : Room).cells ({ frames := 0, cells := 0, slots := 0, locals := 0 } : Room).slots → G (.returned v) U') → Go p.tables e below G (s₁.setTop (mkF m 0 #[iv p0, iv p1] [])) by
    obtain ⟨s2, o, h1, h2, h3, h4⟩ := HH (fun o U' => ∃ v L, o = .returned v ∧ Q3 Z p0 p1 h0 n0 v U'.heap L ∧ FrameEnd s o U' L ({ frames := 0, cells := 0, slots := 0, locals := 0 } : Room).cells ({ frames := 0, cells := 0, slots := 0, locals := 0 } : Room).slots) (fun v L U' q f => ⟨v, L, rfl, q, f⟩)
    exact ⟨s2, o, castTop (ef_3 m p0 p1) h1, h2, h3, h4⟩
  intro G hG
  show Go p.tables e below G (s₁.setTop (mkF m 0 #[iv p0, iv p1] []))
  refine Go.stp (fun t_ k_ => XS.iloadN X0.here hx rfl (hb hby d3_0) rfl k_) ?_
  show Go p.tables e below G (s₁.setTop (mkF m 1 #[iv p0, iv p1] [(.int p0)]))
  refine Go.stp (fun t_ k_ => XS.iloadN X0.here hx rfl (hb hby d3_1) rfl k_) ?_
  show Go p.tables e below G (s₁.setTop (mkF m 2 #[iv p0, iv p1] [(.int p1), (.int p0)]))
  by_cases hc2 : p0 < p1
  · refine Go.stp (fun t_ k_ => XS.icmpYes X0.here hx rfl (pc0 := 2) (pc' := 9) rfl (hb hby d3_2) rfl (tlt hc2).1 (by decide) (by decide) k_) ?_
    show Go p.tables e below G (s₁.setTop (mkF m 9 #[iv p0, iv p1] []))
    refine Go.stp (fun t_ k_ => XS.iloadN X0.here hx rfl (hb hby d3_9) rfl k_) ?_
    show Go p.tables e below G (s₁.setTop (mkF m 10 #[iv p0, iv p1] [(.int p1)]))
    obtain ⟨fs, hr, hrun, hended, hW, hsame⟩ := X0.leave (v := some (.int p1)) (fun h => by rw [Bd.returns] at h; cases h)
    refine ⟨_, _, retI X0 hx Bd.returns (hb hby d3_10) hr, hrun, hended, hG _ _ _ ?_ ⟨⟨_, rfl⟩, hW, hsame.mono (by decide) (by decide)⟩⟩
    show Q3 Z p0 p1 h0 n0 _ s₁.heap _
    rw [e0]
    exact ⟨by simp [own_max, hc2], N0, rfl⟩
  · refine Go.stp (fun t_ k_ => XS.icmpNo X0.here hx rfl (hb hby d3_2) rfl (flt hc2).1 k_) ?_
    show Go p.tables e below G (s₁.setTop (mkF m 5 #[iv p0, iv p1] []))
    refine Go.stp (fun t_ k_ => XS.iloadN X0.here hx rfl (hb hby d3_5) rfl k_) ?_
    show Go p.tables e below G (s₁.setTop (mkF m 6 #[iv p0, iv p1] [(.int p0)]))
    refine Go.stp (fun t_ k_ => XS.goto X0.here hx rfl (pc0 := 6) (pc' := 10) rfl (hb hby d3_6) (by decide) (by decide) k_) ?_
    show Go p.tables e below G (s₁.setTop (mkF m 10 #[iv p0, iv p1] [(.int p0)]))
    obtain ⟨fs, hr, hrun, hended, hW, hsame⟩ := X0.leave (v := some (.int p0)) (fun h => by rw [Bd.returns] at h; cases h)
    refine ⟨_, _, retI X0 hx Bd.returns (hb hby d3_10) hr, hrun, hended, hG _ _ _ ?_ ⟨⟨_, rfl⟩, hW, hsame.mono (by decide) (by decide)⟩⟩
    show Q3 Z p0 p1 h0 n0 _ s₁.heap _
    rw [e0]
    exact ⟨by simp [own_max, hc2], N0, rfl⟩
theorem pn_4 : plainName "java/lang/Integer" = true := by first | (simp [plainName, overriddenIn]; done) | decide +kernel
theorem d4_0 : decode jdk_33_method_47_code 0 = .ok (.iload_n 0, 1) := by decide +kernel
theorem d4_1 : decode jdk_33_method_47_code 1 = .ok (.ifCond .gt 14, 3) := by decide +kernel
theorem d4_15 : decode jdk_33_method_47_code 15 = .ok (.bipush 31, 2) := by decide +kernel
theorem d4_17 : decode jdk_33_method_47_code 17 = .ok (.istore_n 1, 1) := by decide +kernel
theorem d4_18 : decode jdk_33_method_47_code 18 = .ok (.iload_n 0, 1) := by decide +kernel
theorem d4_19 : decode jdk_33_method_47_code 19 = .ok (.ldc_w 264, 3) := by decide +kernel
theorem d4_22 : decode jdk_33_method_47_code 22 = .ok (.if_icmp .lt 11, 3) := by decide +kernel
theorem d4_33 : decode jdk_33_method_47_code 33 = .ok (.iload_n 0, 1) := by decide +kernel
theorem d4_34 : decode jdk_33_method_47_code 34 = .ok (.sipush 256, 3) := by decide +kernel
theorem d4_37 : decode jdk_33_method_47_code 37 = .ok (.if_icmp .lt 11, 3) := by decide +kernel
theorem d4_48 : decode jdk_33_method_47_code 48 = .ok (.iload_n 0, 1) := by decide +kernel
theorem d4_49 : decode jdk_33_method_47_code 49 = .ok (.bipush 16, 2) := by decide +kernel
theorem d4_51 : decode jdk_33_method_47_code 51 = .ok (.if_icmp .lt 10, 3) := by decide +kernel
theorem d4_61 : decode jdk_33_method_47_code 61 = .ok (.iload_n 0, 1) := by decide +kernel
theorem d4_62 : decode jdk_33_method_47_code 62 = .ok (.iconst 4, 1) := by decide +kernel
theorem d4_63 : decode jdk_33_method_47_code 63 = .ok (.if_icmp .lt 10, 3) := by decide +kernel
theorem d4_66 : decode jdk_33_method_47_code 66 = .ok (.iinc 1 (-2), 3) := by decide +kernel
theorem d4_69 : decode jdk_33_method_47_code 69 = .ok (.iload_n 0, 1) := by decide +kernel
theorem d4_70 : decode jdk_33_method_47_code 70 = .ok (.iconst 2, 1) := by decide +kernel
theorem d4_71 : decode jdk_33_method_47_code 71 = .ok (.iushr, 1) := by decide +kernel
theorem d4_72 : decode jdk_33_method_47_code 72 = .ok (.istore_n 0, 1) := by decide +kernel
theorem d4_73 : decode jdk_33_method_47_code 73 = .ok (.iload_n 1, 1) := by decide +kernel
theorem d4_74 : decode jdk_33_method_47_code 74 = .ok (.iload_n 0, 1) := by decide +kernel
theorem d4_75 : decode jdk_33_method_47_code 75 = .ok (.iconst 1, 1) := by decide +kernel
theorem d4_76 : decode jdk_33_method_47_code 76 = .ok (.iushr, 1) := by decide +kernel
theorem d4_77 : decode jdk_33_method_47_code 77 = .ok (.isub, 1) := by decide +kernel
theorem d4_78 : decode jdk_33_method_47_code 78 = .ok (.ireturn, 1) := by decide +kernel
theorem ef_4_5 (m : MethodId)  : entryFrame m #[(.int (5 : Int32))] 2 = mkF m 0 #[iv (5 : Int32), un] [] := by first | (simp [entryFrame, mkF, argsToLocals, Value.category, iv, rv, lv, un, sd]; done) | rfl
def Q4_5 (Z : State)  (h0 : Heap) (n0 : Nat) (v : Option Value) (h : Heap) (L : List Loc) : Prop := v = some (.int (29 : Int32)) ∧ Fr n0 L ∧ h = h0
set_option maxRecDepth 65536 in
set_option maxHeartbeats 40000000 in
theorem rm4_5 (l : Launch) (Z : State) (a0 : Array Value) (hw : ∀ d ∈ tables_1, d.before a0 Z = true) (ws : List Jvm.Cond)  (h0 : Heap) (n0 : Nat) (Z0 : n0 ≤ h0.size) :
    MetFree l (⟨"java/lang/Integer", "numberOfLeadingZeros", "(I)I"⟩ : MethodName) (head1 (Jvm.Cond.code (⟨"java/lang/Integer", "numberOfLeadingZeros", "(I)I"⟩ : MethodName) jdk_33_method_47_code 2 (some .int) :: ws) ({ frames := 0, cells := 0, slots := 0, locals := 0 } : Room)) (fun a U => a = #[(.int (5 : Int32))] ∧ Z.Warmed39 U.vm ∧ U.heap = h0) (fun _ _ _ _ _ => True) (fun _ U o U' => ∃ v L, o = .returned v ∧ Q4_5 Z  h0 n0 v U'.heap L ∧ FrameEnd U o U' L ({ frames := 0, cells := 0, slots := 0, locals := 0 } : Room).cells ({ frames := 0, cells := 0, slots := 0, locals := 0 } : Room).slots) := by
  refine MetFree.of_bodySF (plainFor_of_name pn_4) hisR ?_
  intro p e s m args below meth c s₁ Bd hml0 hP hK
  obtain ⟨rfl, hZ, hh⟩ := hP
  have hx := Bd.exec
  have hby := Bd.bytes
  have hml : c.maxLocals = 2 := hml0
  have hown : s.vm.findClass "java/lang/Integer" = some m.cls := findClass_of_methodNamed Bd.named
  have hnm := (name_of_methodNamed Bd.named Bd.method).1
  have X0 : Stand p l e ({ frames := 0, cells := 0, slots := 0, locals := 0 } : Room) s m #[(.int (5 : Int32))] below meth c s₁ [] 0 0 := Stand.of_body Bd
  have e0 : s₁.heap = h0 := by rw [← hh, Bd.state]; rfl
  have N0 := Fr.nil n0
  suffices HH : ∀ G : Outcome → State → Prop, (∀ v L U', Q4_5 Z  h0 n0 v U'.heap L → FrameEnd s (.returned v) U' L ({ frames := 0, cells := 0, slots := 0, locals := 0 } : Room).cells ({ frames := 0, cells := 0, slots := 0, locals := 0 } : Room).slots → G (.returned v) U') → Go p.tables e below G (s₁.setTop (mkF m 0 #[iv (5 : Int32), un] [])) by
    obtain ⟨s2, o, h1, h2, h3, h4⟩ := HH (fun o U' => ∃ v L, o = .returned v ∧ Q4_5 Z  h0 n0 v U'.heap L ∧ FrameEnd s o U' L ({ frames := 0, cells := 0, slots := 0, locals := 0 } : Room).cells ({ frames := 0, cells := 0, slots := 0, locals := 0 } : Room).slots) (fun v L U' q f => ⟨v, L, rfl, q, f⟩)
    exact ⟨s2, o, castTop (ef_4_5 m ) h1, h2, h3, h4⟩
  intro G hG
  show Go p.tables e below G (s₁.setTop (mkF m 0 #[iv (5 : Int32), un] []))
  refine Go.stp (fun t_ k_ => XS.iloadN X0.here hx rfl (hb hby d4_0) rfl k_) ?_
  show Go p.tables e below G (s₁.setTop (mkF m 1 #[iv (5 : Int32), un] [(.int (5 : Int32))]))
  refine Go.stp (fun t_ k_ => XS.ifYes X0.here hx rfl (pc0 := 1) (pc' := 15) rfl (hb hby d4_1) rfl ((if0 _ _).trans (tlt (by decide : (0 : Int32) < (5 : Int32))).2.2.1) (by decide) (by decide) k_) ?_
  show Go p.tables e below G (s₁.setTop (mkF m 15 #[iv (5 : Int32), un] []))
  refine Go.stp (fun t_ k_ => XS.bipush X0.here hx rfl (hb hby d4_15) k_) ?_
  show Go p.tables e below G (s₁.setTop (mkF m 17 #[iv (5 : Int32), un] [(.int (31 : Int32))]))
  refine Go.stp (fun t_ k_ => XS.istoreN X0.here hx rfl (hb hby d4_17) rfl (l' := #[iv (5 : Int32), iv (31 : Int32)]) rfl k_) ?_
  show Go p.tables e below G (s₁.setTop (mkF m 18 #[iv (5 : Int32), iv (31 : Int32)] []))
  refine Go.stp (fun t_ k_ => XS.iloadN X0.here hx rfl (hb hby d4_18) rfl k_) ?_
  show Go p.tables e below G (s₁.setTop (mkF m 19 #[iv (5 : Int32), iv (31 : Int32)] [(.int (5 : Int32))]))
  refine Go.stp (fun t_ k_ => X0.ldcwInt hx hown (mvT hZ (hw _ (List.mem_of_getElem? (i := 22) rfl))) (g := (mkF m 19 #[iv (5 : Int32), iv (31 : Int32)] [(.int (5 : Int32))])) rfl (hb hby d4_19) t_ k_) ?_
  show Go p.tables e below G (s₁.setTop (mkF m 22 #[iv (5 : Int32), iv (31 : Int32)] [(.int (65536 : Int32)), (.int (5 : Int32))]))
  refine Go.stp (fun t_ k_ => XS.icmpYes X0.here hx rfl (pc0 := 22) (pc' := 33) rfl (hb hby d4_22) rfl (tlt (by decide : (5 : Int32) < (65536 : Int32))).1 (by decide) (by decide) k_) ?_
  show Go p.tables e below G (s₁.setTop (mkF m 33 #[iv (5 : Int32), iv (31 : Int32)] []))
  refine Go.stp (fun t_ k_ => XS.iloadN X0.here hx rfl (hb hby d4_33) rfl k_) ?_
  show Go p.tables e below G (s₁.setTop (mkF m 34 #[iv (5 : Int32), iv (31 : Int32)] [(.int (5 : Int32))]))
  refine Go.stp (fun t_ k_ => XS.sipush X0.here hx rfl (hb hby d4_34) k_) ?_
  show Go p.tables e below G (s₁.setTop (mkF m 37 #[iv (5 : Int32), iv (31 : Int32)] [(.int (256 : Int32)), (.int (5 : Int32))]))
  refine Go.stp (fun t_ k_ => XS.icmpYes X0.here hx rfl (pc0 := 37) (pc' := 48) rfl (hb hby d4_37) rfl (tlt (by decide : (5 : Int32) < (256 : Int32))).1 (by decide) (by decide) k_) ?_
  show Go p.tables e below G (s₁.setTop (mkF m 48 #[iv (5 : Int32), iv (31 : Int32)] []))
  refine Go.stp (fun t_ k_ => XS.iloadN X0.here hx rfl (hb hby d4_48) rfl k_) ?_
  show Go p.tables e below G (s₁.setTop (mkF m 49 #[iv (5 : Int32), iv (31 : Int32)] [(.int (5 : Int32))]))
  refine Go.stp (fun t_ k_ => XS.bipush X0.here hx rfl (hb hby d4_49) k_) ?_
  show Go p.tables e below G (s₁.setTop (mkF m 51 #[iv (5 : Int32), iv (31 : Int32)] [(.int (16 : Int32)), (.int (5 : Int32))]))
  refine Go.stp (fun t_ k_ => XS.icmpYes X0.here hx rfl (pc0 := 51) (pc' := 61) rfl (hb hby d4_51) rfl (tlt (by decide : (5 : Int32) < (16 : Int32))).1 (by decide) (by decide) k_) ?_
  show Go p.tables e below G (s₁.setTop (mkF m 61 #[iv (5 : Int32), iv (31 : Int32)] []))
  refine Go.stp (fun t_ k_ => XS.iloadN X0.here hx rfl (hb hby d4_61) rfl k_) ?_
  show Go p.tables e below G (s₁.setTop (mkF m 62 #[iv (5 : Int32), iv (31 : Int32)] [(.int (5 : Int32))]))
  refine Go.stp (fun t_ k_ => XS.iconst X0.here hx rfl (hb hby d4_62) k_) ?_
  show Go p.tables e below G (s₁.setTop (mkF m 63 #[iv (5 : Int32), iv (31 : Int32)] [(.int (4 : Int32)), (.int (5 : Int32))]))
  refine Go.stp (fun t_ k_ => XS.icmpNo X0.here hx rfl (hb hby d4_63) rfl (flt (by decide : ¬ ((5 : Int32) < (4 : Int32)))).1 k_) ?_
  show Go p.tables e below G (s₁.setTop (mkF m 66 #[iv (5 : Int32), iv (31 : Int32)] []))
  refine Go.stp (fun t_ k_ => XS.iinc X0.here hx rfl (hb hby d4_66) rfl (l' := #[iv (5 : Int32), iv ((31 : Int32) + (-2 : Int32))]) rfl k_) ?_
  show Go p.tables e below G (s₁.setTop (mkF m 69 #[iv (5 : Int32), iv ((31 : Int32) + (-2 : Int32))] []))
  refine Go.stp (fun t_ k_ => XS.iloadN X0.here hx rfl (hb hby d4_69) rfl k_) ?_
  show Go p.tables e below G (s₁.setTop (mkF m 70 #[iv (5 : Int32), iv ((31 : Int32) + (-2 : Int32))] [(.int (5 : Int32))]))
  refine Go.stp (fun t_ k_ => XS.iconst X0.here hx rfl (hb hby d4_70) k_) ?_
  show Go p.tables e below G (s₁.setTop (mkF m 71 #[iv (5 : Int32), iv ((31 : Int32) + (-2 : Int32))] [(.int (2 : Int32)), (.int (5 : Int32))]))
  refine Go.stp (fun t_ k_ => XS.iushr X0.here hx rfl (hb hby d4_71) rfl k_) ?_
  show Go p.tables e below G (s₁.setTop (mkF m 72 #[iv (5 : Int32), iv ((31 : Int32) + (-2 : Int32))] [(.int (((5 : Int32).toUInt32 >>> ((2 : Int32) &&& 31).toUInt32).toInt32))]))
  refine Go.stp (fun t_ k_ => XS.istoreN X0.here hx rfl (hb hby d4_72) rfl (l' := #[iv (((5 : Int32).toUInt32 >>> ((2 : Int32) &&& 31).toUInt32).toInt32), iv ((31 : Int32) + (-2 : Int32))]) rfl k_) ?_
  show Go p.tables e below G (s₁.setTop (mkF m 73 #[iv (((5 : Int32).toUInt32 >>> ((2 : Int32) &&& 31).toUInt32).toInt32), iv ((31 : Int32) + (-2 : Int32))] []))
  refine Go.stp (fun t_ k_ => XS.iloadN X0.here hx rfl (hb hby d4_73) rfl k_) ?_
  show Go p.tables e below G (s₁.setTop (mkF m 74 #[iv (((5 : Int32).toUInt32 >>> ((2 : Int32) &&& 31).toUInt32).toInt32), iv ((31 : Int32) + (-2 : Int32))] [(.int ((31 : Int32) + (-2 : Int32)))]))
  refine Go.stp (fun t_ k_ => XS.iloadN X0.here hx rfl (hb hby d4_74) rfl k_) ?_
  show Go p.tables e below G (s₁.setTop (mkF m 75 #[iv (((5 : Int32).toUInt32 >>> ((2 : Int32) &&& 31).toUInt32).toInt32), iv ((31 : Int32) + (-2 : Int32))] [(.int (((5 : Int32).toUInt32 >>> ((2 : Int32) &&& 31).toUInt32).toInt32)), (.int ((31 : Int32) + (-2 : Int32)))]))
  refine Go.stp (fun t_ k_ => XS.iconst X0.here hx rfl (hb hby d4_75) k_) ?_
  show Go p.tables e below G (s₁.setTop (mkF m 76 #[iv (((5 : Int32).toUInt32 >>> ((2 : Int32) &&& 31).toUInt32).toInt32), iv ((31 : Int32) + (-2 : Int32))] [(.int (1 : Int32)), (.int (((5 : Int32).toUInt32 >>> ((2 : Int32) &&& 31).toUInt32).toInt32)), (.int ((31 : Int32) + (-2 : Int32)))]))
  refine Go.stp (fun t_ k_ => XS.iushr X0.here hx rfl (hb hby d4_76) rfl k_) ?_
  show Go p.tables e below G (s₁.setTop (mkF m 77 #[iv (((5 : Int32).toUInt32 >>> ((2 : Int32) &&& 31).toUInt32).toInt32), iv ((31 : Int32) + (-2 : Int32))] [(.int (((((5 : Int32).toUInt32 >>> ((2 : Int32) &&& 31).toUInt32).toInt32).toUInt32 >>> ((1 : Int32) &&& 31).toUInt32).toInt32)), (.int ((31 : Int32) + (-2 : Int32)))]))
  refine Go.stp (fun t_ k_ => XS.isub X0.here hx rfl (hb hby d4_77) rfl k_) ?_
  show Go p.tables e below G (s₁.setTop (mkF m 78 #[iv (((5 : Int32).toUInt32 >>> ((2 : Int32) &&& 31).toUInt32).toInt32), iv ((31 : Int32) + (-2 : Int32))] [(.int (((31 : Int32) + (-2 : Int32)) - (((((5 : Int32).toUInt32 >>> ((2 : Int32) &&& 31).toUInt32).toInt32).toUInt32 >>> ((1 : Int32) &&& 31).toUInt32).toInt32)))]))
  obtain ⟨fs, hr, hrun, hended, hW, hsame⟩ := X0.leave (v := some (.int (((31 : Int32) + (-2 : Int32)) - (((((5 : Int32).toUInt32 >>> ((2 : Int32) &&& 31).toUInt32).toInt32).toUInt32 >>> ((1 : Int32) &&& 31).toUInt32).toInt32)))) (fun h => by rw [Bd.returns] at h; cases h)
  refine ⟨_, _, retI X0 hx Bd.returns (hb hby d4_78) hr, hrun, hended, hG _ _ _ ?_ ⟨⟨_, rfl⟩, hW, hsame.mono (by decide) (by decide)⟩⟩
  show Q4_5 Z  h0 n0 _ s₁.heap _
  rw [e0]
  exact ⟨congrArg (fun z => some (Value.int z)) (by decide +kernel : (((31 : Int32) + (-2 : Int32)) - (((((5 : Int32).toUInt32 >>> ((2 : Int32) &&& 31).toUInt32).toInt32).toUInt32 >>> ((1 : Int32) &&& 31).toUInt32).toInt32)) = (29 : Int32)), N0, rfl⟩
theorem pn_5 : plainName "java/util/Arrays" = true := by first | (simp [plainName, overriddenIn]; done) | decide +kernel
theorem d5_0 : decode jdk_65_method_103_code 0 = .ok (.iconst 0, 1) := by decide +kernel
theorem d5_1 : decode jdk_65_method_103_code 1 = .ok (.istore_n 2, 1) := by decide +kernel
theorem d5_2 : decode jdk_65_method_103_code 2 = .ok (.aload_n 0, 1) := by decide +kernel
theorem d5_3 : decode jdk_65_method_103_code 3 = .ok (.arraylength, 1) := by decide +kernel
theorem d5_4 : decode jdk_65_method_103_code 4 = .ok (.istore_n 3, 1) := by decide +kernel
theorem d5_5 : decode jdk_65_method_103_code 5 = .ok (.iload_n 2, 1) := by decide +kernel
theorem d5_6 : decode jdk_65_method_103_code 6 = .ok (.iload_n 3, 1) := by decide +kernel
theorem d5_7 : decode jdk_65_method_103_code 7 = .ok (.if_icmp .ge 13, 3) := by decide +kernel
theorem d5_10 : decode jdk_65_method_103_code 10 = .ok (.aload_n 0, 1) := by decide +kernel
theorem d5_11 : decode jdk_65_method_103_code 11 = .ok (.iload_n 2, 1) := by decide +kernel
theorem d5_12 : decode jdk_65_method_103_code 12 = .ok (.iload_n 1, 1) := by decide +kernel
theorem d5_13 : decode jdk_65_method_103_code 13 = .ok (.iastore, 1) := by decide +kernel
theorem d5_14 : decode jdk_65_method_103_code 14 = .ok (.iinc 2 1, 3) := by decide +kernel
theorem d5_17 : decode jdk_65_method_103_code 17 = .ok (.goto (-12), 3) := by decide +kernel
theorem d5_20 : decode jdk_65_method_103_code 20 = .ok (.return_, 1) := by decide +kernel
theorem ef_5_8 (m : MethodId) (r0 : Addr) (p1 : Int32) : entryFrame m #[(.ref r0), (.int p1)] 4 = mkF m 0 #[rv r0, iv p1, un, un] [] := by first | (simp [entryFrame, mkF, argsToLocals, Value.category, iv, rv, lv, un, sd]; done) | rfl
def Q5_8 (Z : State) (r0 : Addr) (p1 : Int32) (f : Nat → Int32) (h0 : Heap) (n0 : Nat) (v : Option Value) (h : Heap) (L : List Loc) : Prop := v = none ∧ Fr n0 L ∧ Keep h0 h [r0] ∧ Ia Z h r0 .int 8 Value.int (fun _ => p1)
set_option maxRecDepth 65536 in
set_option maxHeartbeats 40000000 in
theorem rm5_8 (l : Launch) (Z : State) (a0 : Array Value) (hw : ∀ d ∈ tables_1, d.before a0 Z = true) (ws : List Jvm.Cond) (r0 : Addr) (p1 : Int32) (f : Nat → Int32) (h0 : Heap) (n0 : Nat) (Z0 : n0 ≤ h0.size) (I_r0 : Ia Z h0 r0 .int 8 Value.int f) (g_r0 : n0 ≤ r0) :
    MetFree l (⟨"java/util/Arrays", "fill", "([II)V"⟩ : MethodName) (head1 (Jvm.Cond.code (⟨"java/util/Arrays", "fill", "([II)V"⟩ : MethodName) jdk_65_method_103_code 4 none :: ws) ({ frames := 0, cells := 0, slots := 0, locals := 0 } : Room)) (fun a U => a = #[(.ref r0), (.int p1)] ∧ Z.Warmed39 U.vm ∧ U.heap = h0) (fun _ _ _ _ _ => True) (fun _ U o U' => ∃ v L, o = .returned v ∧ Q5_8 Z r0 p1 f h0 n0 v U'.heap L ∧ FrameEnd U o U' L ({ frames := 0, cells := 0, slots := 0, locals := 0 } : Room).cells ({ frames := 0, cells := 0, slots := 0, locals := 0 } : Room).slots) := by
  refine MetFree.of_bodySF (plainFor_of_name pn_5) hisR ?_
  intro p e s m args below meth c s₁ Bd hml0 hP hK
  obtain ⟨rfl, hZ, hh⟩ := hP
  have hx := Bd.exec
  have hby := Bd.bytes
  have hml : c.maxLocals = 4 := hml0
  have hown : s.vm.findClass "java/util/Arrays" = some m.cls := findClass_of_methodNamed Bd.named
  have hnm := (name_of_methodNamed Bd.named Bd.method).1
  have X0 : Stand p l e ({ frames := 0, cells := 0, slots := 0, locals := 0 } : Room) s m #[(.ref r0), (.int p1)] below meth c s₁ [] 0 0 := Stand.of_body Bd
  have e0 : s₁.heap = h0 := by rw [← hh, Bd.state]; rfl
  have N0 := Fr.nil n0
  suffices HH : ∀ G : Outcome → State → Prop, (∀ v L U', Q5_8 Z r0 p1 f h0 n0 v U'.heap L → FrameEnd s (.returned v) U' L ({ frames := 0, cells := 0, slots := 0, locals := 0 } : Room).cells ({ frames := 0, cells := 0, slots := 0, locals := 0 } : Room).slots → G (.returned v) U') → Go p.tables e below G (s₁.setTop (mkF m 0 #[rv r0, iv p1, un, un] [])) by
    obtain ⟨s2, o, h1, h2, h3, h4⟩ := HH (fun o U' => ∃ v L, o = .returned v ∧ Q5_8 Z r0 p1 f h0 n0 v U'.heap L ∧ FrameEnd s o U' L ({ frames := 0, cells := 0, slots := 0, locals := 0 } : Room).cells ({ frames := 0, cells := 0, slots := 0, locals := 0 } : Room).slots) (fun v L U' q f => ⟨v, L, rfl, q, f⟩)
    exact ⟨s2, o, castTop (ef_5_8 m r0 p1) h1, h2, h3, h4⟩
  intro G hG
  have K0 := Keep.refl h0 [r0]
  show Go p.tables e below G (s₁.setTop (mkF m 0 #[rv r0, iv p1, un, un] []))
  refine Go.stp (fun t_ k_ => XS.iconst X0.here hx rfl (hb hby d5_0) k_) ?_
  show Go p.tables e below G (s₁.setTop (mkF m 1 #[rv r0, iv p1, un, un] [(.int (0 : Int32))]))
  refine Go.stp (fun t_ k_ => XS.istoreN X0.here hx rfl (hb hby d5_1) rfl (l' := #[rv r0, iv p1, iv (0 : Int32), un]) rfl k_) ?_
  show Go p.tables e below G (s₁.setTop (mkF m 2 #[rv r0, iv p1, iv (0 : Int32), un] []))
  refine Go.stp (fun t_ k_ => XS.aloadN X0.here hx rfl (hb hby d5_2) rfl rfl k_) ?_
  show Go p.tables e below G (s₁.setTop (mkF m 3 #[rv r0, iv p1, iv (0 : Int32), un] [(.ref r0)]))
  obtain ⟨cl1, Ar1, Sz1, -, -⟩ := id I_r0
  refine Go.stp (fun t_ k_ => X0.arraylength hx (by rw [e0]; exact Ar1.1) (State.isArrayOf_alike hZ.alike Ar1.2.1) (g := (mkF m 3 #[rv r0, iv p1, iv (0 : Int32), un] [(.ref r0)])) rfl rfl (hb hby d5_3) t_ k_) ?_
  rw [Sz1]
  show Go p.tables e below G (s₁.setTop (mkF m 4 #[rv r0, iv p1, iv (0 : Int32), un] [(.int (8 : Int32))]))
  refine Go.stp (fun t_ k_ => XS.istoreN X0.here hx rfl (hb hby d5_4) rfl (l' := #[rv r0, iv p1, iv (0 : Int32), iv (8 : Int32)]) rfl k_) ?_
  show Go p.tables e below G (s₁.setTop (mkF m 5 #[rv r0, iv p1, iv (0 : Int32), iv (8 : Int32)] []))
  suffices LP : ∀ (k : Nat) (T : State) (locs : List Loc) (h : Heap) (u : Nat) (g : Nat → Int32), Stand p l e ({ frames := 0, cells := 0, slots := 0, locals := 0 } : Room) s m #[(.ref r0), (.int p1)] below meth c T locs 0 0 → Fr n0 locs → T.heap = h → n0 ≤ h.size → Keep h0 h [r0] → Ia Z h r0 .int 8 Value.int g → (u + k = 8) → (∀ j, j < u → g j = p1) → Go p.tables e below G (T.setTop (mkF m 5 #[rv r0, iv p1, iv (own_i u), iv (8 : Int32)] [])) from LP (8) _ _ _ (0) (f) X0 N0 e0 Z0 K0 I_r0 rfl (fun j hj => absurd hj (Nat.not_lt_zero _))
  intro k
  induction k with
  | zero =>
    intro T locs h u g X N E Zh Kh fx0 hu hg
    obtain rfl : u = 8 := by omega
    show Go p.tables e below G (T.setTop (mkF m 5 #[rv r0, iv p1, iv (own_i 8), iv (8 : Int32)] []))
    refine Go.stp (fun t_ k_ => XS.iloadN X.here hx rfl (hb hby d5_5) rfl k_) ?_
    show Go p.tables e below G (T.setTop (mkF m 6 #[rv r0, iv p1, iv (own_i 8), iv (8 : Int32)] [(.int (own_i 8))]))
    refine Go.stp (fun t_ k_ => XS.iloadN X.here hx rfl (hb hby d5_6) rfl k_) ?_
    show Go p.tables e below G (T.setTop (mkF m 7 #[rv r0, iv p1, iv (own_i 8), iv (8 : Int32)] [(.int (8 : Int32)), (.int (own_i 8))]))
    have hd7 : ¬ ((own_i 8) < (8 : Int32)) := (by decide)
    refine Go.stp (fun t_ k_ => XS.icmpYes X.here hx rfl (pc0 := 7) (pc' := 20) rfl (hb hby d5_7) rfl (flt hd7).2.1 (by decide) (by decide) k_) ?_
    show Go p.tables e below G (T.setTop (mkF m 20 #[rv r0, iv p1, iv (own_i 8), iv (8 : Int32)] []))
    obtain ⟨fs, hr, hrun, hended, hW, hsame⟩ := X.leave (v := none) (fun _ => rfl)
    refine ⟨_, _, X.returnOut hx Bd.returns (hb hby d5_20) hr, hrun, hended, hG _ _ _ ?_ ⟨⟨_, rfl⟩, hW, hsame.mono (by decide) (by decide)⟩⟩
    show Q5_8 Z r0 p1 f h0 n0 _ T.heap _
    rw [E]
    exact ⟨rfl, N, Kh, Ia_cong fx0 hg⟩
  | succ k ih =>
    intro T locs h u g X N E Zh Kh fx0 hu hg
    show Go p.tables e below G (T.setTop (mkF m 5 #[rv r0, iv p1, iv (own_i u), iv (8 : Int32)] []))
    refine Go.stp (fun t_ k_ => XS.iloadN X.here hx rfl (hb hby d5_5) rfl k_) ?_
    show Go p.tables e below G (T.setTop (mkF m 6 #[rv r0, iv p1, iv (own_i u), iv (8 : Int32)] [(.int (own_i u))]))
    refine Go.stp (fun t_ k_ => XS.iloadN X.here hx rfl (hb hby d5_6) rfl k_) ?_
    show Go p.tables e below G (T.setTop (mkF m 7 #[rv r0, iv p1, iv (own_i u), iv (8 : Int32)] [(.int (8 : Int32)), (.int (own_i u))]))
    have hd7 : (own_i u) < (8 : Int32) := (by rw [Int32.lt_iff_toInt_lt, own_iv u (by omega), show (8 : Int32).toInt = 8 by decide]; omega)
    refine Go.stp (fun t_ k_ => XS.icmpNo X.here hx rfl (hb hby d5_7) rfl (tlt hd7).2.1 k_) ?_
    show Go p.tables e below G (T.setTop (mkF m 10 #[rv r0, iv p1, iv (own_i u), iv (8 : Int32)] []))
    refine Go.stp (fun t_ k_ => XS.aloadN X.here hx rfl (hb hby d5_10) rfl rfl k_) ?_
    show Go p.tables e below G (T.setTop (mkF m 11 #[rv r0, iv p1, iv (own_i u), iv (8 : Int32)] [(.ref r0)]))
    refine Go.stp (fun t_ k_ => XS.iloadN X.here hx rfl (hb hby d5_11) rfl k_) ?_
    show Go p.tables e below G (T.setTop (mkF m 12 #[rv r0, iv p1, iv (own_i u), iv (8 : Int32)] [(.int (own_i u)), (.ref r0)]))
    refine Go.stp (fun t_ k_ => XS.iloadN X.here hx rfl (hb hby d5_12) rfl k_) ?_
    show Go p.tables e below G (T.setTop (mkF m 13 #[rv r0, iv p1, iv (own_i u), iv (8 : Int32)] [(.int p1), (.int (own_i u)), (.ref r0)]))
    have ib2 : 0 ≤ ((own_i u)).toInt ∧ ((own_i u)).toInt < ((8 : Nat) : Int) := (by rw [own_iv u (by omega)]; omega)
    obtain ⟨cl2, Ar2, Sz2, -, -⟩ := id fx0
    obtain ⟨T2, h2, X2, e2, W2, st2⟩ := stI X hx hZ E Ar2 (j := (own_i u)) (in_of Sz2 ib2) (g := (mkF m 13 #[rv r0, iv p1, iv (own_i u), iv (8 : Int32)] [(.int p1), (.int (own_i u)), (.ref r0)])) rfl rfl (hb hby d5_13)
    have f3 : Ia Z h2 r0 .int 8 Value.int (upf g ((own_i u)).toNatClampNeg p1) := fx0.set W2 rfl
    have N2 := Fr.snoc X2 N g_r0
    have K2 := Kh.wr W2 (Or.inl (List.mem_of_getElem? (i := 0) rfl))
    have Z2 : n0 ≤ h2.size := Nat.le_trans Zh (Keep.of_wr W2).1
    refine Go.stp (fun t_ k_ => st2 t_ k_) ?_
    show Go p.tables e below G (T2.setTop (mkF m 14 #[rv r0, iv p1, iv (own_i u), iv (8 : Int32)] []))
    refine Go.stp (fun t_ k_ => XS.iinc X2.here hx rfl (hb hby d5_14) rfl (l' := #[rv r0, iv p1, iv ((own_i u) + (1 : Int32)), iv (8 : Int32)]) rfl k_) ?_
    show Go p.tables e below G (T2.setTop (mkF m 17 #[rv r0, iv p1, iv ((own_i u) + (1 : Int32)), iv (8 : Int32)] []))
    refine Go.stp (fun t_ k_ => XS.goto X2.here hx rfl (pc0 := 17) (pc' := 5) rfl (hb hby d5_17) (by decide) (by decide) k_) ?_
    show Go p.tables e below G (T2.setTop (mkF m 5 #[rv r0, iv p1, iv ((own_i u) + (1 : Int32)), iv (8 : Int32)] []))
    exact ih _ _ _ (u + 1) _ X2 N2 e2 Z2 K2 f3 (by omega) (own_fs hg (by omega))
theorem pn_1 : plainName "com/example/chatterbench/chatterbench/data/IdIndex" = true := by first | (simp [plainName, overriddenIn]; done) | decide +kernel
theorem d1_0 : decode prog_10_method_1_code 0 = .ok (.aload_n 0, 1) := by decide +kernel
theorem d1_1 : decode prog_10_method_1_code 1 = .ok (.invokespecial 1, 3) := by decide +kernel
theorem d1_4 : decode prog_10_method_1_code 4 = .ok (.aload_n 0, 1) := by decide +kernel
theorem d1_5 : decode prog_10_method_1_code 5 = .ok (.aload_n 1, 1) := by decide +kernel
theorem d1_6 : decode prog_10_method_1_code 6 = .ok (.putfield 7, 3) := by decide +kernel
theorem d1_9 : decode prog_10_method_1_code 9 = .ok (.bipush 32, 2) := by decide +kernel
theorem d1_11 : decode prog_10_method_1_code 11 = .ok (.iconst 1, 1) := by decide +kernel
theorem d1_12 : decode prog_10_method_1_code 12 = .ok (.iconst 2, 1) := by decide +kernel
theorem d1_13 : decode prog_10_method_1_code 13 = .ok (.iload_n 2, 1) := by decide +kernel
theorem d1_14 : decode prog_10_method_1_code 14 = .ok (.imul, 1) := by decide +kernel
theorem d1_15 : decode prog_10_method_1_code 15 = .ok (.iconst 1, 1) := by decide +kernel
theorem d1_16 : decode prog_10_method_1_code 16 = .ok (.isub, 1) := by decide +kernel
theorem d1_17 : decode prog_10_method_1_code 17 = .ok (.invokestatic 15, 3) := by decide +kernel
theorem d1_20 : decode prog_10_method_1_code 20 = .ok (.invokestatic 21, 3) := by decide +kernel
theorem d1_23 : decode prog_10_method_1_code 23 = .ok (.isub, 1) := by decide +kernel
theorem d1_24 : decode prog_10_method_1_code 24 = .ok (.istore_n 3, 1) := by decide +kernel
theorem d1_25 : decode prog_10_method_1_code 25 = .ok (.aload_n 0, 1) := by decide +kernel
theorem d1_26 : decode prog_10_method_1_code 26 = .ok (.iconst 1, 1) := by decide +kernel
theorem d1_27 : decode prog_10_method_1_code 27 = .ok (.iload_n 3, 1) := by decide +kernel
theorem d1_28 : decode prog_10_method_1_code 28 = .ok (.ishl, 1) := by decide +kernel
theorem d1_29 : decode prog_10_method_1_code 29 = .ok (.newarray .long, 2) := by decide +kernel
theorem d1_31 : decode prog_10_method_1_code 31 = .ok (.putfield 25, 3) := by decide +kernel
theorem d1_34 : decode prog_10_method_1_code 34 = .ok (.aload_n 0, 1) := by decide +kernel
theorem d1_35 : decode prog_10_method_1_code 35 = .ok (.iconst 1, 1) := by decide +kernel
theorem d1_36 : decode prog_10_method_1_code 36 = .ok (.iload_n 3, 1) := by decide +kernel
theorem d1_37 : decode prog_10_method_1_code 37 = .ok (.ishl, 1) := by decide +kernel
theorem d1_38 : decode prog_10_method_1_code 38 = .ok (.newarray .int, 2) := by decide +kernel
theorem d1_40 : decode prog_10_method_1_code 40 = .ok (.putfield 29, 3) := by decide +kernel
theorem d1_43 : decode prog_10_method_1_code 43 = .ok (.aload_n 0, 1) := by decide +kernel
theorem d1_44 : decode prog_10_method_1_code 44 = .ok (.getfield 29, 3) := by decide +kernel
theorem d1_47 : decode prog_10_method_1_code 47 = .ok (.iconst (-1), 1) := by decide +kernel
theorem d1_48 : decode prog_10_method_1_code 48 = .ok (.invokestatic 33, 3) := by decide +kernel
theorem d1_51 : decode prog_10_method_1_code 51 = .ok (.aload_n 0, 1) := by decide +kernel
theorem d1_52 : decode prog_10_method_1_code 52 = .ok (.bipush 64, 2) := by decide +kernel
theorem d1_54 : decode prog_10_method_1_code 54 = .ok (.iload_n 3, 1) := by decide +kernel
theorem d1_55 : decode prog_10_method_1_code 55 = .ok (.isub, 1) := by decide +kernel
theorem d1_56 : decode prog_10_method_1_code 56 = .ok (.putfield 41, 3) := by decide +kernel
theorem d1_59 : decode prog_10_method_1_code 59 = .ok (.return_, 1) := by decide +kernel
theorem ef_1_c3 (m : MethodId) (r0 : Addr) (r1 : Addr) : entryFrame m #[(.ref r0), (.ref r1), (.int (3 : Int32))] 4 = mkF m 0 #[rv r0, rv r1, iv (3 : Int32), un] [] := by first | (simp [entryFrame, mkF, argsToLocals, Value.category, iv, rv, lv, un, sd]; done) | rfl
def Q1_N8 (Z : State) (r0 : Addr) (r1 : Addr) (h0 : Heap) (n0 : Nat) (v : Option Value) (h : Heap) (L : List Loc) : Prop := v = none ∧ Fr n0 L ∧ Keep h0 h [r0] ∧ ∃ ra ia : Addr, n0 ≤ ra ∧ n0 ≤ ia ∧ ra ≠ ia ∧ r0 ≠ ra ∧ r0 ≠ ia ∧ Exa Z h r0 "com/example/chatterbench/chatterbench/data/IdIndex" ∧ Fld Z h r0 "com/example/chatterbench/chatterbench/data/IdIndex" "rows" "[I" (.ref ra) ∧ Fld Z h r0 "com/example/chatterbench/chatterbench/data/IdIndex" "ids" "[J" (.ref ia) ∧ Fld Z h r0 "com/example/chatterbench/chatterbench/data/IdIndex" "shift" "I" (.int (61 : Int32)) ∧ Ia Z h ra .int 8 Value.int (fun _ => (-1 : Int32)) ∧ Ia Z h ia .long 8 Value.long (fun _ => (0 : Int64))
set_option maxRecDepth 65536 in
set_option maxHeartbeats 40000000 in
theorem rm1_c3 (l : Launch) (Z : State) (a0 : Array Value) (hw : ∀ d ∈ tables_1, d.before a0 Z = true) (ws : List Jvm.Cond) (r0 : Addr) (r1 : Addr) (h0 : Heap) (n0 : Nat) (Z0 : n0 ≤ h0.size) (E_r0 : Exa Z h0 r0 "com/example/chatterbench/chatterbench/data/IdIndex") (F_entity : Fld Z h0 r0 "com/example/chatterbench/chatterbench/data/IdIndex" "entity" "Lcom/example/chatterbench/chatterbench/data/Entity;" .null) (F_ids : Fld Z h0 r0 "com/example/chatterbench/chatterbench/data/IdIndex" "ids" "[J" .null) (F_rows : Fld Z h0 r0 "com/example/chatterbench/chatterbench/data/IdIndex" "rows" "[I" .null) (F_shift : Fld Z h0 r0 "com/example/chatterbench/chatterbench/data/IdIndex" "shift" "I" (.int (0 : Int32))) (g_r0 : n0 ≤ r0) :
    MetFree l (⟨"com/example/chatterbench/chatterbench/data/IdIndex", "<init>", "(Lcom/example/chatterbench/chatterbench/data/Entity;I)V"⟩ : MethodName) (head1 (Jvm.Cond.code (⟨"com/example/chatterbench/chatterbench/data/IdIndex", "<init>", "(Lcom/example/chatterbench/chatterbench/data/Entity;I)V"⟩ : MethodName) prog_10_method_1_code 4 none :: ws) ({ frames := 1, cells := 2, slots := 16, locals := 16 } : Room)) (fun a U => a = #[(.ref r0), (.ref r1), (.int (3 : Int32))] ∧ Z.Warmed39 U.vm ∧ U.heap = h0) (fun _ _ _ _ _ => True) (fun _ U o U' => ∃ v L, o = .returned v ∧ Q1_N8 Z r0 r1 h0 n0 v U'.heap L ∧ FrameEnd U o U' L ({ frames := 1, cells := 2, slots := 16, locals := 16 } : Room).cells ({ frames := 1, cells := 2, slots := 16, locals := 16 } : Room).slots) := by
  refine MetFree.of_bodySF (plainFor_of_name pn_1) hisR ?_
  intro p e s m args below meth c s₁ Bd hml0 hP hK
  obtain ⟨rfl, hZ, hh⟩ := hP
  have hx := Bd.exec
  have hby := Bd.bytes
  have hml : c.maxLocals = 4 := hml0
  have hown : s.vm.findClass "com/example/chatterbench/chatterbench/data/IdIndex" = some m.cls := findClass_of_methodNamed Bd.named
  have hnm := (name_of_methodNamed Bd.named Bd.method).1
  have X0 : Stand p l e ({ frames := 1, cells := 2, slots := 16, locals := 16 } : Room) s m #[(.ref r0), (.ref r1), (.int (3 : Int32))] below meth c s₁ [] 0 0 := Stand.of_body Bd
  have e0 : s₁.heap = h0 := by rw [← hh, Bd.state]; rfl
  have N0 := Fr.nil n0
  suffices HH : ∀ G : Outcome → State → Prop, (∀ v L U', Q1_N8 Z r0 r1 h0 n0 v U'.heap L → FrameEnd s (.returned v) U' L ({ frames := 1, cells := 2, slots := 16, locals := 16 } : Room).cells ({ frames := 1, cells := 2, slots := 16, locals := 16 } : Room).slots → G (.returned v) U') → Go p.tables e below G (s₁.setTop (mkF m 0 #[rv r0, rv r1, iv (3 : Int32), un] [])) by
    obtain ⟨s2, o, h1, h2, h3, h4⟩ := HH (fun o U' => ∃ v L, o = .returned v ∧ Q1_N8 Z r0 r1 h0 n0 v U'.heap L ∧ FrameEnd s o U' L ({ frames := 1, cells := 2, slots := 16, locals := 16 } : Room).cells ({ frames := 1, cells := 2, slots := 16, locals := 16 } : Room).slots) (fun v L U' q f => ⟨v, L, rfl, q, f⟩)
    exact ⟨s2, o, castTop (ef_1_c3 m r0 r1) h1, h2, h3, h4⟩
  intro G hG
  have K0 := Keep.refl h0 [r0]
  show Go p.tables e below G (s₁.setTop (mkF m 0 #[rv r0, rv r1, iv (3 : Int32), un] []))
  refine Go.stp (fun t_ k_ => XS.aloadN X0.here hx rfl (hb hby d1_0) rfl rfl k_) ?_
  show Go p.tables e below G (s₁.setTop (mkF m 1 #[rv r0, rv r1, iv (3 : Int32), un] [(.ref r0)]))
  obtain ⟨T1, X1, e1, st1⟩ := initO X0 hx hZ hown (hw _ (List.mem_of_getElem? (i := 9) rfl)) (hw _ (List.mem_of_getElem? (i := 10) rfl)) (hw _ (List.mem_of_getElem? (i := 11) rfl)) e0 (g := (mkF m 1 #[rv r0, rv r1, iv (3 : Int32), un] [(.ref r0)])) rfl (by rw [hml]; rfl) rfl (hb hby d1_1) (by decide) (W := 0) (by show 2 * 0 + _ ≤ _; exact Nat.le_of_eq rfl) (by decide)
  refine Go.stp (fun t_ k_ => st1 t_ k_) ?_
  show Go p.tables e below G (T1.setTop (mkF m 4 #[rv r0, rv r1, iv (3 : Int32), un] []))
  refine Go.stp (fun t_ k_ => XS.aloadN X1.here hx rfl (hb hby d1_4) rfl rfl k_) ?_
  show Go p.tables e below G (T1.setTop (mkF m 5 #[rv r0, rv r1, iv (3 : Int32), un] [(.ref r0)]))
  refine Go.stp (fun t_ k_ => XS.aloadN X1.here hx rfl (hb hby d1_5) rfl rfl k_) ?_
  show Go p.tables e below G (T1.setTop (mkF m 6 #[rv r0, rv r1, iv (3 : Int32), un] [(.ref r1), (.ref r0)]))
  obtain ⟨T2, h2, X2, e2, W2, st2⟩ := putF X1 hx hZ hown (host := "") (Or.inl (hw _ (List.mem_of_getElem? (i := 12) rfl))) Via.refl e1 F_entity E_r0 (Or.inr ⟨(hw _ (List.mem_of_getElem? (i := 13) rfl)), rfl, hnm⟩) (hw _ (List.mem_of_getElem? (i := 1) rfl)) (ty := (.object "com/example/chatterbench/chatterbench/data/Entity")) (by decide) rfl rfl (g := (mkF m 6 #[rv r0, rv r1, iv (3 : Int32), un] [(.ref r1), (.ref r0)])) rfl rfl (hb hby d1_6)
  have f3 : Fld Z h2 r0 "com/example/chatterbench/chatterbench/data/IdIndex" "entity" "Lcom/example/chatterbench/chatterbench/data/Entity;" (.ref r1) := F_entity.same W2
  have f4 : Exa Z h2 r0 "com/example/chatterbench/chatterbench/data/IdIndex" := E_r0.wr W2
  have f5 : Fld Z h2 r0 "com/example/chatterbench/chatterbench/data/IdIndex" "ids" "[J" .null := F_ids.other W2 (Or.inr (slot_ne (Or.inr (hw _ (List.mem_of_getElem? (i := 25) rfl))) (Or.inr (hw _ (List.mem_of_getElem? (i := 13) rfl))) (by decide) (t := (.array .long)) (t' := (.object "com/example/chatterbench/chatterbench/data/Entity")) (by decide) (by decide)))
  have f6 : Fld Z h2 r0 "com/example/chatterbench/chatterbench/data/IdIndex" "rows" "[I" .null := F_rows.other W2 (Or.inr (slot_ne (Or.inr (hw _ (List.mem_of_getElem? (i := 28) rfl))) (Or.inr (hw _ (List.mem_of_getElem? (i := 13) rfl))) (by decide) (t := (.array .int)) (t' := (.object "com/example/chatterbench/chatterbench/data/Entity")) (by decide) (by decide)))
  have f7 : Fld Z h2 r0 "com/example/chatterbench/chatterbench/data/IdIndex" "shift" "I" (.int (0 : Int32)) := F_shift.other W2 (Or.inr (slot_ne (Or.inr (hw _ (List.mem_of_getElem? (i := 34) rfl))) (Or.inr (hw _ (List.mem_of_getElem? (i := 13) rfl))) (by decide) (t := .int) (t' := (.object "com/example/chatterbench/chatterbench/data/Entity")) (by decide) (by decide)))
  have N2 := Fr.snoc X2 N0 g_r0
  have K2 := K0.wr W2 (Or.inl (List.mem_of_getElem? (i := 0) rfl))
  have Z2 : n0 ≤ h2.size := Nat.le_trans Z0 (Keep.of_wr W2).1
  refine Go.stp (fun t_ k_ => st2 t_ k_) ?_
  show Go p.tables e below G (T2.setTop (mkF m 9 #[rv r0, rv r1, iv (3 : Int32), un] []))
  refine Go.stp (fun t_ k_ => XS.bipush X2.here hx rfl (hb hby d1_9) k_) ?_
  show Go p.tables e below G (T2.setTop (mkF m 11 #[rv r0, rv r1, iv (3 : Int32), un] [(.int (32 : Int32))]))
  refine Go.stp (fun t_ k_ => XS.iconst X2.here hx rfl (hb hby d1_11) k_) ?_
  show Go p.tables e below G (T2.setTop (mkF m 12 #[rv r0, rv r1, iv (3 : Int32), un] [(.int (1 : Int32)), (.int (32 : Int32))]))
  refine Go.stp (fun t_ k_ => XS.iconst X2.here hx rfl (hb hby d1_12) k_) ?_
  show Go p.tables e below G (T2.setTop (mkF m 13 #[rv r0, rv r1, iv (3 : Int32), un] [(.int (2 : Int32)), (.int (1 : Int32)), (.int (32 : Int32))]))
  refine Go.stp (fun t_ k_ => XS.iloadN X2.here hx rfl (hb hby d1_13) rfl k_) ?_
  show Go p.tables e below G (T2.setTop (mkF m 14 #[rv r0, rv r1, iv (3 : Int32), un] [(.int (3 : Int32)), (.int (2 : Int32)), (.int (1 : Int32)), (.int (32 : Int32))]))
  refine Go.stp (fun t_ k_ => XS.imul X2.here hx rfl (hb hby d1_14) rfl k_) ?_
  show Go p.tables e below G (T2.setTop (mkF m 15 #[rv r0, rv r1, iv (3 : Int32), un] [(.int ((2 : Int32) * (3 : Int32))), (.int (1 : Int32)), (.int (32 : Int32))]))
  refine Go.stp (fun t_ k_ => XS.iconst X2.here hx rfl (hb hby d1_15) k_) ?_
  show Go p.tables e below G (T2.setTop (mkF m 16 #[rv r0, rv r1, iv (3 : Int32), un] [(.int (1 : Int32)), (.int ((2 : Int32) * (3 : Int32))), (.int (1 : Int32)), (.int (32 : Int32))]))
  refine Go.stp (fun t_ k_ => XS.isub X2.here hx rfl (hb hby d1_16) rfl k_) ?_
  show Go p.tables e below G (T2.setTop (mkF m 17 #[rv r0, rv r1, iv (3 : Int32), un] [(.int (((2 : Int32) * (3 : Int32)) - (1 : Int32))), (.int (1 : Int32)), (.int (32 : Int32))]))
  obtain ⟨_, _, ⟨T8, L8, k8, n8⟩, -, X8, ⟨Lc8, hQ8, l8, y8, z8⟩, st8⟩ := Jvm.LawKit.callS X2 hx (y := (⟨"java/lang/Math", "max", "(II)I"⟩ : MethodName)) hown (mvT hZ (hw _ (List.mem_of_getElem? (i := 14) rfl))) (mvT hZ (hw _ (List.mem_of_getElem? (i := 15) rfl))) (mvT hZ (hw _ (List.mem_of_getElem? (i := 16) rfl))) (mvT hZ (hw _ (List.mem_of_getElem? (i := 17) rfl))) (by decide) (backOf (W := 1) (rm3 l Z a0 hw [] (1 : Int32) (((2 : Int32) * (3 : Int32)) - (1 : Int32)) h2 n0 Z2) hZ (hw _ (List.mem_of_getElem? (i := 17) rfl)) (hw _ (List.mem_of_getElem? (i := 16) rfl)) (by decide) (by decide)) (g := (mkF m 17 #[rv r0, rv r1, iv (3 : Int32), un] [(.int (((2 : Int32) * (3 : Int32)) - (1 : Int32))), (.int (1 : Int32)), (.int (32 : Int32))])) rfl (by rw [hml]; rfl) (argsL := [(.int (1 : Int32)), (.int (((2 : Int32) * (3 : Int32)) - (1 : Int32)))]) (rest := [(.int (32 : Int32))]) (lenOf pd_0 rfl) rfl (by show 2 * 0 + _ ≤ _; exact Nat.le_of_eq rfl) (hb hby d1_17) (fun _ _ => ⟨rfl, e2, (by decide : 0 + 0 ≤ _), (by decide : 0 + 0 ≤ _)⟩)
  dsimp only [Pt.U, Pt.locs, Pt.cells, Pt.slots] at X8 l8 y8 z8 st8 hQ8
  subst l8 y8 z8
  obtain ⟨rfl, Nq8, e8⟩ := hQ8
  have N8 := Fr.app N2 Nq8
  have pp8 : own_max (1 : Int32) (((2 : Int32) * (3 : Int32)) - (1 : Int32)) = (5 : Int32) := by decide
  rw [pp8] at st8
  refine Go.stp (fun t_ k_ => st8 t_ k_) ?_
  show Go p.tables e below G (T8.setTop (mkF m 20 #[rv r0, rv r1, iv (3 : Int32), un] [(.int (5 : Int32)), (.int (32 : Int32))]))
  obtain ⟨_, _, ⟨T9, L9, k9, n9⟩, -, X9, ⟨Lc9, hQ9, l9, y9, z9⟩, st9⟩ := Jvm.LawKit.callS X8 hx (y := (⟨"java/lang/Integer", "numberOfLeadingZeros", "(I)I"⟩ : MethodName)) hown (mvT hZ (hw _ (List.mem_of_getElem? (i := 18) rfl))) (mvT hZ (hw _ (List.mem_of_getElem? (i := 19) rfl))) (mvT hZ (hw _ (List.mem_of_getElem? (i := 20) rfl))) (mvT hZ (hw _ (List.mem_of_getElem? (i := 21) rfl))) (by decide) (backOf (W := 1) (rm4_5 l Z a0 hw [] h2 n0 Z2) hZ (hw _ (List.mem_of_getElem? (i := 21) rfl)) (hw _ (List.mem_of_getElem? (i := 20) rfl)) (by decide) (by decide)) (g := (mkF m 20 #[rv r0, rv r1, iv (3 : Int32), un] [(.int (5 : Int32)), (.int (32 : Int32))])) rfl (by rw [hml]; rfl) (argsL := [(.int (5 : Int32))]) (rest := [(.int (32 : Int32))]) (lenOf pd_1 rfl) rfl (by show 2 * 0 + _ ≤ _; exact Nat.le_of_eq rfl) (hb hby d1_20) (fun _ _ => ⟨rfl, e8, (by decide : 0 + 0 ≤ _), (by decide : 0 + 0 ≤ _)⟩)
  dsimp only [Pt.U, Pt.locs, Pt.cells, Pt.slots] at X9 l9 y9 z9 st9 hQ9
  subst l9 y9 z9
  obtain ⟨rfl, Nq9, e9⟩ := hQ9
  have N9 := Fr.app N8 Nq9
  refine Go.stp (fun t_ k_ => st9 t_ k_) ?_
  show Go p.tables e below G (T9.setTop (mkF m 23 #[rv r0, rv r1, iv (3 : Int32), un] [(.int (29 : Int32)), (.int (32 : Int32))]))
  refine Go.stp (fun t_ k_ => XS.isub X9.here hx rfl (hb hby d1_23) rfl k_) ?_
  show Go p.tables e below G (T9.setTop (mkF m 24 #[rv r0, rv r1, iv (3 : Int32), un] [(.int ((32 : Int32) - (29 : Int32)))]))
  refine Go.stp (fun t_ k_ => XS.istoreN X9.here hx rfl (hb hby d1_24) rfl (l' := #[rv r0, rv r1, iv (3 : Int32), iv ((32 : Int32) - (29 : Int32))]) rfl k_) ?_
  show Go p.tables e below G (T9.setTop (mkF m 25 #[rv r0, rv r1, iv (3 : Int32), iv ((32 : Int32) - (29 : Int32))] []))
  refine Go.stp (fun t_ k_ => XS.aloadN X9.here hx rfl (hb hby d1_25) rfl rfl k_) ?_
  show Go p.tables e below G (T9.setTop (mkF m 26 #[rv r0, rv r1, iv (3 : Int32), iv ((32 : Int32) - (29 : Int32))] [(.ref r0)]))
  refine Go.stp (fun t_ k_ => XS.iconst X9.here hx rfl (hb hby d1_26) k_) ?_
  show Go p.tables e below G (T9.setTop (mkF m 27 #[rv r0, rv r1, iv (3 : Int32), iv ((32 : Int32) - (29 : Int32))] [(.int (1 : Int32)), (.ref r0)]))
  refine Go.stp (fun t_ k_ => XS.iloadN X9.here hx rfl (hb hby d1_27) rfl k_) ?_
  show Go p.tables e below G (T9.setTop (mkF m 28 #[rv r0, rv r1, iv (3 : Int32), iv ((32 : Int32) - (29 : Int32))] [(.int ((32 : Int32) - (29 : Int32))), (.int (1 : Int32)), (.ref r0)]))
  refine Go.stp (fun t_ k_ => XS.ishl X9.here hx rfl (hb hby d1_28) rfl k_) ?_
  show Go p.tables e below G (T9.setTop (mkF m 29 #[rv r0, rv r1, iv (3 : Int32), iv ((32 : Int32) - (29 : Int32))] [(.int ((1 : Int32) <<< (((32 : Int32) - (29 : Int32)) &&& 31))), (.ref r0)]))
  obtain ⟨T10, h10, k10, X10, e10, E10, A10, st10⟩ := newP X9 hx hZ (hw _ (List.mem_of_getElem? (i := 23) rfl)) e9 (g := (mkF m 29 #[rv r0, rv r1, iv (3 : Int32), iv ((32 : Int32) - (29 : Int32))] [(.int ((1 : Int32) <<< (((32 : Int32) - (29 : Int32)) &&& 31))), (.ref r0)])) rfl (hb hby d1_29) rfl (by decide) (cap := 8) (by decide) (by decide) (by decide) (by decide)
  obtain ⟨b10, g10⟩ : ∃ z, z = h2.size := ⟨_, rfl⟩
  rw [← g10] at A10 st10
  have u11 : r0 ≠ b10 := Nat.ne_of_lt (Nat.lt_of_lt_of_le f4.lt (Nat.le_of_eq g10.symm))
  have g_b10 : n0 ≤ b10 := Nat.le_trans Z2 (Nat.le_of_eq g10.symm)
  have sz_b10 : h0.size ≤ b10 := Nat.le_trans K2.1 (Nat.le_of_eq g10.symm)
  have f12 : Exa Z h10 r0 "com/example/chatterbench/chatterbench/data/IdIndex" := f4.ext E10
  have f13 : Fld Z h10 r0 "com/example/chatterbench/chatterbench/data/IdIndex" "ids" "[J" .null := f5.ext E10
  have f14 : Fld Z h10 r0 "com/example/chatterbench/chatterbench/data/IdIndex" "rows" "[I" .null := f6.ext E10
  have f15 : Fld Z h10 r0 "com/example/chatterbench/chatterbench/data/IdIndex" "shift" "I" (.int (0 : Int32)) := f7.ext E10
  have f16 : Fld Z h10 r0 "com/example/chatterbench/chatterbench/data/IdIndex" "entity" "Lcom/example/chatterbench/chatterbench/data/Entity;" (.ref r1) := f3.ext E10
  have Z10 : n0 ≤ h10.size := Nat.le_trans Z2 E10.1
  have K10 := K2.ext E10
  have f17 : Ia Z h10 b10 .long 8 Value.long (fun _ => (0 : Int64)) := Ia.new A10 (by decide) (by decide) rfl
  refine Go.stp (fun t_ k_ => st10 t_ k_) ?_
  show Go p.tables e below G (T10.setTop (mkF m 31 #[rv r0, rv r1, iv (3 : Int32), iv ((32 : Int32) - (29 : Int32))] [(.ref b10), (.ref r0)]))
  obtain ⟨T18, h18, X18, e18, W18, st18⟩ := putF X10 hx hZ hown (host := "") (Or.inl (hw _ (List.mem_of_getElem? (i := 24) rfl))) Via.refl e10 f13 f12 (Or.inr ⟨(hw _ (List.mem_of_getElem? (i := 25) rfl)), rfl, hnm⟩) (hw _ (List.mem_of_getElem? (i := 1) rfl)) (ty := (.array .long)) (by decide) rfl rfl (g := (mkF m 31 #[rv r0, rv r1, iv (3 : Int32), iv ((32 : Int32) - (29 : Int32))] [(.ref b10), (.ref r0)])) rfl rfl (hb hby d1_31)
  have f19 : Fld Z h18 r0 "com/example/chatterbench/chatterbench/data/IdIndex" "ids" "[J" (.ref b10) := f13.same W18
  have f20 : Exa Z h18 r0 "com/example/chatterbench/chatterbench/data/IdIndex" := f12.wr W18
  have f21 : Fld Z h18 r0 "com/example/chatterbench/chatterbench/data/IdIndex" "rows" "[I" .null := f14.other W18 (Or.inr (slot_ne (Or.inr (hw _ (List.mem_of_getElem? (i := 28) rfl))) (Or.inr (hw _ (List.mem_of_getElem? (i := 25) rfl))) (by decide) (t := (.array .int)) (t' := (.array .long)) (by decide) (by decide)))
  have f22 : Fld Z h18 r0 "com/example/chatterbench/chatterbench/data/IdIndex" "shift" "I" (.int (0 : Int32)) := f15.other W18 (Or.inr (slot_ne (Or.inr (hw _ (List.mem_of_getElem? (i := 34) rfl))) (Or.inr (hw _ (List.mem_of_getElem? (i := 25) rfl))) (by decide) (t := .int) (t' := (.array .long)) (by decide) (by decide)))
  have f23 : Fld Z h18 r0 "com/example/chatterbench/chatterbench/data/IdIndex" "entity" "Lcom/example/chatterbench/chatterbench/data/Entity;" (.ref r1) := f16.other W18 (Or.inr (slot_ne (Or.inr (hw _ (List.mem_of_getElem? (i := 13) rfl))) (Or.inr (hw _ (List.mem_of_getElem? (i := 25) rfl))) (by decide) (t := (.object "com/example/chatterbench/chatterbench/data/Entity")) (t' := (.array .long)) (by decide) (by decide)))
  have f24 : Ia Z h18 b10 .long 8 Value.long (fun _ => (0 : Int64)) := f17.other W18 (Ne.symm u11)
  have N18 := Fr.snoc X18 N9 g_r0
  have K18 := K10.wr W18 (Or.inl (List.mem_of_getElem? (i := 0) rfl))
  have Z18 : n0 ≤ h18.size := Nat.le_trans Z10 (Keep.of_wr W18).1
  refine Go.stp (fun t_ k_ => st18 t_ k_) ?_
  show Go p.tables e below G (T18.setTop (mkF m 34 #[rv r0, rv r1, iv (3 : Int32), iv ((32 : Int32) - (29 : Int32))] []))
  refine Go.stp (fun t_ k_ => XS.aloadN X18.here hx rfl (hb hby d1_34) rfl rfl k_) ?_
  show Go p.tables e below G (T18.setTop (mkF m 35 #[rv r0, rv r1, iv (3 : Int32), iv ((32 : Int32) - (29 : Int32))] [(.ref r0)]))
  refine Go.stp (fun t_ k_ => XS.iconst X18.here hx rfl (hb hby d1_35) k_) ?_
  show Go p.tables e below G (T18.setTop (mkF m 36 #[rv r0, rv r1, iv (3 : Int32), iv ((32 : Int32) - (29 : Int32))] [(.int (1 : Int32)), (.ref r0)]))
  refine Go.stp (fun t_ k_ => XS.iloadN X18.here hx rfl (hb hby d1_36) rfl k_) ?_
  show Go p.tables e below G (T18.setTop (mkF m 37 #[rv r0, rv r1, iv (3 : Int32), iv ((32 : Int32) - (29 : Int32))] [(.int ((32 : Int32) - (29 : Int32))), (.int (1 : Int32)), (.ref r0)]))
  refine Go.stp (fun t_ k_ => XS.ishl X18.here hx rfl (hb hby d1_37) rfl k_) ?_
  show Go p.tables e below G (T18.setTop (mkF m 38 #[rv r0, rv r1, iv (3 : Int32), iv ((32 : Int32) - (29 : Int32))] [(.int ((1 : Int32) <<< (((32 : Int32) - (29 : Int32)) &&& 31))), (.ref r0)]))
  obtain ⟨T25, h25, k25, X25, e25, E25, A25, st25⟩ := newP X18 hx hZ (hw _ (List.mem_of_getElem? (i := 26) rfl)) e18 (g := (mkF m 38 #[rv r0, rv r1, iv (3 : Int32), iv ((32 : Int32) - (29 : Int32))] [(.int ((1 : Int32) <<< (((32 : Int32) - (29 : Int32)) &&& 31))), (.ref r0)])) rfl (hb hby d1_38) rfl (by decide) (cap := 8) (by decide) (by decide) (by decide) (by decide)
  obtain ⟨b25, g25⟩ : ∃ z, z = h18.size := ⟨_, rfl⟩
  rw [← g25] at A25 st25
  have u26 : r0 ≠ b25 := Nat.ne_of_lt (Nat.lt_of_lt_of_le f20.lt (Nat.le_of_eq g25.symm))
  have u27 : b10 ≠ b25 := Nat.ne_of_lt (Nat.lt_of_lt_of_le f24.lt (Nat.le_of_eq g25.symm))
  have g_b25 : n0 ≤ b25 := Nat.le_trans Z18 (Nat.le_of_eq g25.symm)
  have sz_b25 : h0.size ≤ b25 := Nat.le_trans K18.1 (Nat.le_of_eq g25.symm)
  have f28 : Exa Z h25 r0 "com/example/chatterbench/chatterbench/data/IdIndex" := f20.ext E25
  have f29 : Fld Z h25 r0 "com/example/chatterbench/chatterbench/data/IdIndex" "rows" "[I" .null := f21.ext E25
  have f30 : Fld Z h25 r0 "com/example/chatterbench/chatterbench/data/IdIndex" "shift" "I" (.int (0 : Int32)) := f22.ext E25
  have f31 : Fld Z h25 r0 "com/example/chatterbench/chatterbench/data/IdIndex" "entity" "Lcom/example/chatterbench/chatterbench/data/Entity;" (.ref r1) := f23.ext E25
  have f32 : Ia Z h25 b10 .long 8 Value.long (fun _ => (0 : Int64)) := f24.ext E25
  have f33 : Fld Z h25 r0 "com/example/chatterbench/chatterbench/data/IdIndex" "ids" "[J" (.ref b10) := f19.ext E25
  have Z25 : n0 ≤ h25.size := Nat.le_trans Z18 E25.1
  have K25 := K18.ext E25
  have f34 : Ia Z h25 b25 .int 8 Value.int (fun _ => (0 : Int32)) := Ia.new A25 (by decide) (by decide) rfl
  refine Go.stp (fun t_ k_ => st25 t_ k_) ?_
  show Go p.tables e below G (T25.setTop (mkF m 40 #[rv r0, rv r1, iv (3 : Int32), iv ((32 : Int32) - (29 : Int32))] [(.ref b25), (.ref r0)]))
  obtain ⟨T35, h35, X35, e35, W35, st35⟩ := putF X25 hx hZ hown (host := "") (Or.inl (hw _ (List.mem_of_getElem? (i := 27) rfl))) Via.refl e25 f29 f28 (Or.inr ⟨(hw _ (List.mem_of_getElem? (i := 28) rfl)), rfl, hnm⟩) (hw _ (List.mem_of_getElem? (i := 1) rfl)) (ty := (.array .int)) (by decide) rfl rfl (g := (mkF m 40 #[rv r0, rv r1, iv (3 : Int32), iv ((32 : Int32) - (29 : Int32))] [(.ref b25), (.ref r0)])) rfl rfl (hb hby d1_40)
  have f36 : Fld Z h35 r0 "com/example/chatterbench/chatterbench/data/IdIndex" "rows" "[I" (.ref b25) := f29.same W35
  have f37 : Exa Z h35 r0 "com/example/chatterbench/chatterbench/data/IdIndex" := f28.wr W35
  have f38 : Fld Z h35 r0 "com/example/chatterbench/chatterbench/data/IdIndex" "shift" "I" (.int (0 : Int32)) := f30.other W35 (Or.inr (slot_ne (Or.inr (hw _ (List.mem_of_getElem? (i := 34) rfl))) (Or.inr (hw _ (List.mem_of_getElem? (i := 28) rfl))) (by decide) (t := .int) (t' := (.array .int)) (by decide) (by decide)))
  have f39 : Fld Z h35 r0 "com/example/chatterbench/chatterbench/data/IdIndex" "entity" "Lcom/example/chatterbench/chatterbench/data/Entity;" (.ref r1) := f31.other W35 (Or.inr (slot_ne (Or.inr (hw _ (List.mem_of_getElem? (i := 13) rfl))) (Or.inr (hw _ (List.mem_of_getElem? (i := 28) rfl))) (by decide) (t := (.object "com/example/chatterbench/chatterbench/data/Entity")) (t' := (.array .int)) (by decide) (by decide)))
  have f40 : Ia Z h35 b10 .long 8 Value.long (fun _ => (0 : Int64)) := f32.other W35 (Ne.symm u11)
  have f41 : Fld Z h35 r0 "com/example/chatterbench/chatterbench/data/IdIndex" "ids" "[J" (.ref b10) := f33.other W35 (Or.inr (slot_ne (Or.inr (hw _ (List.mem_of_getElem? (i := 25) rfl))) (Or.inr (hw _ (List.mem_of_getElem? (i := 28) rfl))) (by decide) (t := (.array .long)) (t' := (.array .int)) (by decide) (by decide)))
  have f42 : Ia Z h35 b25 .int 8 Value.int (fun _ => (0 : Int32)) := f34.other W35 (Ne.symm u26)
  have N35 := Fr.snoc X35 N18 g_r0
  have K35 := K25.wr W35 (Or.inl (List.mem_of_getElem? (i := 0) rfl))
  have Z35 : n0 ≤ h35.size := Nat.le_trans Z25 (Keep.of_wr W35).1
  refine Go.stp (fun t_ k_ => st35 t_ k_) ?_
  show Go p.tables e below G (T35.setTop (mkF m 43 #[rv r0, rv r1, iv (3 : Int32), iv ((32 : Int32) - (29 : Int32))] []))
  refine Go.stp (fun t_ k_ => XS.aloadN X35.here hx rfl (hb hby d1_43) rfl rfl k_) ?_
  show Go p.tables e below G (T35.setTop (mkF m 44 #[rv r0, rv r1, iv (3 : Int32), iv ((32 : Int32) - (29 : Int32))] [(.ref r0)]))
  obtain ⟨T43, X43, e43, st43⟩ := getF X35 hx hZ hown (host := "") (Or.inl (hw _ (List.mem_of_getElem? (i := 27) rfl))) Via.refl e35 f36 (g := (mkF m 44 #[rv r0, rv r1, iv (3 : Int32), iv ((32 : Int32) - (29 : Int32))] [(.ref r0)])) rfl rfl (hb hby d1_44)
  refine Go.stp (fun t_ k_ => st43 t_ k_) ?_
  show Go p.tables e below G (T43.setTop (mkF m 47 #[rv r0, rv r1, iv (3 : Int32), iv ((32 : Int32) - (29 : Int32))] [(.ref b25)]))
  refine Go.stp (fun t_ k_ => XS.iconst X43.here hx rfl (hb hby d1_47) k_) ?_
  show Go p.tables e below G (T43.setTop (mkF m 48 #[rv r0, rv r1, iv (3 : Int32), iv ((32 : Int32) - (29 : Int32))] [(.int (-1 : Int32)), (.ref b25)]))
  obtain ⟨_, _, ⟨T44, L44, k44, n44⟩, -, X44, ⟨Lc44, hQ44, l44, y44, z44⟩, st44⟩ := Jvm.LawKit.callS X43 hx (y := (⟨"java/util/Arrays", "fill", "([II)V"⟩ : MethodName)) hown (mvT hZ (hw _ (List.mem_of_getElem? (i := 29) rfl))) (mvT hZ (hw _ (List.mem_of_getElem? (i := 30) rfl))) (mvT hZ (hw _ (List.mem_of_getElem? (i := 31) rfl))) (mvT hZ (hw _ (List.mem_of_getElem? (i := 32) rfl))) (by decide) (backOf (W := 0) (rm5_8 l Z a0 hw [] b25 (-1 : Int32) (fun _ => (0 : Int32)) h35 n0 Z35 f42 g_b25) hZ (hw _ (List.mem_of_getElem? (i := 32) rfl)) (hw _ (List.mem_of_getElem? (i := 31) rfl)) (by decide) (by decide)) (g := (mkF m 48 #[rv r0, rv r1, iv (3 : Int32), iv ((32 : Int32) - (29 : Int32))] [(.int (-1 : Int32)), (.ref b25)])) rfl (by rw [hml]; rfl) (argsL := [(.ref b25), (.int (-1 : Int32))]) (rest := []) (lenOf pd_2 rfl) rfl (by show 2 * 0 + _ ≤ _; exact Nat.le_of_eq rfl) (hb hby d1_48) (fun _ _ => ⟨rfl, e43, (by decide : 2 + 0 ≤ _), (by decide : 16 + 0 ≤ _)⟩)
  dsimp only [Pt.U, Pt.locs, Pt.cells, Pt.slots] at X44 l44 y44 z44 st44 hQ44
  subst l44 y44 z44
  obtain ⟨rfl, Nq44, Kc44, Iq44⟩ := hQ44
  have N44 := Fr.app N35 Nq44
  have f45 : Exa Z T44.heap r0 "com/example/chatterbench/chatterbench/data/IdIndex" := f37.keep Kc44
  have f46 : Fld Z T44.heap r0 "com/example/chatterbench/chatterbench/data/IdIndex" "shift" "I" (.int (0 : Int32)) := f38.keep Kc44 (fun q => by simp only [List.mem_cons, List.not_mem_nil, or_false] at q; exact u26 q)
  have f47 : Fld Z T44.heap r0 "com/example/chatterbench/chatterbench/data/IdIndex" "entity" "Lcom/example/chatterbench/chatterbench/data/Entity;" (.ref r1) := f39.keep Kc44 (fun q => by simp only [List.mem_cons, List.not_mem_nil, or_false] at q; exact u26 q)
  have f48 : Ia Z T44.heap b10 .long 8 Value.long (fun _ => (0 : Int64)) := f40.keep Kc44 (fun q => by simp only [List.mem_cons, List.not_mem_nil, or_false] at q; exact u27 q)
  have f49 : Fld Z T44.heap r0 "com/example/chatterbench/chatterbench/data/IdIndex" "ids" "[J" (.ref b10) := f41.keep Kc44 (fun q => by simp only [List.mem_cons, List.not_mem_nil, or_false] at q; exact u26 q)
  have f50 : Fld Z T44.heap r0 "com/example/chatterbench/chatterbench/data/IdIndex" "rows" "[I" (.ref b25) := f36.keep Kc44 (fun q => by simp only [List.mem_cons, List.not_mem_nil, or_false] at q; exact u26 q)
  have Z44 : n0 ≤ T44.heap.size := Nat.le_trans Z35 Kc44.1
  have K44 := K35.trans Kc44 (fun x q => by
      simp only [List.mem_cons, List.not_mem_nil, or_false] at q
      rw [q]; exact (Or.inr sz_b25))
  refine Go.stp (fun t_ k_ => st44 t_ k_) ?_
  show Go p.tables e below G (T44.setTop (mkF m 51 #[rv r0, rv r1, iv (3 : Int32), iv ((32 : Int32) - (29 : Int32))] []))
  refine Go.stp (fun t_ k_ => XS.aloadN X44.here hx rfl (hb hby d1_51) rfl rfl k_) ?_
  show Go p.tables e below G (T44.setTop (mkF m 52 #[rv r0, rv r1, iv (3 : Int32), iv ((32 : Int32) - (29 : Int32))] [(.ref r0)]))
  refine Go.stp (fun t_ k_ => XS.bipush X44.here hx rfl (hb hby d1_52) k_) ?_
  show Go p.tables e below G (T44.setTop (mkF m 54 #[rv r0, rv r1, iv (3 : Int32), iv ((32 : Int32) - (29 : Int32))] [(.int (64 : Int32)), (.ref r0)]))
  refine Go.stp (fun t_ k_ => XS.iloadN X44.here hx rfl (hb hby d1_54) rfl k_) ?_
  show Go p.tables e below G (T44.setTop (mkF m 55 #[rv r0, rv r1, iv (3 : Int32), iv ((32 : Int32) - (29 : Int32))] [(.int ((32 : Int32) - (29 : Int32))), (.int (64 : Int32)), (.ref r0)]))
  refine Go.stp (fun t_ k_ => XS.isub X44.here hx rfl (hb hby d1_55) rfl k_) ?_
  show Go p.tables e below G (T44.setTop (mkF m 56 #[rv r0, rv r1, iv (3 : Int32), iv ((32 : Int32) - (29 : Int32))] [(.int ((64 : Int32) - ((32 : Int32) - (29 : Int32)))), (.ref r0)]))
  obtain ⟨T51, h51, X51, e51, W51, st51⟩ := putF X44 hx hZ hown (host := "") (Or.inl (hw _ (List.mem_of_getElem? (i := 33) rfl))) Via.refl rfl f46 f45 (Or.inr ⟨(hw _ (List.mem_of_getElem? (i := 34) rfl)), rfl, hnm⟩) (hw _ (List.mem_of_getElem? (i := 1) rfl)) (ty := .int) (by decide) rfl rfl (g := (mkF m 56 #[rv r0, rv r1, iv (3 : Int32), iv ((32 : Int32) - (29 : Int32))] [(.int ((64 : Int32) - ((32 : Int32) - (29 : Int32)))), (.ref r0)])) rfl rfl (hb hby d1_56)
  have f52 : Fld Z h51 r0 "com/example/chatterbench/chatterbench/data/IdIndex" "shift" "I" (.int ((64 : Int32) - ((32 : Int32) - (29 : Int32)))) := f46.same W51
  have f53 : Exa Z h51 r0 "com/example/chatterbench/chatterbench/data/IdIndex" := f45.wr W51
  have f54 : Fld Z h51 r0 "com/example/chatterbench/chatterbench/data/IdIndex" "entity" "Lcom/example/chatterbench/chatterbench/data/Entity;" (.ref r1) := f47.other W51 (Or.inr (slot_ne (Or.inr (hw _ (List.mem_of_getElem? (i := 13) rfl))) (Or.inr (hw _ (List.mem_of_getElem? (i := 34) rfl))) (by decide) (t := (.object "com/example/chatterbench/chatterbench/data/Entity")) (t' := .int) (by decide) (by decide)))
  have f55 : Ia Z h51 b10 .long 8 Value.long (fun _ => (0 : Int64)) := f48.other W51 (Ne.symm u11)
  have f56 : Fld Z h51 r0 "com/example/chatterbench/chatterbench/data/IdIndex" "ids" "[J" (.ref b10) := f49.other W51 (Or.inr (slot_ne (Or.inr (hw _ (List.mem_of_getElem? (i := 25) rfl))) (Or.inr (hw _ (List.mem_of_getElem? (i := 34) rfl))) (by decide) (t := (.array .long)) (t' := .int) (by decide) (by decide)))
  have f57 : Fld Z h51 r0 "com/example/chatterbench/chatterbench/data/IdIndex" "rows" "[I" (.ref b25) := f50.other W51 (Or.inr (slot_ne (Or.inr (hw _ (List.mem_of_getElem? (i := 28) rfl))) (Or.inr (hw _ (List.mem_of_getElem? (i := 34) rfl))) (by decide) (t := (.array .int)) (t' := .int) (by decide) (by decide)))
  have f58 : Ia Z h51 b25 .int 8 Value.int (fun _ => (-1 : Int32)) := Iq44.other W51 (Ne.symm u26)
  have N51 := Fr.snoc X51 N44 g_r0
  have K51 := K44.wr W51 (Or.inl (List.mem_of_getElem? (i := 0) rfl))
  have Z51 : n0 ≤ h51.size := Nat.le_trans Z44 (Keep.of_wr W51).1
  refine Go.stp (fun t_ k_ => st51 t_ k_) ?_
  show Go p.tables e below G (T51.setTop (mkF m 59 #[rv r0, rv r1, iv (3 : Int32), iv ((32 : Int32) - (29 : Int32))] []))
  obtain ⟨fs, hr, hrun, hended, hW, hsame⟩ := X51.leave (v := none) (fun _ => rfl)
  refine ⟨_, _, X51.returnOut hx Bd.returns (hb hby d1_59) hr, hrun, hended, hG _ _ _ ?_ ⟨⟨_, rfl⟩, hW, hsame.mono (by decide) (by decide)⟩⟩
  show Q1_N8 Z r0 r1 h0 n0 _ T51.heap _
  rw [e51]
  have Fs : Fld Z h51 r0 "com/example/chatterbench/chatterbench/data/IdIndex" "shift" "I" (.int (61 : Int32)) := by
    have q := f52
    rw [show ((64 : Int32) - ((32 : Int32) - (29 : Int32))) = (61 : Int32) by decide] at q
    exact q
  exact ⟨rfl, N51, K51, b25, b10, g_b25, g_b10, (Ne.symm u27), u26, u11, f53, f57, f56, Fs, f58, f55⟩
theorem rm1_N8 (l : Launch) (Z : State) (a0 : Array Value) (hw : ∀ d ∈ tables_1, d.before a0 Z = true) (ws : List Jvm.Cond) (r0 : Addr) (r1 : Addr) (z : Int32) (h0 : Heap) (n0 : Nat) (Z0 : n0 ≤ h0.size) (E_r0 : Exa Z h0 r0 "com/example/chatterbench/chatterbench/data/IdIndex") (F_entity : Fld Z h0 r0 "com/example/chatterbench/chatterbench/data/IdIndex" "entity" "Lcom/example/chatterbench/chatterbench/data/Entity;" .null) (F_ids : Fld Z h0 r0 "com/example/chatterbench/chatterbench/data/IdIndex" "ids" "[J" .null) (F_rows : Fld Z h0 r0 "com/example/chatterbench/chatterbench/data/IdIndex" "rows" "[I" .null) (F_shift : Fld Z h0 r0 "com/example/chatterbench/chatterbench/data/IdIndex" "shift" "I" (.int (0 : Int32))) (g_r0 : n0 ≤ r0) (hz : z = (3 : Int32)) :
    MetFree l (⟨"com/example/chatterbench/chatterbench/data/IdIndex", "<init>", "(Lcom/example/chatterbench/chatterbench/data/Entity;I)V"⟩ : MethodName) (head1 (Jvm.Cond.code (⟨"com/example/chatterbench/chatterbench/data/IdIndex", "<init>", "(Lcom/example/chatterbench/chatterbench/data/Entity;I)V"⟩ : MethodName) prog_10_method_1_code 4 none :: ws) ({ frames := 1, cells := 2, slots := 16, locals := 16 } : Room)) (fun a U => a = #[(.ref r0), (.ref r1), (.int z)] ∧ Z.Warmed39 U.vm ∧ U.heap = h0) (fun _ _ _ _ _ => True) (fun _ U o U' => ∃ v L, o = .returned v ∧ Q1_N8 Z r0 r1 h0 n0 v U'.heap L ∧ FrameEnd U o U' L ({ frames := 1, cells := 2, slots := 16, locals := 16 } : Room).cells ({ frames := 1, cells := 2, slots := 16, locals := 16 } : Room).slots) := by
  rcases hz with rfl
  · exact rm1_c3 l Z a0 hw ws r0 r1 h0 n0 Z0 E_r0 F_entity F_ids F_rows F_shift g_r0
theorem d7_0 : decode prog_10_method_7_code 0 = .ok (.lload_n 1, 1) := by decide +kernel
theorem d7_1 : decode prog_10_method_7_code 1 = .ok (.ldc2_w 100, 3) := by decide +kernel
theorem d7_4 : decode prog_10_method_7_code 4 = .ok (.lmul, 1) := by decide +kernel
theorem d7_5 : decode prog_10_method_7_code 5 = .ok (.aload_n 0, 1) := by decide +kernel
theorem d7_6 : decode prog_10_method_7_code 6 = .ok (.getfield 41, 3) := by decide +kernel
theorem d7_9 : decode prog_10_method_7_code 9 = .ok (.lushr, 1) := by decide +kernel
theorem d7_10 : decode prog_10_method_7_code 10 = .ok (.l2i, 1) := by decide +kernel
theorem d7_11 : decode prog_10_method_7_code 11 = .ok (.istore_n 3, 1) := by decide +kernel
theorem d7_12 : decode prog_10_method_7_code 12 = .ok (.aload_n 0, 1) := by decide +kernel
theorem d7_13 : decode prog_10_method_7_code 13 = .ok (.getfield 29, 3) := by decide +kernel
theorem d7_16 : decode prog_10_method_7_code 16 = .ok (.iload_n 3, 1) := by decide +kernel
theorem d7_17 : decode prog_10_method_7_code 17 = .ok (.iaload, 1) := by decide +kernel
theorem d7_18 : decode prog_10_method_7_code 18 = .ok (.iconst (-1), 1) := by decide +kernel
theorem d7_19 : decode prog_10_method_7_code 19 = .ok (.if_icmp .eq 29, 3) := by decide +kernel
theorem d7_22 : decode prog_10_method_7_code 22 = .ok (.aload_n 0, 1) := by decide +kernel
theorem d7_23 : decode prog_10_method_7_code 23 = .ok (.getfield 25, 3) := by decide +kernel
theorem d7_26 : decode prog_10_method_7_code 26 = .ok (.iload_n 3, 1) := by decide +kernel
theorem d7_27 : decode prog_10_method_7_code 27 = .ok (.laload, 1) := by decide +kernel
theorem d7_28 : decode prog_10_method_7_code 28 = .ok (.lload_n 1, 1) := by decide +kernel
theorem d7_29 : decode prog_10_method_7_code 29 = .ok (.lcmp, 1) := by decide +kernel
theorem d7_30 : decode prog_10_method_7_code 30 = .ok (.ifCond .eq 18, 3) := by decide +kernel
theorem d7_33 : decode prog_10_method_7_code 33 = .ok (.iload_n 3, 1) := by decide +kernel
theorem d7_34 : decode prog_10_method_7_code 34 = .ok (.iconst 1, 1) := by decide +kernel
theorem d7_35 : decode prog_10_method_7_code 35 = .ok (.iadd, 1) := by decide +kernel
theorem d7_36 : decode prog_10_method_7_code 36 = .ok (.aload_n 0, 1) := by decide +kernel
theorem d7_37 : decode prog_10_method_7_code 37 = .ok (.getfield 29, 3) := by decide +kernel
theorem d7_40 : decode prog_10_method_7_code 40 = .ok (.arraylength, 1) := by decide +kernel
theorem d7_41 : decode prog_10_method_7_code 41 = .ok (.iconst 1, 1) := by decide +kernel
theorem d7_42 : decode prog_10_method_7_code 42 = .ok (.isub, 1) := by decide +kernel
theorem d7_43 : decode prog_10_method_7_code 43 = .ok (.iand, 1) := by decide +kernel
theorem d7_44 : decode prog_10_method_7_code 44 = .ok (.istore_n 3, 1) := by decide +kernel
theorem d7_45 : decode prog_10_method_7_code 45 = .ok (.goto (-33), 3) := by decide +kernel
theorem d7_48 : decode prog_10_method_7_code 48 = .ok (.iload_n 3, 1) := by decide +kernel
theorem d7_49 : decode prog_10_method_7_code 49 = .ok (.ireturn, 1) := by decide +kernel
theorem ef_7_8 (m : MethodId) (r0 : Addr) (q1 : Int64) : entryFrame m #[(.ref r0), (.long q1)] 4 = mkF m 0 #[rv r0, lv q1, sd, un] [] := by first | (simp [entryFrame, mkF, argsToLocals, Value.category, iv, rv, lv, un, sd]; done) | rfl
def Q7_8 (Z : State) (r0 : Addr) (q1 : Int64) (ra : Addr) (ia : Addr) (R : Nat → Int32) (I : Nat → Int64) (t : Nat) (h0 : Heap) (n0 : Nat) (v : Option Value) (h : Heap) (L : List Loc) : Prop := v = some (.int (own_it (own_hm8 q1) ((8 : Int32) - (1 : Int32)) t)) ∧ Fr n0 L ∧ h = h0
set_option maxRecDepth 65536 in
set_option maxHeartbeats 40000000 in
theorem rm7_8 (l : Launch) (Z : State) (a0 : Array Value) (hw : ∀ d ∈ tables_1, d.before a0 Z = true) (ws : List Jvm.Cond) (r0 : Addr) (q1 : Int64) (ra : Addr) (ia : Addr) (R : Nat → Int32) (I : Nat → Int64) (t : Nat) (h0 : Heap) (n0 : Nat) (Z0 : n0 ≤ h0.size) (F_rows : Fld Z h0 r0 "com/example/chatterbench/chatterbench/data/IdIndex" "rows" "[I" (.ref ra)) (F_ids : Fld Z h0 r0 "com/example/chatterbench/chatterbench/data/IdIndex" "ids" "[J" (.ref ia)) (I_ra : Ia Z h0 ra .int 8 Value.int R) (I_ia : Ia Z h0 ia .long 8 Value.long I) (F_shift : Fld Z h0 r0 "com/example/chatterbench/chatterbench/data/IdIndex" "shift" "I" (.int (61 : Int32))) (hs : Stop R I (own_P8 q1) q1 t) :
    MetFree l (⟨"com/example/chatterbench/chatterbench/data/IdIndex", "slot", "(J)I"⟩ : MethodName) (head1 (Jvm.Cond.code (⟨"com/example/chatterbench/chatterbench/data/IdIndex", "slot", "(J)I"⟩ : MethodName) prog_10_method_7_code 4 (some .int) :: ws) ({ frames := 0, cells := 0, slots := 0, locals := 0 } : Room)) (fun a U => a = #[(.ref r0), (.long q1)] ∧ Z.Warmed39 U.vm ∧ U.heap = h0) (fun _ _ _ _ _ => True) (fun _ U o U' => ∃ v L, o = .returned v ∧ Q7_8 Z r0 q1 ra ia R I t h0 n0 v U'.heap L ∧ FrameEnd U o U' L ({ frames := 0, cells := 0, slots := 0, locals := 0 } : Room).cells ({ frames := 0, cells := 0, slots := 0, locals := 0 } : Room).slots) := by
  refine MetFree.of_bodySF (plainFor_of_name pn_1) hisR ?_
  intro p e s m args below meth c s₁ Bd hml0 hP hK
  obtain ⟨rfl, hZ, hh⟩ := hP
  have hx := Bd.exec
  have hby := Bd.bytes
  have hml : c.maxLocals = 4 := hml0
  have hown : s.vm.findClass "com/example/chatterbench/chatterbench/data/IdIndex" = some m.cls := findClass_of_methodNamed Bd.named
  have hnm := (name_of_methodNamed Bd.named Bd.method).1
  have X0 : Stand p l e ({ frames := 0, cells := 0, slots := 0, locals := 0 } : Room) s m #[(.ref r0), (.long q1)] below meth c s₁ [] 0 0 := Stand.of_body Bd
  have e0 : s₁.heap = h0 := by rw [← hh, Bd.state]; rfl
  have N0 := Fr.nil n0
  suffices HH : ∀ G : Outcome → State → Prop, (∀ v L U', Q7_8 Z r0 q1 ra ia R I t h0 n0 v U'.heap L → FrameEnd s (.returned v) U' L ({ frames := 0, cells := 0, slots := 0, locals := 0 } : Room).cells ({ frames := 0, cells := 0, slots := 0, locals := 0 } : Room).slots → G (.returned v) U') → Go p.tables e below G (s₁.setTop (mkF m 0 #[rv r0, lv q1, sd, un] [])) by
    obtain ⟨s2, o, h1, h2, h3, h4⟩ := HH (fun o U' => ∃ v L, o = .returned v ∧ Q7_8 Z r0 q1 ra ia R I t h0 n0 v U'.heap L ∧ FrameEnd s o U' L ({ frames := 0, cells := 0, slots := 0, locals := 0 } : Room).cells ({ frames := 0, cells := 0, slots := 0, locals := 0 } : Room).slots) (fun v L U' q f => ⟨v, L, rfl, q, f⟩)
    exact ⟨s2, o, castTop (ef_7_8 m r0 q1) h1, h2, h3, h4⟩
  intro G hG
  show Go p.tables e below G (s₁.setTop (mkF m 0 #[rv r0, lv q1, sd, un] []))
  refine Go.stp (fun t_ k_ => XS.lloadN X0.here hx rfl (hb hby d7_0) rfl k_) ?_
  show Go p.tables e below G (s₁.setTop (mkF m 1 #[rv r0, lv q1, sd, un] [(.long q1)]))
  refine Go.stp (fun t_ k_ => X0.ldc2Long hx hown (mvT hZ (hw _ (List.mem_of_getElem? (i := 47) rfl))) (g := (mkF m 1 #[rv r0, lv q1, sd, un] [(.long q1)])) rfl (hb hby d7_1) t_ k_) ?_
  show Go p.tables e below G (s₁.setTop (mkF m 4 #[rv r0, lv q1, sd, un] [(.long (-7046029254386353131 : Int64)), (.long q1)]))
  refine Go.stp (fun t_ k_ => XS.lmul X0.here hx rfl (hb hby d7_4) rfl k_) ?_
  show Go p.tables e below G (s₁.setTop (mkF m 5 #[rv r0, lv q1, sd, un] [(.long (q1 * (-7046029254386353131 : Int64)))]))
  refine Go.stp (fun t_ k_ => XS.aloadN X0.here hx rfl (hb hby d7_5) rfl rfl k_) ?_
  show Go p.tables e below G (s₁.setTop (mkF m 6 #[rv r0, lv q1, sd, un] [(.ref r0), (.long (q1 * (-7046029254386353131 : Int64)))]))
  obtain ⟨T1, X1, e1, st1⟩ := getF X0 hx hZ hown (host := "") (Or.inl (hw _ (List.mem_of_getElem? (i := 33) rfl))) Via.refl e0 F_shift (g := (mkF m 6 #[rv r0, lv q1, sd, un] [(.ref r0), (.long (q1 * (-7046029254386353131 : Int64)))])) rfl rfl (hb hby d7_6)
  refine Go.stp (fun t_ k_ => st1 t_ k_) ?_
  show Go p.tables e below G (T1.setTop (mkF m 9 #[rv r0, lv q1, sd, un] [(.int (61 : Int32)), (.long (q1 * (-7046029254386353131 : Int64)))]))
  refine Go.stp (fun t_ k_ => XS.lushr X1.here hx rfl (hb hby d7_9) rfl k_) ?_
  show Go p.tables e below G (T1.setTop (mkF m 10 #[rv r0, lv q1, sd, un] [(.long (((q1 * (-7046029254386353131 : Int64)).toUInt64 >>> ((61 : Int32) &&& 0x3f).toInt64.toUInt64).toInt64))]))
  refine Go.stp (fun t_ k_ => XS.l2i X1.here hx rfl (hb hby d7_10) rfl k_) ?_
  show Go p.tables e below G (T1.setTop (mkF m 11 #[rv r0, lv q1, sd, un] [(.int ((((q1 * (-7046029254386353131 : Int64)).toUInt64 >>> ((61 : Int32) &&& 0x3f).toInt64.toUInt64).toInt64).toInt32))]))
  refine Go.stp (fun t_ k_ => XS.istoreN X1.here hx rfl (hb hby d7_11) rfl (l' := #[rv r0, lv q1, sd, iv ((((q1 * (-7046029254386353131 : Int64)).toUInt64 >>> ((61 : Int32) &&& 0x3f).toInt64.toUInt64).toInt64).toInt32)]) rfl k_) ?_
  show Go p.tables e below G (T1.setTop (mkF m 12 #[rv r0, lv q1, sd, iv ((((q1 * (-7046029254386353131 : Int64)).toUInt64 >>> ((61 : Int32) &&& 0x3f).toInt64.toUInt64).toInt64).toInt32)] []))
  show Go p.tables e below G (T1.setTop (mkF m 12 #[.val (.ref r0), .val (.long q1), .second, .val (.int (own_it (own_hm8 q1) ((8 : Int32) - (1 : Int32)) 0))] []))
  suffices LP : ∀ (k : Nat) (T : State) (locs : List Loc) (u : Nat), Stand p l e ({ frames := 0, cells := 0, slots := 0, locals := 0 } : Room) s m #[(.ref r0), (.long q1)] below meth c T locs 0 0 → Fr n0 locs → T.heap = h0 → (u + k = t) → Go p.tables e below G (T.setTop (mkF m 12 #[rv r0, lv q1, sd, iv (own_it (own_hm8 q1) ((8 : Int32) - (1 : Int32)) u)] [])) from LP (t) _ _ (0) X1 N0 e1 (by omega)
  intro k
  induction k with
  | zero =>
    intro T locs u X N E hu
    obtain rfl : t = u := by omega
    show Go p.tables e below G (T.setTop (mkF m 12 #[rv r0, lv q1, sd, iv (own_it (own_hm8 q1) ((8 : Int32) - (1 : Int32)) t)] []))
    refine Go.stp (fun t_ k_ => XS.aloadN X.here hx rfl (hb hby d7_12) rfl rfl k_) ?_
    show Go p.tables e below G (T.setTop (mkF m 13 #[rv r0, lv q1, sd, iv (own_it (own_hm8 q1) ((8 : Int32) - (1 : Int32)) t)] [(.ref r0)]))
    obtain ⟨T2, X2, e2, st2⟩ := getF X hx hZ hown (host := "") (Or.inl (hw _ (List.mem_of_getElem? (i := 27) rfl))) Via.refl E F_rows (g := (mkF m 13 #[rv r0, lv q1, sd, iv (own_it (own_hm8 q1) ((8 : Int32) - (1 : Int32)) t)] [(.ref r0)])) rfl rfl (hb hby d7_13)
    refine Go.stp (fun t_ k_ => st2 t_ k_) ?_
    show Go p.tables e below G (T2.setTop (mkF m 16 #[rv r0, lv q1, sd, iv (own_it (own_hm8 q1) ((8 : Int32) - (1 : Int32)) t)] [(.ref ra)]))
    refine Go.stp (fun t_ k_ => XS.iloadN X2.here hx rfl (hb hby d7_16) rfl k_) ?_
    show Go p.tables e below G (T2.setTop (mkF m 17 #[rv r0, lv q1, sd, iv (own_it (own_hm8 q1) ((8 : Int32) - (1 : Int32)) t)] [(.int (own_it (own_hm8 q1) ((8 : Int32) - (1 : Int32)) t)), (.ref ra)]))
    obtain ⟨cl3, Ar3, Sz3, -, Hs3⟩ := id I_ra
    have ib3 : 0 ≤ ((own_it (own_hm8 q1) ((8 : Int32) - (1 : Int32)) t)).toInt ∧ ((own_it (own_hm8 q1) ((8 : Int32) - (1 : Int32)) t)).toInt < ((8 : Nat) : Int) := (own_tb8 q1 t)
    refine Go.stp (fun t_ k_ => X2.iaload hx (j := (own_it (own_hm8 q1) ((8 : Int32) - (1 : Int32)) t)) (v := (Value.int (R ((own_it (own_hm8 q1) ((8 : Int32) - (1 : Int32)) t)).toNatClampNeg))) (by rw [e2]; exact Ar3.1) (State.isArrayOf_alike hZ.alike Ar3.2.1) Ar3.2.2 (in_of Sz3 ib3) (Hs3 _ (at_of ib3)) (g := (mkF m 17 #[rv r0, lv q1, sd, iv (own_it (own_hm8 q1) ((8 : Int32) - (1 : Int32)) t)] [(.int (own_it (own_hm8 q1) ((8 : Int32) - (1 : Int32)) t)), (.ref ra)])) rfl rfl (hb hby d7_17) t_ k_) ?_
    show Go p.tables e below G (T2.setTop (mkF m 18 #[rv r0, lv q1, sd, iv (own_it (own_hm8 q1) ((8 : Int32) - (1 : Int32)) t)] [(.int (R ((own_it (own_hm8 q1) ((8 : Int32) - (1 : Int32)) t)).toNatClampNeg))]))
    refine Go.stp (fun t_ k_ => XS.iconst X2.here hx rfl (hb hby d7_18) k_) ?_
    show Go p.tables e below G (T2.setTop (mkF m 19 #[rv r0, lv q1, sd, iv (own_it (own_hm8 q1) ((8 : Int32) - (1 : Int32)) t)] [(.int (-1 : Int32)), (.int (R ((own_it (own_hm8 q1) ((8 : Int32) - (1 : Int32)) t)).toNatClampNeg))]))
    by_cases hc19 : (R ((own_it (own_hm8 q1) ((8 : Int32) - (1 : Int32)) t)).toNatClampNeg) = (-1 : Int32)
    · refine Go.stp (fun t_ k_ => XS.icmpYes X2.here hx rfl (pc0 := 19) (pc' := 48) rfl (hb hby d7_19) rfl (teq hc19).1 (by decide) (by decide) k_) ?_
      show Go p.tables e below G (T2.setTop (mkF m 48 #[rv r0, lv q1, sd, iv (own_it (own_hm8 q1) ((8 : Int32) - (1 : Int32)) t)] []))
      refine Go.stp (fun t_ k_ => XS.iloadN X2.here hx rfl (hb hby d7_48) rfl k_) ?_
      show Go p.tables e below G (T2.setTop (mkF m 49 #[rv r0, lv q1, sd, iv (own_it (own_hm8 q1) ((8 : Int32) - (1 : Int32)) t)] [(.int (own_it (own_hm8 q1) ((8 : Int32) - (1 : Int32)) t))]))
      obtain ⟨fs, hr, hrun, hended, hW, hsame⟩ := X2.leave (v := some (.int (own_it (own_hm8 q1) ((8 : Int32) - (1 : Int32)) t))) (fun h => by rw [Bd.returns] at h; cases h)
      refine ⟨_, _, retI X2 hx Bd.returns (hb hby d7_49) hr, hrun, hended, hG _ _ _ ?_ ⟨⟨_, rfl⟩, hW, hsame.mono (by decide) (by decide)⟩⟩
      show Q7_8 Z r0 q1 ra ia R I t h0 n0 _ T2.heap _
      rw [e2]
      exact ⟨rfl, N, rfl⟩
    · refine Go.stp (fun t_ k_ => XS.icmpNo X2.here hx rfl (hb hby d7_19) rfl (feq hc19).1 k_) ?_
      show Go p.tables e below G (T2.setTop (mkF m 22 #[rv r0, lv q1, sd, iv (own_it (own_hm8 q1) ((8 : Int32) - (1 : Int32)) t)] []))
      refine Go.stp (fun t_ k_ => XS.aloadN X2.here hx rfl (hb hby d7_22) rfl rfl k_) ?_
      show Go p.tables e below G (T2.setTop (mkF m 23 #[rv r0, lv q1, sd, iv (own_it (own_hm8 q1) ((8 : Int32) - (1 : Int32)) t)] [(.ref r0)]))
      obtain ⟨T4, X4, e4, st4⟩ := getF X2 hx hZ hown (host := "") (Or.inl (hw _ (List.mem_of_getElem? (i := 24) rfl))) Via.refl e2 F_ids (g := (mkF m 23 #[rv r0, lv q1, sd, iv (own_it (own_hm8 q1) ((8 : Int32) - (1 : Int32)) t)] [(.ref r0)])) rfl rfl (hb hby d7_23)
      refine Go.stp (fun t_ k_ => st4 t_ k_) ?_
      show Go p.tables e below G (T4.setTop (mkF m 26 #[rv r0, lv q1, sd, iv (own_it (own_hm8 q1) ((8 : Int32) - (1 : Int32)) t)] [(.ref ia)]))
      refine Go.stp (fun t_ k_ => XS.iloadN X4.here hx rfl (hb hby d7_26) rfl k_) ?_
      show Go p.tables e below G (T4.setTop (mkF m 27 #[rv r0, lv q1, sd, iv (own_it (own_hm8 q1) ((8 : Int32) - (1 : Int32)) t)] [(.int (own_it (own_hm8 q1) ((8 : Int32) - (1 : Int32)) t)), (.ref ia)]))
      obtain ⟨cl5, Ar5, Sz5, -, Hs5⟩ := id I_ia
      have ib5 : 0 ≤ ((own_it (own_hm8 q1) ((8 : Int32) - (1 : Int32)) t)).toInt ∧ ((own_it (own_hm8 q1) ((8 : Int32) - (1 : Int32)) t)).toInt < ((8 : Nat) : Int) := (own_tb8 q1 t)
      refine Go.stp (fun t_ k_ => X4.laload hx (j := (own_it (own_hm8 q1) ((8 : Int32) - (1 : Int32)) t)) (v := (Value.long (I ((own_it (own_hm8 q1) ((8 : Int32) - (1 : Int32)) t)).toNatClampNeg))) (by rw [e4]; exact Ar5.1) (State.isArrayOf_alike hZ.alike Ar5.2.1) Ar5.2.2 (in_of Sz5 ib5) (Hs5 _ (at_of ib5)) (g := (mkF m 27 #[rv r0, lv q1, sd, iv (own_it (own_hm8 q1) ((8 : Int32) - (1 : Int32)) t)] [(.int (own_it (own_hm8 q1) ((8 : Int32) - (1 : Int32)) t)), (.ref ia)])) rfl rfl (hb hby d7_27) t_ k_) ?_
      show Go p.tables e below G (T4.setTop (mkF m 28 #[rv r0, lv q1, sd, iv (own_it (own_hm8 q1) ((8 : Int32) - (1 : Int32)) t)] [(.long (I ((own_it (own_hm8 q1) ((8 : Int32) - (1 : Int32)) t)).toNatClampNeg))]))
      refine Go.stp (fun t_ k_ => XS.lloadN X4.here hx rfl (hb hby d7_28) rfl k_) ?_
      show Go p.tables e below G (T4.setTop (mkF m 29 #[rv r0, lv q1, sd, iv (own_it (own_hm8 q1) ((8 : Int32) - (1 : Int32)) t)] [(.long q1), (.long (I ((own_it (own_hm8 q1) ((8 : Int32) - (1 : Int32)) t)).toNatClampNeg))]))
      refine Go.stp (fun t_ k_ => XS.lcmp X4.here hx rfl (hb hby d7_29) rfl k_) ?_
      show Go p.tables e below G (T4.setTop (mkF m 30 #[rv r0, lv q1, sd, iv (own_it (own_hm8 q1) ((8 : Int32) - (1 : Int32)) t)] [(.int (lcmpW (I ((own_it (own_hm8 q1) ((8 : Int32) - (1 : Int32)) t)).toNatClampNeg) q1))]))
      have hd30 : (I ((own_it (own_hm8 q1) ((8 : Int32) - (1 : Int32)) t)).toNatClampNeg) = q1 := (hs.2.resolve_left hc19)
      refine Go.stp (fun t_ k_ => XS.ifYes X4.here hx rfl (pc0 := 30) (pc' := 48) rfl (hb hby d7_30) rfl ((if0 _ _).trans (teq ((lw_eq (I ((own_it (own_hm8 q1) ((8 : Int32) - (1 : Int32)) t)).toNatClampNeg) q1).mpr hd30)).1) (by decide) (by decide) k_) ?_
      show Go p.tables e below G (T4.setTop (mkF m 48 #[rv r0, lv q1, sd, iv (own_it (own_hm8 q1) ((8 : Int32) - (1 : Int32)) t)] []))
      refine Go.stp (fun t_ k_ => XS.iloadN X4.here hx rfl (hb hby d7_48) rfl k_) ?_
      show Go p.tables e below G (T4.setTop (mkF m 49 #[rv r0, lv q1, sd, iv (own_it (own_hm8 q1) ((8 : Int32) - (1 : Int32)) t)] [(.int (own_it (own_hm8 q1) ((8 : Int32) - (1 : Int32)) t))]))
      obtain ⟨fs, hr, hrun, hended, hW, hsame⟩ := X4.leave (v := some (.int (own_it (own_hm8 q1) ((8 : Int32) - (1 : Int32)) t))) (fun h => by rw [Bd.returns] at h; cases h)
      refine ⟨_, _, retI X4 hx Bd.returns (hb hby d7_49) hr, hrun, hended, hG _ _ _ ?_ ⟨⟨_, rfl⟩, hW, hsame.mono (by decide) (by decide)⟩⟩
      show Q7_8 Z r0 q1 ra ia R I t h0 n0 _ T4.heap _
      rw [e4]
      exact ⟨rfl, N, rfl⟩
  | succ k ih =>
    intro T locs u X N E hu
    have hsu := hs.1 u (by omega)
    show Go p.tables e below G (T.setTop (mkF m 12 #[rv r0, lv q1, sd, iv (own_it (own_hm8 q1) ((8 : Int32) - (1 : Int32)) u)] []))
    refine Go.stp (fun t_ k_ => XS.aloadN X.here hx rfl (hb hby d7_12) rfl rfl k_) ?_
    show Go p.tables e below G (T.setTop (mkF m 13 #[rv r0, lv q1, sd, iv (own_it (own_hm8 q1) ((8 : Int32) - (1 : Int32)) u)] [(.ref r0)]))
    obtain ⟨T6, X6, e6, st6⟩ := getF X hx hZ hown (host := "") (Or.inl (hw _ (List.mem_of_getElem? (i := 27) rfl))) Via.refl E F_rows (g := (mkF m 13 #[rv r0, lv q1, sd, iv (own_it (own_hm8 q1) ((8 : Int32) - (1 : Int32)) u)] [(.ref r0)])) rfl rfl (hb hby d7_13)
    refine Go.stp (fun t_ k_ => st6 t_ k_) ?_
    show Go p.tables e below G (T6.setTop (mkF m 16 #[rv r0, lv q1, sd, iv (own_it (own_hm8 q1) ((8 : Int32) - (1 : Int32)) u)] [(.ref ra)]))
    refine Go.stp (fun t_ k_ => XS.iloadN X6.here hx rfl (hb hby d7_16) rfl k_) ?_
    show Go p.tables e below G (T6.setTop (mkF m 17 #[rv r0, lv q1, sd, iv (own_it (own_hm8 q1) ((8 : Int32) - (1 : Int32)) u)] [(.int (own_it (own_hm8 q1) ((8 : Int32) - (1 : Int32)) u)), (.ref ra)]))
    obtain ⟨cl7, Ar7, Sz7, -, Hs7⟩ := id I_ra
    have ib7 : 0 ≤ ((own_it (own_hm8 q1) ((8 : Int32) - (1 : Int32)) u)).toInt ∧ ((own_it (own_hm8 q1) ((8 : Int32) - (1 : Int32)) u)).toInt < ((8 : Nat) : Int) := (own_tb8 q1 u)
    refine Go.stp (fun t_ k_ => X6.iaload hx (j := (own_it (own_hm8 q1) ((8 : Int32) - (1 : Int32)) u)) (v := (Value.int (R ((own_it (own_hm8 q1) ((8 : Int32) - (1 : Int32)) u)).toNatClampNeg))) (by rw [e6]; exact Ar7.1) (State.isArrayOf_alike hZ.alike Ar7.2.1) Ar7.2.2 (in_of Sz7 ib7) (Hs7 _ (at_of ib7)) (g := (mkF m 17 #[rv r0, lv q1, sd, iv (own_it (own_hm8 q1) ((8 : Int32) - (1 : Int32)) u)] [(.int (own_it (own_hm8 q1) ((8 : Int32) - (1 : Int32)) u)), (.ref ra)])) rfl rfl (hb hby d7_17) t_ k_) ?_
    show Go p.tables e below G (T6.setTop (mkF m 18 #[rv r0, lv q1, sd, iv (own_it (own_hm8 q1) ((8 : Int32) - (1 : Int32)) u)] [(.int (R ((own_it (own_hm8 q1) ((8 : Int32) - (1 : Int32)) u)).toNatClampNeg))]))
    refine Go.stp (fun t_ k_ => XS.iconst X6.here hx rfl (hb hby d7_18) k_) ?_
    show Go p.tables e below G (T6.setTop (mkF m 19 #[rv r0, lv q1, sd, iv (own_it (own_hm8 q1) ((8 : Int32) - (1 : Int32)) u)] [(.int (-1 : Int32)), (.int (R ((own_it (own_hm8 q1) ((8 : Int32) - (1 : Int32)) u)).toNatClampNeg))]))
    have hd19 : ¬ ((R ((own_it (own_hm8 q1) ((8 : Int32) - (1 : Int32)) u)).toNatClampNeg) = (-1 : Int32)) := hsu.1
    refine Go.stp (fun t_ k_ => XS.icmpNo X6.here hx rfl (hb hby d7_19) rfl (feq hd19).1 k_) ?_
    show Go p.tables e below G (T6.setTop (mkF m 22 #[rv r0, lv q1, sd, iv (own_it (own_hm8 q1) ((8 : Int32) - (1 : Int32)) u)] []))
    refine Go.stp (fun t_ k_ => XS.aloadN X6.here hx rfl (hb hby d7_22) rfl rfl k_) ?_
    show Go p.tables e below G (T6.setTop (mkF m 23 #[rv r0, lv q1, sd, iv (own_it (own_hm8 q1) ((8 : Int32) - (1 : Int32)) u)] [(.ref r0)]))
    obtain ⟨T8, X8, e8, st8⟩ := getF X6 hx hZ hown (host := "") (Or.inl (hw _ (List.mem_of_getElem? (i := 24) rfl))) Via.refl e6 F_ids (g := (mkF m 23 #[rv r0, lv q1, sd, iv (own_it (own_hm8 q1) ((8 : Int32) - (1 : Int32)) u)] [(.ref r0)])) rfl rfl (hb hby d7_23)
    refine Go.stp (fun t_ k_ => st8 t_ k_) ?_
    show Go p.tables e below G (T8.setTop (mkF m 26 #[rv r0, lv q1, sd, iv (own_it (own_hm8 q1) ((8 : Int32) - (1 : Int32)) u)] [(.ref ia)]))
    refine Go.stp (fun t_ k_ => XS.iloadN X8.here hx rfl (hb hby d7_26) rfl k_) ?_
    show Go p.tables e below G (T8.setTop (mkF m 27 #[rv r0, lv q1, sd, iv (own_it (own_hm8 q1) ((8 : Int32) - (1 : Int32)) u)] [(.int (own_it (own_hm8 q1) ((8 : Int32) - (1 : Int32)) u)), (.ref ia)]))
    obtain ⟨cl9, Ar9, Sz9, -, Hs9⟩ := id I_ia
    have ib9 : 0 ≤ ((own_it (own_hm8 q1) ((8 : Int32) - (1 : Int32)) u)).toInt ∧ ((own_it (own_hm8 q1) ((8 : Int32) - (1 : Int32)) u)).toInt < ((8 : Nat) : Int) := (own_tb8 q1 u)
    refine Go.stp (fun t_ k_ => X8.laload hx (j := (own_it (own_hm8 q1) ((8 : Int32) - (1 : Int32)) u)) (v := (Value.long (I ((own_it (own_hm8 q1) ((8 : Int32) - (1 : Int32)) u)).toNatClampNeg))) (by rw [e8]; exact Ar9.1) (State.isArrayOf_alike hZ.alike Ar9.2.1) Ar9.2.2 (in_of Sz9 ib9) (Hs9 _ (at_of ib9)) (g := (mkF m 27 #[rv r0, lv q1, sd, iv (own_it (own_hm8 q1) ((8 : Int32) - (1 : Int32)) u)] [(.int (own_it (own_hm8 q1) ((8 : Int32) - (1 : Int32)) u)), (.ref ia)])) rfl rfl (hb hby d7_27) t_ k_) ?_
    show Go p.tables e below G (T8.setTop (mkF m 28 #[rv r0, lv q1, sd, iv (own_it (own_hm8 q1) ((8 : Int32) - (1 : Int32)) u)] [(.long (I ((own_it (own_hm8 q1) ((8 : Int32) - (1 : Int32)) u)).toNatClampNeg))]))
    refine Go.stp (fun t_ k_ => XS.lloadN X8.here hx rfl (hb hby d7_28) rfl k_) ?_
    show Go p.tables e below G (T8.setTop (mkF m 29 #[rv r0, lv q1, sd, iv (own_it (own_hm8 q1) ((8 : Int32) - (1 : Int32)) u)] [(.long q1), (.long (I ((own_it (own_hm8 q1) ((8 : Int32) - (1 : Int32)) u)).toNatClampNeg))]))
    refine Go.stp (fun t_ k_ => XS.lcmp X8.here hx rfl (hb hby d7_29) rfl k_) ?_
    show Go p.tables e below G (T8.setTop (mkF m 30 #[rv r0, lv q1, sd, iv (own_it (own_hm8 q1) ((8 : Int32) - (1 : Int32)) u)] [(.int (lcmpW (I ((own_it (own_hm8 q1) ((8 : Int32) - (1 : Int32)) u)).toNatClampNeg) q1))]))
    have hd30 : ¬ ((I ((own_it (own_hm8 q1) ((8 : Int32) - (1 : Int32)) u)).toNatClampNeg) = q1) := hsu.2
    refine Go.stp (fun t_ k_ => XS.ifNo X8.here hx rfl (hb hby d7_30) rfl ((if0 _ _).trans (feq (fun q => hd30 ((lw_eq (I ((own_it (own_hm8 q1) ((8 : Int32) - (1 : Int32)) u)).toNatClampNeg) q1).mp q))).1) k_) ?_
    show Go p.tables e below G (T8.setTop (mkF m 33 #[rv r0, lv q1, sd, iv (own_it (own_hm8 q1) ((8 : Int32) - (1 : Int32)) u)] []))
    refine Go.stp (fun t_ k_ => XS.iloadN X8.here hx rfl (hb hby d7_33) rfl k_) ?_
    show Go p.tables e below G (T8.setTop (mkF m 34 #[rv r0, lv q1, sd, iv (own_it (own_hm8 q1) ((8 : Int32) - (1 : Int32)) u)] [(.int (own_it (own_hm8 q1) ((8 : Int32) - (1 : Int32)) u))]))
    refine Go.stp (fun t_ k_ => XS.iconst X8.here hx rfl (hb hby d7_34) k_) ?_
    show Go p.tables e below G (T8.setTop (mkF m 35 #[rv r0, lv q1, sd, iv (own_it (own_hm8 q1) ((8 : Int32) - (1 : Int32)) u)] [(.int (1 : Int32)), (.int (own_it (own_hm8 q1) ((8 : Int32) - (1 : Int32)) u))]))
    refine Go.stp (fun t_ k_ => XS.iadd X8.here hx rfl (hb hby d7_35) rfl k_) ?_
    show Go p.tables e below G (T8.setTop (mkF m 36 #[rv r0, lv q1, sd, iv (own_it (own_hm8 q1) ((8 : Int32) - (1 : Int32)) u)] [(.int ((own_it (own_hm8 q1) ((8 : Int32) - (1 : Int32)) u) + (1 : Int32)))]))
    refine Go.stp (fun t_ k_ => XS.aloadN X8.here hx rfl (hb hby d7_36) rfl rfl k_) ?_
    show Go p.tables e below G (T8.setTop (mkF m 37 #[rv r0, lv q1, sd, iv (own_it (own_hm8 q1) ((8 : Int32) - (1 : Int32)) u)] [(.ref r0), (.int ((own_it (own_hm8 q1) ((8 : Int32) - (1 : Int32)) u) + (1 : Int32)))]))
    obtain ⟨T10, X10, e10, st10⟩ := getF X8 hx hZ hown (host := "") (Or.inl (hw _ (List.mem_of_getElem? (i := 27) rfl))) Via.refl e8 F_rows (g := (mkF m 37 #[rv r0, lv q1, sd, iv (own_it (own_hm8 q1) ((8 : Int32) - (1 : Int32)) u)] [(.ref r0), (.int ((own_it (own_hm8 q1) ((8 : Int32) - (1 : Int32)) u) + (1 : Int32)))])) rfl rfl (hb hby d7_37)
    refine Go.stp (fun t_ k_ => st10 t_ k_) ?_
    show Go p.tables e below G (T10.setTop (mkF m 40 #[rv r0, lv q1, sd, iv (own_it (own_hm8 q1) ((8 : Int32) - (1 : Int32)) u)] [(.ref ra), (.int ((own_it (own_hm8 q1) ((8 : Int32) - (1 : Int32)) u) + (1 : Int32)))]))
    obtain ⟨cl11, Ar11, Sz11, -, -⟩ := id I_ra
    refine Go.stp (fun t_ k_ => X10.arraylength hx (by rw [e10]; exact Ar11.1) (State.isArrayOf_alike hZ.alike Ar11.2.1) (g := (mkF m 40 #[rv r0, lv q1, sd, iv (own_it (own_hm8 q1) ((8 : Int32) - (1 : Int32)) u)] [(.ref ra), (.int ((own_it (own_hm8 q1) ((8 : Int32) - (1 : Int32)) u) + (1 : Int32)))])) rfl rfl (hb hby d7_40) t_ k_) ?_
    rw [Sz11]
    show Go p.tables e below G (T10.setTop (mkF m 41 #[rv r0, lv q1, sd, iv (own_it (own_hm8 q1) ((8 : Int32) - (1 : Int32)) u)] [(.int (8 : Int32)), (.int ((own_it (own_hm8 q1) ((8 : Int32) - (1 : Int32)) u) + (1 : Int32)))]))
    refine Go.stp (fun t_ k_ => XS.iconst X10.here hx rfl (hb hby d7_41) k_) ?_
    show Go p.tables e below G (T10.setTop (mkF m 42 #[rv r0, lv q1, sd, iv (own_it (own_hm8 q1) ((8 : Int32) - (1 : Int32)) u)] [(.int (1 : Int32)), (.int (8 : Int32)), (.int ((own_it (own_hm8 q1) ((8 : Int32) - (1 : Int32)) u) + (1 : Int32)))]))
    refine Go.stp (fun t_ k_ => XS.isub X10.here hx rfl (hb hby d7_42) rfl k_) ?_
    show Go p.tables e below G (T10.setTop (mkF m 43 #[rv r0, lv q1, sd, iv (own_it (own_hm8 q1) ((8 : Int32) - (1 : Int32)) u)] [(.int ((8 : Int32) - (1 : Int32))), (.int ((own_it (own_hm8 q1) ((8 : Int32) - (1 : Int32)) u) + (1 : Int32)))]))
    refine Go.stp (fun t_ k_ => XS.iand X10.here hx rfl (hb hby d7_43) rfl k_) ?_
    show Go p.tables e below G (T10.setTop (mkF m 44 #[rv r0, lv q1, sd, iv (own_it (own_hm8 q1) ((8 : Int32) - (1 : Int32)) u)] [(.int (((own_it (own_hm8 q1) ((8 : Int32) - (1 : Int32)) u) + (1 : Int32)) &&& ((8 : Int32) - (1 : Int32))))]))
    refine Go.stp (fun t_ k_ => XS.istoreN X10.here hx rfl (hb hby d7_44) rfl (l' := #[rv r0, lv q1, sd, iv (((own_it (own_hm8 q1) ((8 : Int32) - (1 : Int32)) u) + (1 : Int32)) &&& ((8 : Int32) - (1 : Int32)))]) rfl k_) ?_
    show Go p.tables e below G (T10.setTop (mkF m 45 #[rv r0, lv q1, sd, iv (((own_it (own_hm8 q1) ((8 : Int32) - (1 : Int32)) u) + (1 : Int32)) &&& ((8 : Int32) - (1 : Int32)))] []))
    refine Go.stp (fun t_ k_ => XS.goto X10.here hx rfl (pc0 := 45) (pc' := 12) rfl (hb hby d7_45) (by decide) (by decide) k_) ?_
    show Go p.tables e below G (T10.setTop (mkF m 12 #[rv r0, lv q1, sd, iv (((own_it (own_hm8 q1) ((8 : Int32) - (1 : Int32)) u) + (1 : Int32)) &&& ((8 : Int32) - (1 : Int32)))] []))
    exact ih _ _ (u + 1) X10 N e10 (by omega)
theorem d6_0 : decode prog_10_method_3_code 0 = .ok (.aload_n 0, 1) := by decide +kernel
theorem d6_1 : decode prog_10_method_3_code 1 = .ok (.lload_n 1, 1) := by decide +kernel
theorem d6_2 : decode prog_10_method_3_code 2 = .ok (.invokevirtual 74, 3) := by decide +kernel
theorem d6_5 : decode prog_10_method_3_code 5 = .ok (.istore 4, 2) := by decide +kernel
theorem d6_7 : decode prog_10_method_3_code 7 = .ok (.aload_n 0, 1) := by decide +kernel
theorem d6_8 : decode prog_10_method_3_code 8 = .ok (.getfield 29, 3) := by decide +kernel
theorem d6_11 : decode prog_10_method_3_code 11 = .ok (.iload 4, 2) := by decide +kernel
theorem d6_13 : decode prog_10_method_3_code 13 = .ok (.iaload, 1) := by decide +kernel
theorem d6_14 : decode prog_10_method_3_code 14 = .ok (.iconst (-1), 1) := by decide +kernel
theorem d6_15 : decode prog_10_method_3_code 15 = .ok (.if_icmp .ne 7, 3) := by decide +kernel
theorem d6_18 : decode prog_10_method_3_code 18 = .ok (.iconst 1, 1) := by decide +kernel
theorem d6_19 : decode prog_10_method_3_code 19 = .ok (.goto 4, 3) := by decide +kernel
theorem d6_22 : decode prog_10_method_3_code 22 = .ok (.iconst 0, 1) := by decide +kernel
theorem d6_23 : decode prog_10_method_3_code 23 = .ok (.istore 5, 2) := by decide +kernel
theorem d6_25 : decode prog_10_method_3_code 25 = .ok (.iload 5, 2) := by decide +kernel
theorem d6_27 : decode prog_10_method_3_code 27 = .ok (.ifCond .eq 19, 3) := by decide +kernel
theorem d6_30 : decode prog_10_method_3_code 30 = .ok (.aload_n 0, 1) := by decide +kernel
theorem d6_31 : decode prog_10_method_3_code 31 = .ok (.getfield 25, 3) := by decide +kernel
theorem d6_34 : decode prog_10_method_3_code 34 = .ok (.iload 4, 2) := by decide +kernel
theorem d6_36 : decode prog_10_method_3_code 36 = .ok (.lload_n 1, 1) := by decide +kernel
theorem d6_37 : decode prog_10_method_3_code 37 = .ok (.lastore, 1) := by decide +kernel
theorem d6_38 : decode prog_10_method_3_code 38 = .ok (.aload_n 0, 1) := by decide +kernel
theorem d6_39 : decode prog_10_method_3_code 39 = .ok (.getfield 29, 3) := by decide +kernel
theorem d6_42 : decode prog_10_method_3_code 42 = .ok (.iload 4, 2) := by decide +kernel
theorem d6_44 : decode prog_10_method_3_code 44 = .ok (.iload_n 3, 1) := by decide +kernel
theorem d6_45 : decode prog_10_method_3_code 45 = .ok (.iastore, 1) := by decide +kernel
theorem d6_46 : decode prog_10_method_3_code 46 = .ok (.iload 5, 2) := by decide +kernel
theorem d6_48 : decode prog_10_method_3_code 48 = .ok (.ireturn, 1) := by decide +kernel
theorem ef_6_8 (m : MethodId) (r0 : Addr) (q1 : Int64) (p2 : Int32) : entryFrame m #[(.ref r0), (.long q1), (.int p2)] 6 = mkF m 0 #[rv r0, lv q1, sd, iv p2, un, un] [] := by first | (simp [entryFrame, mkF, argsToLocals, Value.category, iv, rv, lv, un, sd]; done) | rfl
def Q6_8 (Z : State) (r0 : Addr) (q1 : Int64) (p2 : Int32) (ra : Addr) (ia : Addr) (R : Nat → Int32) (I : Nat → Int64) (mp : Int64 → Int32) (F : List Nat) (h0 : Heap) (n0 : Nat) (v : Option Value) (h : Heap) (L : List Loc) : Prop := v = some (.int (if mp q1 = (-1 : Int32) then (1 : Int32) else (0 : Int32))) ∧ Fr n0 L ∧ Keep h0 h [ra, ia] ∧ ∃ (R' : Nat → Int32) (I' : Nat → Int64) (F' : List Nat), Ia Z h ra .int 8 Value.int R' ∧ Ia Z h ia .long 8 Value.long I' ∧ Rep 8 own_P8 R' I' (if mp q1 = (-1 : Int32) then updm mp q1 p2 else mp) F' ∧ F'.length ≤ F.length + 1
set_option maxRecDepth 65536 in
set_option maxHeartbeats 40000000 in
theorem rm6_8 (l : Launch) (Z : State) (a0 : Array Value) (hw : ∀ d ∈ tables_1, d.before a0 Z = true) (ws : List Jvm.Cond) (r0 : Addr) (q1 : Int64) (p2 : Int32) (ra : Addr) (ia : Addr) (R : Nat → Int32) (I : Nat → Int64) (mp : Int64 → Int32) (F : List Nat) (h0 : Heap) (n0 : Nat) (Z0 : n0 ≤ h0.size) (F_rows : Fld Z h0 r0 "com/example/chatterbench/chatterbench/data/IdIndex" "rows" "[I" (.ref ra)) (F_ids : Fld Z h0 r0 "com/example/chatterbench/chatterbench/data/IdIndex" "ids" "[J" (.ref ia)) (I_ra : Ia Z h0 ra .int 8 Value.int R) (I_ia : Ia Z h0 ia .long 8 Value.long I) (F_shift : Fld Z h0 r0 "com/example/chatterbench/chatterbench/data/IdIndex" "shift" "I" (.int (61 : Int32))) (E_r0 : Exa Z h0 r0 "com/example/chatterbench/chatterbench/data/IdIndex") (g_ra : n0 ≤ ra) (g_ia : n0 ≤ ia) (hri : ra ≠ ia) (hxr : r0 ≠ ra) (hxi : r0 ≠ ia) (hrep : Rep 8 own_P8 R I mp F) (hF : F.length + 1 < 8) (hp : p2 ≠ (-1 : Int32)) :
    MetFree l (⟨"com/example/chatterbench/chatterbench/data/IdIndex", "add", "(JI)Z"⟩ : MethodName) (head1 (Jvm.Cond.code (⟨"com/example/chatterbench/chatterbench/data/IdIndex", "add", "(JI)Z"⟩ : MethodName) prog_10_method_3_code 6 (some .boolean) :: ws) ({ frames := 1, cells := 0, slots := 0, locals := 15 } : Room)) (fun a U => a = #[(.ref r0), (.long q1), (.int p2)] ∧ Z.Warmed39 U.vm ∧ U.heap = h0) (fun _ _ _ _ _ => True) (fun _ U o U' => ∃ v L, o = .returned v ∧ Q6_8 Z r0 q1 p2 ra ia R I mp F h0 n0 v U'.heap L ∧ FrameEnd U o U' L ({ frames := 1, cells := 0, slots := 0, locals := 15 } : Room).cells ({ frames := 1, cells := 0, slots := 0, locals := 15 } : Room).slots) := by
  refine MetFree.of_bodySF (plainFor_of_name pn_1) hisR ?_
  intro p e s m args below meth c s₁ Bd hml0 hP hK
  obtain ⟨rfl, hZ, hh⟩ := hP
  have hx := Bd.exec
  have hby := Bd.bytes
  have hml : c.maxLocals = 6 := hml0
  have hown : s.vm.findClass "com/example/chatterbench/chatterbench/data/IdIndex" = some m.cls := findClass_of_methodNamed Bd.named
  have hnm := (name_of_methodNamed Bd.named Bd.method).1
  have X0 : Stand p l e ({ frames := 1, cells := 0, slots := 0, locals := 15 } : Room) s m #[(.ref r0), (.long q1), (.int p2)] below meth c s₁ [] 0 0 := Stand.of_body Bd
  have e0 : s₁.heap = h0 := by rw [← hh, Bd.state]; rfl
  have N0 := Fr.nil n0
  suffices HH : ∀ G : Outcome → State → Prop, (∀ v L U', Q6_8 Z r0 q1 p2 ra ia R I mp F h0 n0 v U'.heap L → FrameEnd s (.returned v) U' L ({ frames := 1, cells := 0, slots := 0, locals := 15 } : Room).cells ({ frames := 1, cells := 0, slots := 0, locals := 15 } : Room).slots → G (.returned v) U') → Go p.tables e below G (s₁.setTop (mkF m 0 #[rv r0, lv q1, sd, iv p2, un, un] [])) by
    obtain ⟨s2, o, h1, h2, h3, h4⟩ := HH (fun o U' => ∃ v L, o = .returned v ∧ Q6_8 Z r0 q1 p2 ra ia R I mp F h0 n0 v U'.heap L ∧ FrameEnd s o U' L ({ frames := 1, cells := 0, slots := 0, locals := 15 } : Room).cells ({ frames := 1, cells := 0, slots := 0, locals := 15 } : Room).slots) (fun v L U' q f => ⟨v, L, rfl, q, f⟩)
    exact ⟨s2, o, castTop (ef_6_8 m r0 q1 p2) h1, h2, h3, h4⟩
  intro G hG
  have K0 := Keep.refl h0 [ra, ia]
  obtain ⟨t, ht, hs, hm⟩ := hrep.2.1 q1
  show Go p.tables e below G (s₁.setTop (mkF m 0 #[rv r0, lv q1, sd, iv p2, un, un] []))
  refine Go.stp (fun t_ k_ => XS.aloadN X0.here hx rfl (hb hby d6_0) rfl rfl k_) ?_
  show Go p.tables e below G (s₁.setTop (mkF m 1 #[rv r0, lv q1, sd, iv p2, un, un] [(.ref r0)]))
  refine Go.stp (fun t_ k_ => XS.lloadN X0.here hx rfl (hb hby d6_1) rfl k_) ?_
  show Go p.tables e below G (s₁.setTop (mkF m 2 #[rv r0, lv q1, sd, iv p2, un, un] [(.long q1), (.ref r0)]))
  obtain ⟨cq1, qq1, qq1'⟩ := E_r0.cell
  obtain ⟨_, _, ⟨T1, L1, k1, n1⟩, -, X1, ⟨Lc1, hQ1, l1, y1, z1⟩, st1⟩ := X0.privateBack hx (y := (⟨"com/example/chatterbench/chatterbench/data/IdIndex", "slot", "(J)I"⟩ : MethodName)) hown (mvT hZ (hw _ (List.mem_of_getElem? (i := 43) rfl))) (mvT hZ (hw _ (List.mem_of_getElem? (i := 44) rfl))) (sel_priv (mvT hZ (hw _ (List.mem_of_getElem? (i := 1) rfl))) (Cond.privateMethod_at (mvP hZ (hw _ (List.mem_of_getElem? (i := 45) rfl)) (args := #[]))) (mvT hZ (hw _ (List.mem_of_getElem? (i := 44) rfl))) (by decide)) (Cond.privateMethod_at (mvP hZ (hw _ (List.mem_of_getElem? (i := 45) rfl)) (args := #[]))) (mvT hZ (hw _ (List.mem_of_getElem? (i := 46) rfl))) (by decide) (backOf (W := 0) (rm7_8 l Z a0 hw [] r0 q1 ra ia R I t h0 n0 Z0 F_rows F_ids I_ra I_ia F_shift hs) hZ (hw _ (List.mem_of_getElem? (i := 46) rfl)) (hw _ (List.mem_of_getElem? (i := 2) rfl)) (by decide) (by decide)) (g := (mkF m 2 #[rv r0, lv q1, sd, iv p2, un, un] [(.long q1), (.ref r0)])) rfl (by rw [hml]; rfl) (Steps.refl _) (a := r0) (by rw [e0]; exact qq1) qq1' (argsL := [(.long q1)]) (rest := []) (lenOf pd_3 rfl) rfl (by show 2 * 0 + _ ≤ _; exact Nat.le_of_eq rfl) (hb hby d6_2) (fun _ _ => ⟨rfl, e0, (by decide : 0 + 0 ≤ _), (by decide : 0 + 0 ≤ _)⟩)
  dsimp only [Pt.U, Pt.locs, Pt.cells, Pt.slots] at X1 l1 y1 z1 st1 hQ1
  subst l1 y1 z1
  obtain ⟨rfl, Nq1, e1⟩ := hQ1
  have N1 := Fr.app N0 Nq1
  refine Go.stp (fun t_ k_ => st1.trans k_) ?_
  show Go p.tables e below G (T1.setTop (mkF m 5 #[rv r0, lv q1, sd, iv p2, un, un] [(.int (own_it (own_hm8 q1) ((8 : Int32) - (1 : Int32)) t))]))
  refine Go.stp (fun t_ k_ => XS.istore X1.here hx rfl (hb hby d6_5) rfl (l' := #[rv r0, lv q1, sd, iv p2, iv (own_it (own_hm8 q1) ((8 : Int32) - (1 : Int32)) t), un]) rfl k_) ?_
  show Go p.tables e below G (T1.setTop (mkF m 7 #[rv r0, lv q1, sd, iv p2, iv (own_it (own_hm8 q1) ((8 : Int32) - (1 : Int32)) t), un] []))
  refine Go.stp (fun t_ k_ => XS.aloadN X1.here hx rfl (hb hby d6_7) rfl rfl k_) ?_
  show Go p.tables e below G (T1.setTop (mkF m 8 #[rv r0, lv q1, sd, iv p2, iv (own_it (own_hm8 q1) ((8 : Int32) - (1 : Int32)) t), un] [(.ref r0)]))
  obtain ⟨T2, X2, e2, st2⟩ := getF X1 hx hZ hown (host := "") (Or.inl (hw _ (List.mem_of_getElem? (i := 27) rfl))) Via.refl e1 F_rows (g := (mkF m 8 #[rv r0, lv q1, sd, iv p2, iv (own_it (own_hm8 q1) ((8 : Int32) - (1 : Int32)) t), un] [(.ref r0)])) rfl rfl (hb hby d6_8)
  refine Go.stp (fun t_ k_ => st2 t_ k_) ?_
  show Go p.tables e below G (T2.setTop (mkF m 11 #[rv r0, lv q1, sd, iv p2, iv (own_it (own_hm8 q1) ((8 : Int32) - (1 : Int32)) t), un] [(.ref ra)]))
  refine Go.stp (fun t_ k_ => XS.iload X2.here hx rfl (hb hby d6_11) rfl k_) ?_
  show Go p.tables e below G (T2.setTop (mkF m 13 #[rv r0, lv q1, sd, iv p2, iv (own_it (own_hm8 q1) ((8 : Int32) - (1 : Int32)) t), un] [(.int (own_it (own_hm8 q1) ((8 : Int32) - (1 : Int32)) t)), (.ref ra)]))
  obtain ⟨cl3, Ar3, Sz3, -, Hs3⟩ := id I_ra
  have ib3 : 0 ≤ ((own_it (own_hm8 q1) ((8 : Int32) - (1 : Int32)) t)).toInt ∧ ((own_it (own_hm8 q1) ((8 : Int32) - (1 : Int32)) t)).toInt < ((8 : Nat) : Int) := (own_tb8 q1 t)
  refine Go.stp (fun t_ k_ => X2.iaload hx (j := (own_it (own_hm8 q1) ((8 : Int32) - (1 : Int32)) t)) (v := (Value.int (R ((own_it (own_hm8 q1) ((8 : Int32) - (1 : Int32)) t)).toNatClampNeg))) (by rw [e2]; exact Ar3.1) (State.isArrayOf_alike hZ.alike Ar3.2.1) Ar3.2.2 (in_of Sz3 ib3) (Hs3 _ (at_of ib3)) (g := (mkF m 13 #[rv r0, lv q1, sd, iv p2, iv (own_it (own_hm8 q1) ((8 : Int32) - (1 : Int32)) t), un] [(.int (own_it (own_hm8 q1) ((8 : Int32) - (1 : Int32)) t)), (.ref ra)])) rfl rfl (hb hby d6_13) t_ k_) ?_
  show Go p.tables e below G (T2.setTop (mkF m 14 #[rv r0, lv q1, sd, iv p2, iv (own_it (own_hm8 q1) ((8 : Int32) - (1 : Int32)) t), un] [(.int (R ((own_it (own_hm8 q1) ((8 : Int32) - (1 : Int32)) t)).toNatClampNeg))]))
  refine Go.stp (fun t_ k_ => XS.iconst X2.here hx rfl (hb hby d6_14) k_) ?_
  show Go p.tables e below G (T2.setTop (mkF m 15 #[rv r0, lv q1, sd, iv p2, iv (own_it (own_hm8 q1) ((8 : Int32) - (1 : Int32)) t), un] [(.int (-1 : Int32)), (.int (R ((own_it (own_hm8 q1) ((8 : Int32) - (1 : Int32)) t)).toNatClampNeg))]))
  by_cases hc15 : (R ((own_it (own_hm8 q1) ((8 : Int32) - (1 : Int32)) t)).toNatClampNeg) = (-1 : Int32)
  · refine Go.stp (fun t_ k_ => XS.icmpNo X2.here hx rfl (hb hby d6_15) rfl (teq hc15).2 k_) ?_
    show Go p.tables e below G (T2.setTop (mkF m 18 #[rv r0, lv q1, sd, iv p2, iv (own_it (own_hm8 q1) ((8 : Int32) - (1 : Int32)) t), un] []))
    refine Go.stp (fun t_ k_ => XS.iconst X2.here hx rfl (hb hby d6_18) k_) ?_
    show Go p.tables e below G (T2.setTop (mkF m 19 #[rv r0, lv q1, sd, iv p2, iv (own_it (own_hm8 q1) ((8 : Int32) - (1 : Int32)) t), un] [(.int (1 : Int32))]))
    refine Go.stp (fun t_ k_ => XS.goto X2.here hx rfl (pc0 := 19) (pc' := 23) rfl (hb hby d6_19) (by decide) (by decide) k_) ?_
    show Go p.tables e below G (T2.setTop (mkF m 23 #[rv r0, lv q1, sd, iv p2, iv (own_it (own_hm8 q1) ((8 : Int32) - (1 : Int32)) t), un] [(.int (1 : Int32))]))
    refine Go.stp (fun t_ k_ => XS.istore X2.here hx rfl (hb hby d6_23) rfl (l' := #[rv r0, lv q1, sd, iv p2, iv (own_it (own_hm8 q1) ((8 : Int32) - (1 : Int32)) t), iv (1 : Int32)]) rfl k_) ?_
    show Go p.tables e below G (T2.setTop (mkF m 25 #[rv r0, lv q1, sd, iv p2, iv (own_it (own_hm8 q1) ((8 : Int32) - (1 : Int32)) t), iv (1 : Int32)] []))
    refine Go.stp (fun t_ k_ => XS.iload X2.here hx rfl (hb hby d6_25) rfl k_) ?_
    show Go p.tables e below G (T2.setTop (mkF m 27 #[rv r0, lv q1, sd, iv p2, iv (own_it (own_hm8 q1) ((8 : Int32) - (1 : Int32)) t), iv (1 : Int32)] [(.int (1 : Int32))]))
    refine Go.stp (fun t_ k_ => XS.ifNo X2.here hx rfl (hb hby d6_27) rfl ((if0 _ _).trans (feq (by decide : ¬ ((1 : Int32) = (0 : Int32)))).1) k_) ?_
    show Go p.tables e below G (T2.setTop (mkF m 30 #[rv r0, lv q1, sd, iv p2, iv (own_it (own_hm8 q1) ((8 : Int32) - (1 : Int32)) t), iv (1 : Int32)] []))
    refine Go.stp (fun t_ k_ => XS.aloadN X2.here hx rfl (hb hby d6_30) rfl rfl k_) ?_
    show Go p.tables e below G (T2.setTop (mkF m 31 #[rv r0, lv q1, sd, iv p2, iv (own_it (own_hm8 q1) ((8 : Int32) - (1 : Int32)) t), iv (1 : Int32)] [(.ref r0)]))
    obtain ⟨T4, X4, e4, st4⟩ := getF X2 hx hZ hown (host := "") (Or.inl (hw _ (List.mem_of_getElem? (i := 24) rfl))) Via.refl e2 F_ids (g := (mkF m 31 #[rv r0, lv q1, sd, iv p2, iv (own_it (own_hm8 q1) ((8 : Int32) - (1 : Int32)) t), iv (1 : Int32)] [(.ref r0)])) rfl rfl (hb hby d6_31)
    refine Go.stp (fun t_ k_ => st4 t_ k_) ?_
    show Go p.tables e below G (T4.setTop (mkF m 34 #[rv r0, lv q1, sd, iv p2, iv (own_it (own_hm8 q1) ((8 : Int32) - (1 : Int32)) t), iv (1 : Int32)] [(.ref ia)]))
    refine Go.stp (fun t_ k_ => XS.iload X4.here hx rfl (hb hby d6_34) rfl k_) ?_
    show Go p.tables e below G (T4.setTop (mkF m 36 #[rv r0, lv q1, sd, iv p2, iv (own_it (own_hm8 q1) ((8 : Int32) - (1 : Int32)) t), iv (1 : Int32)] [(.int (own_it (own_hm8 q1) ((8 : Int32) - (1 : Int32)) t)), (.ref ia)]))
    refine Go.stp (fun t_ k_ => XS.lloadN X4.here hx rfl (hb hby d6_36) rfl k_) ?_
    show Go p.tables e below G (T4.setTop (mkF m 37 #[rv r0, lv q1, sd, iv p2, iv (own_it (own_hm8 q1) ((8 : Int32) - (1 : Int32)) t), iv (1 : Int32)] [(.long q1), (.int (own_it (own_hm8 q1) ((8 : Int32) - (1 : Int32)) t)), (.ref ia)]))
    have ib5 : 0 ≤ ((own_it (own_hm8 q1) ((8 : Int32) - (1 : Int32)) t)).toInt ∧ ((own_it (own_hm8 q1) ((8 : Int32) - (1 : Int32)) t)).toInt < ((8 : Nat) : Int) := (own_tb8 q1 t)
    obtain ⟨cl5, Ar5, Sz5, -, -⟩ := id I_ia
    obtain ⟨T5, h5, X5, e5, W5, st5⟩ := stJ X4 hx hZ e4 Ar5 (j := (own_it (own_hm8 q1) ((8 : Int32) - (1 : Int32)) t)) (in_of Sz5 ib5) (g := (mkF m 37 #[rv r0, lv q1, sd, iv p2, iv (own_it (own_hm8 q1) ((8 : Int32) - (1 : Int32)) t), iv (1 : Int32)] [(.long q1), (.int (own_it (own_hm8 q1) ((8 : Int32) - (1 : Int32)) t)), (.ref ia)])) rfl rfl (hb hby d6_37)
    have f6 : Ia Z h5 ia .long 8 Value.long (upf I ((own_it (own_hm8 q1) ((8 : Int32) - (1 : Int32)) t)).toNatClampNeg q1) := I_ia.set W5 rfl
    have f7 : Fld Z h5 r0 "com/example/chatterbench/chatterbench/data/IdIndex" "rows" "[I" (.ref ra) := F_rows.other W5 (Or.inl hxi)
    have f8 : Fld Z h5 r0 "com/example/chatterbench/chatterbench/data/IdIndex" "ids" "[J" (.ref ia) := F_ids.other W5 (Or.inl hxi)
    have f9 : Ia Z h5 ra .int 8 Value.int R := I_ra.other W5 hri
    have f10 : Fld Z h5 r0 "com/example/chatterbench/chatterbench/data/IdIndex" "shift" "I" (.int (61 : Int32)) := F_shift.other W5 (Or.inl hxi)
    have f11 : Exa Z h5 r0 "com/example/chatterbench/chatterbench/data/IdIndex" := E_r0.wr W5
    have N5 := Fr.snoc X5 N1 g_ia
    have K5 := K0.wr W5 (Or.inl (List.mem_of_getElem? (i := 1) rfl))
    have Z5 : n0 ≤ h5.size := Nat.le_trans Z0 (Keep.of_wr W5).1
    refine Go.stp (fun t_ k_ => st5 t_ k_) ?_
    show Go p.tables e below G (T5.setTop (mkF m 38 #[rv r0, lv q1, sd, iv p2, iv (own_it (own_hm8 q1) ((8 : Int32) - (1 : Int32)) t), iv (1 : Int32)] []))
    refine Go.stp (fun t_ k_ => XS.aloadN X5.here hx rfl (hb hby d6_38) rfl rfl k_) ?_
    show Go p.tables e below G (T5.setTop (mkF m 39 #[rv r0, lv q1, sd, iv p2, iv (own_it (own_hm8 q1) ((8 : Int32) - (1 : Int32)) t), iv (1 : Int32)] [(.ref r0)]))
    obtain ⟨T12, X12, e12, st12⟩ := getF X5 hx hZ hown (host := "") (Or.inl (hw _ (List.mem_of_getElem? (i := 27) rfl))) Via.refl e5 f7 (g := (mkF m 39 #[rv r0, lv q1, sd, iv p2, iv (own_it (own_hm8 q1) ((8 : Int32) - (1 : Int32)) t), iv (1 : Int32)] [(.ref r0)])) rfl rfl (hb hby d6_39)
    refine Go.stp (fun t_ k_ => st12 t_ k_) ?_
    show Go p.tables e below G (T12.setTop (mkF m 42 #[rv r0, lv q1, sd, iv p2, iv (own_it (own_hm8 q1) ((8 : Int32) - (1 : Int32)) t), iv (1 : Int32)] [(.ref ra)]))
    refine Go.stp (fun t_ k_ => XS.iload X12.here hx rfl (hb hby d6_42) rfl k_) ?_
    show Go p.tables e below G (T12.setTop (mkF m 44 #[rv r0, lv q1, sd, iv p2, iv (own_it (own_hm8 q1) ((8 : Int32) - (1 : Int32)) t), iv (1 : Int32)] [(.int (own_it (own_hm8 q1) ((8 : Int32) - (1 : Int32)) t)), (.ref ra)]))
    refine Go.stp (fun t_ k_ => XS.iloadN X12.here hx rfl (hb hby d6_44) rfl k_) ?_
    show Go p.tables e below G (T12.setTop (mkF m 45 #[rv r0, lv q1, sd, iv p2, iv (own_it (own_hm8 q1) ((8 : Int32) - (1 : Int32)) t), iv (1 : Int32)] [(.int p2), (.int (own_it (own_hm8 q1) ((8 : Int32) - (1 : Int32)) t)), (.ref ra)]))
    have ib13 : 0 ≤ ((own_it (own_hm8 q1) ((8 : Int32) - (1 : Int32)) t)).toInt ∧ ((own_it (own_hm8 q1) ((8 : Int32) - (1 : Int32)) t)).toInt < ((8 : Nat) : Int) := (own_tb8 q1 t)
    obtain ⟨cl13, Ar13, Sz13, -, -⟩ := id f9
    obtain ⟨T13, h13, X13, e13, W13, st13⟩ := stI X12 hx hZ e12 Ar13 (j := (own_it (own_hm8 q1) ((8 : Int32) - (1 : Int32)) t)) (in_of Sz13 ib13) (g := (mkF m 45 #[rv r0, lv q1, sd, iv p2, iv (own_it (own_hm8 q1) ((8 : Int32) - (1 : Int32)) t), iv (1 : Int32)] [(.int p2), (.int (own_it (own_hm8 q1) ((8 : Int32) - (1 : Int32)) t)), (.ref ra)])) rfl rfl (hb hby d6_45)
    have f14 : Ia Z h13 ra .int 8 Value.int (upf R ((own_it (own_hm8 q1) ((8 : Int32) - (1 : Int32)) t)).toNatClampNeg p2) := f9.set W13 rfl
    have f15 : Fld Z h13 r0 "com/example/chatterbench/chatterbench/data/IdIndex" "rows" "[I" (.ref ra) := f7.other W13 (Or.inl hxr)
    have f16 : Fld Z h13 r0 "com/example/chatterbench/chatterbench/data/IdIndex" "ids" "[J" (.ref ia) := f8.other W13 (Or.inl hxr)
    have f17 : Fld Z h13 r0 "com/example/chatterbench/chatterbench/data/IdIndex" "shift" "I" (.int (61 : Int32)) := f10.other W13 (Or.inl hxr)
    have f18 : Exa Z h13 r0 "com/example/chatterbench/chatterbench/data/IdIndex" := f11.wr W13
    have f19 : Ia Z h13 ia .long 8 Value.long (upf I ((own_it (own_hm8 q1) ((8 : Int32) - (1 : Int32)) t)).toNatClampNeg q1) := f6.other W13 (Ne.symm hri)
    have N13 := Fr.snoc X13 N5 g_ra
    have K13 := K5.wr W13 (Or.inl (List.mem_of_getElem? (i := 0) rfl))
    have Z13 : n0 ≤ h13.size := Nat.le_trans Z5 (Keep.of_wr W13).1
    refine Go.stp (fun t_ k_ => st13 t_ k_) ?_
    show Go p.tables e below G (T13.setTop (mkF m 46 #[rv r0, lv q1, sd, iv p2, iv (own_it (own_hm8 q1) ((8 : Int32) - (1 : Int32)) t), iv (1 : Int32)] []))
    refine Go.stp (fun t_ k_ => XS.iload X13.here hx rfl (hb hby d6_46) rfl k_) ?_
    show Go p.tables e below G (T13.setTop (mkF m 48 #[rv r0, lv q1, sd, iv p2, iv (own_it (own_hm8 q1) ((8 : Int32) - (1 : Int32)) t), iv (1 : Int32)] [(.int (1 : Int32))]))
    obtain ⟨fs, hr, hrun, hended, hW, hsame⟩ := X13.leave (v := some (.int (1 : Int32))) (fun h => by rw [Bd.returns] at h; cases h)
    refine ⟨_, _, retN X13 hx (t := .boolean) Bd.returns (by simp) (hb hby d6_48) hr, hrun, hended, hG _ _ _ ?_ ⟨⟨_, rfl⟩, hW, hsame.mono (by decide) (by decide)⟩⟩
    show Q6_8 Z r0 q1 p2 ra ia R I mp F h0 n0 _ T13.heap _
    rw [e13]
    unfold Q6_8
    have hm' : mp q1 = (-1 : Int32) := hm.symm.trans hc15
    rw [if_pos hm', if_pos hm']
    exact ⟨rfl, N13, K13, _, _, _, f14, f19, rep_add hrep own_Pl8 own_Pi8 hF hp hs hc15 ht hm', Nat.le_refl _⟩
  · refine Go.stp (fun t_ k_ => XS.icmpYes X2.here hx rfl (pc0 := 15) (pc' := 22) rfl (hb hby d6_15) rfl (feq hc15).2 (by decide) (by decide) k_) ?_
    show Go p.tables e below G (T2.setTop (mkF m 22 #[rv r0, lv q1, sd, iv p2, iv (own_it (own_hm8 q1) ((8 : Int32) - (1 : Int32)) t), un] []))
    refine Go.stp (fun t_ k_ => XS.iconst X2.here hx rfl (hb hby d6_22) k_) ?_
    show Go p.tables e below G (T2.setTop (mkF m 23 #[rv r0, lv q1, sd, iv p2, iv (own_it (own_hm8 q1) ((8 : Int32) - (1 : Int32)) t), un] [(.int (0 : Int32))]))
    refine Go.stp (fun t_ k_ => XS.istore X2.here hx rfl (hb hby d6_23) rfl (l' := #[rv r0, lv q1, sd, iv p2, iv (own_it (own_hm8 q1) ((8 : Int32) - (1 : Int32)) t), iv (0 : Int32)]) rfl k_) ?_
    show Go p.tables e below G (T2.setTop (mkF m 25 #[rv r0, lv q1, sd, iv p2, iv (own_it (own_hm8 q1) ((8 : Int32) - (1 : Int32)) t), iv (0 : Int32)] []))
    refine Go.stp (fun t_ k_ => XS.iload X2.here hx rfl (hb hby d6_25) rfl k_) ?_
    show Go p.tables e below G (T2.setTop (mkF m 27 #[rv r0, lv q1, sd, iv p2, iv (own_it (own_hm8 q1) ((8 : Int32) - (1 : Int32)) t), iv (0 : Int32)] [(.int (0 : Int32))]))
    refine Go.stp (fun t_ k_ => XS.ifYes X2.here hx rfl (pc0 := 27) (pc' := 46) rfl (hb hby d6_27) rfl ((if0 _ _).trans (teq (by decide : (0 : Int32) = (0 : Int32))).1) (by decide) (by decide) k_) ?_
    show Go p.tables e below G (T2.setTop (mkF m 46 #[rv r0, lv q1, sd, iv p2, iv (own_it (own_hm8 q1) ((8 : Int32) - (1 : Int32)) t), iv (0 : Int32)] []))
    refine Go.stp (fun t_ k_ => XS.iload X2.here hx rfl (hb hby d6_46) rfl k_) ?_
    show Go p.tables e below G (T2.setTop (mkF m 48 #[rv r0, lv q1, sd, iv p2, iv (own_it (own_hm8 q1) ((8 : Int32) - (1 : Int32)) t), iv (0 : Int32)] [(.int (0 : Int32))]))
    obtain ⟨fs, hr, hrun, hended, hW, hsame⟩ := X2.leave (v := some (.int (0 : Int32))) (fun h => by rw [Bd.returns] at h; cases h)
    refine ⟨_, _, retN X2 hx (t := .boolean) Bd.returns (by simp) (hb hby d6_48) hr, hrun, hended, hG _ _ _ ?_ ⟨⟨_, rfl⟩, hW, hsame.mono (by decide) (by decide)⟩⟩
    show Q6_8 Z r0 q1 p2 ra ia R I mp F h0 n0 _ T2.heap _
    rw [e2]
    unfold Q6_8
    have hm' : ¬ (mp q1 = (-1 : Int32)) := fun q => hc15 (hm.trans q)
    rw [if_neg hm', if_neg hm']
    exact ⟨rfl, N1, K0, _, _, _, I_ra, I_ia, hrep, Nat.le_succ _⟩
theorem d8_0 : decode prog_10_method_5_code 0 = .ok (.iconst 0, 1) := by decide +kernel
theorem d8_1 : decode prog_10_method_5_code 1 = .ok (.istore_n 2, 1) := by decide +kernel
theorem d8_2 : decode prog_10_method_5_code 2 = .ok (.iload_n 2, 1) := by decide +kernel
theorem d8_3 : decode prog_10_method_5_code 3 = .ok (.aload_n 0, 1) := by decide +kernel
theorem d8_4 : decode prog_10_method_5_code 4 = .ok (.getfield 29, 3) := by decide +kernel
theorem d8_7 : decode prog_10_method_5_code 7 = .ok (.arraylength, 1) := by decide +kernel
theorem d8_8 : decode prog_10_method_5_code 8 = .ok (.if_icmp .ge 19, 3) := by decide +kernel
theorem d8_11 : decode prog_10_method_5_code 11 = .ok (.aload_n 0, 1) := by decide +kernel
theorem d8_12 : decode prog_10_method_5_code 12 = .ok (.getfield 29, 3) := by decide +kernel
theorem d8_15 : decode prog_10_method_5_code 15 = .ok (.iload_n 2, 1) := by decide +kernel
theorem d8_16 : decode prog_10_method_5_code 16 = .ok (.iaload, 1) := by decide +kernel
theorem d8_17 : decode prog_10_method_5_code 17 = .ok (.iload_n 1, 1) := by decide +kernel
theorem d8_18 : decode prog_10_method_5_code 18 = .ok (.if_icmp .eq 9, 3) := by decide +kernel
theorem d8_21 : decode prog_10_method_5_code 21 = .ok (.iinc 2 1, 3) := by decide +kernel
theorem d8_24 : decode prog_10_method_5_code 24 = .ok (.goto (-22), 3) := by decide +kernel
theorem d8_27 : decode prog_10_method_5_code 27 = .ok (.iload_n 2, 1) := by decide +kernel
theorem d8_28 : decode prog_10_method_5_code 28 = .ok (.aload_n 0, 1) := by decide +kernel
theorem d8_29 : decode prog_10_method_5_code 29 = .ok (.getfield 29, 3) := by decide +kernel
theorem d8_32 : decode prog_10_method_5_code 32 = .ok (.arraylength, 1) := by decide +kernel
theorem d8_33 : decode prog_10_method_5_code 33 = .ok (.if_icmp .ne 24, 3) := by decide +kernel
theorem d8_57 : decode prog_10_method_5_code 57 = .ok (.aload_n 0, 1) := by decide +kernel
theorem d8_58 : decode prog_10_method_5_code 58 = .ok (.getfield 25, 3) := by decide +kernel
theorem d8_61 : decode prog_10_method_5_code 61 = .ok (.iload_n 2, 1) := by decide +kernel
theorem d8_62 : decode prog_10_method_5_code 62 = .ok (.laload, 1) := by decide +kernel
theorem d8_63 : decode prog_10_method_5_code 63 = .ok (.lreturn, 1) := by decide +kernel
theorem ef_8_8 (m : MethodId) (r0 : Addr) (p1 : Int32) : entryFrame m #[(.ref r0), (.int p1)] 3 = mkF m 0 #[rv r0, iv p1, un] [] := by first | (simp [entryFrame, mkF, argsToLocals, Value.category, iv, rv, lv, un, sd]; done) | rfl
def Q8_8 (Z : State) (r0 : Addr) (p1 : Int32) (ra : Addr) (ia : Addr) (R : Nat → Int32) (I : Nat → Int64) (mp : Int64 → Int32) (F : List Nat) (x0 : Int64) (h0 : Heap) (n0 : Nat) (v : Option Value) (h : Heap) (L : List Loc) : Prop := v = some (.long x0) ∧ Fr n0 L ∧ h = h0
set_option maxRecDepth 65536 in
set_option maxHeartbeats 40000000 in
theorem rm8_8 (l : Launch) (Z : State) (a0 : Array Value) (hw : ∀ d ∈ tables_1, d.before a0 Z = true) (ws : List Jvm.Cond) (r0 : Addr) (p1 : Int32) (ra : Addr) (ia : Addr) (R : Nat → Int32) (I : Nat → Int64) (mp : Int64 → Int32) (F : List Nat) (x0 : Int64) (h0 : Heap) (n0 : Nat) (Z0 : n0 ≤ h0.size) (F_rows : Fld Z h0 r0 "com/example/chatterbench/chatterbench/data/IdIndex" "rows" "[I" (.ref ra)) (F_ids : Fld Z h0 r0 "com/example/chatterbench/chatterbench/data/IdIndex" "ids" "[J" (.ref ia)) (I_ra : Ia Z h0 ra .int 8 Value.int R) (I_ia : Ia Z h0 ia .long 8 Value.long I) (hrep : Rep 8 own_P8 R I mp F) (hm : mp x0 = p1) (hone : ∀ y, mp y = p1 → y = x0) (hp : p1 ≠ (-1 : Int32)) :
    MetFree l (⟨"com/example/chatterbench/chatterbench/data/IdIndex", "id", "(I)J"⟩ : MethodName) (head1 (Jvm.Cond.code (⟨"com/example/chatterbench/chatterbench/data/IdIndex", "id", "(I)J"⟩ : MethodName) prog_10_method_5_code 3 (some .long) :: ws) ({ frames := 0, cells := 0, slots := 0, locals := 0 } : Room)) (fun a U => a = #[(.ref r0), (.int p1)] ∧ Z.Warmed39 U.vm ∧ U.heap = h0) (fun _ _ _ _ _ => True) (fun _ U o U' => ∃ v L, o = .returned v ∧ Q8_8 Z r0 p1 ra ia R I mp F x0 h0 n0 v U'.heap L ∧ FrameEnd U o U' L ({ frames := 0, cells := 0, slots := 0, locals := 0 } : Room).cells ({ frames := 0, cells := 0, slots := 0, locals := 0 } : Room).slots) := by
  refine MetFree.of_bodySF (plainFor_of_name pn_1) hisR ?_
  intro p e s m args below meth c s₁ Bd hml0 hP hK
  obtain ⟨rfl, hZ, hh⟩ := hP
  have hx := Bd.exec
  have hby := Bd.bytes
  have hml : c.maxLocals = 3 := hml0
  have hown : s.vm.findClass "com/example/chatterbench/chatterbench/data/IdIndex" = some m.cls := findClass_of_methodNamed Bd.named
  have hnm := (name_of_methodNamed Bd.named Bd.method).1
  have X0 : Stand p l e ({ frames := 0, cells := 0, slots := 0, locals := 0 } : Room) s m #[(.ref r0), (.int p1)] below meth c s₁ [] 0 0 := Stand.of_body Bd
  have e0 : s₁.heap = h0 := by rw [← hh, Bd.state]; rfl
  have N0 := Fr.nil n0
  suffices HH : ∀ G : Outcome → State → Prop, (∀ v L U', Q8_8 Z r0 p1 ra ia R I mp F x0 h0 n0 v U'.heap L → FrameEnd s (.returned v) U' L ({ frames := 0, cells := 0, slots := 0, locals := 0 } : Room).cells ({ frames := 0, cells := 0, slots := 0, locals := 0 } : Room).slots → G (.returned v) U') → Go p.tables e below G (s₁.setTop (mkF m 0 #[rv r0, iv p1, un] [])) by
    obtain ⟨s2, o, h1, h2, h3, h4⟩ := HH (fun o U' => ∃ v L, o = .returned v ∧ Q8_8 Z r0 p1 ra ia R I mp F x0 h0 n0 v U'.heap L ∧ FrameEnd s o U' L ({ frames := 0, cells := 0, slots := 0, locals := 0 } : Room).cells ({ frames := 0, cells := 0, slots := 0, locals := 0 } : Room).slots) (fun v L U' q f => ⟨v, L, rfl, q, f⟩)
    exact ⟨s2, o, castTop (ef_8_8 m r0 p1) h1, h2, h3, h4⟩
  intro G hG
  obtain ⟨w, hw1, hw2, hw3⟩ := hrep.2.1 x0
  obtain ⟨t, ht, hR, hl⟩ := own_least (fun i => R i = p1) (own_P8 x0 w) (hw3.trans hm)
  have htN : t < 8 := Nat.lt_of_le_of_lt ht (own_Pl8 x0 w)
  show Go p.tables e below G (s₁.setTop (mkF m 0 #[rv r0, iv p1, un] []))
  refine Go.stp (fun t_ k_ => XS.iconst X0.here hx rfl (hb hby d8_0) k_) ?_
  show Go p.tables e below G (s₁.setTop (mkF m 1 #[rv r0, iv p1, un] [(.int (0 : Int32))]))
  refine Go.stp (fun t_ k_ => XS.istoreN X0.here hx rfl (hb hby d8_1) rfl (l' := #[rv r0, iv p1, iv (0 : Int32)]) rfl k_) ?_
  show Go p.tables e below G (s₁.setTop (mkF m 2 #[rv r0, iv p1, iv (0 : Int32)] []))
  show Go p.tables e below G (s₁.setTop (mkF m 2 #[.val (.ref r0), .val (.int p1), .val (.int (own_i 0))] []))
  suffices LP : ∀ (k : Nat) (T : State) (locs : List Loc) (u : Nat), Stand p l e ({ frames := 0, cells := 0, slots := 0, locals := 0 } : Room) s m #[(.ref r0), (.int p1)] below meth c T locs 0 0 → Fr n0 locs → T.heap = h0 → (u + k = t) → Go p.tables e below G (T.setTop (mkF m 2 #[rv r0, iv p1, iv (own_i u)] [])) from LP (t) _ _ (0) X0 N0 e0 (by omega)
  intro k
  induction k with
  | zero =>
    intro T locs u X N E hu
    obtain rfl : t = u := by omega
    show Go p.tables e below G (T.setTop (mkF m 2 #[rv r0, iv p1, iv (own_i t)] []))
    refine Go.stp (fun t_ k_ => XS.iloadN X.here hx rfl (hb hby d8_2) rfl k_) ?_
    show Go p.tables e below G (T.setTop (mkF m 3 #[rv r0, iv p1, iv (own_i t)] [(.int (own_i t))]))
    refine Go.stp (fun t_ k_ => XS.aloadN X.here hx rfl (hb hby d8_3) rfl rfl k_) ?_
    show Go p.tables e below G (T.setTop (mkF m 4 #[rv r0, iv p1, iv (own_i t)] [(.ref r0), (.int (own_i t))]))
    obtain ⟨T1, X1, e1, st1⟩ := getF X hx hZ hown (host := "") (Or.inl (hw _ (List.mem_of_getElem? (i := 27) rfl))) Via.refl E F_rows (g := (mkF m 4 #[rv r0, iv p1, iv (own_i t)] [(.ref r0), (.int (own_i t))])) rfl rfl (hb hby d8_4)
    refine Go.stp (fun t_ k_ => st1 t_ k_) ?_
    show Go p.tables e below G (T1.setTop (mkF m 7 #[rv r0, iv p1, iv (own_i t)] [(.ref ra), (.int (own_i t))]))
    obtain ⟨cl2, Ar2, Sz2, -, -⟩ := id I_ra
    refine Go.stp (fun t_ k_ => X1.arraylength hx (by rw [e1]; exact Ar2.1) (State.isArrayOf_alike hZ.alike Ar2.2.1) (g := (mkF m 7 #[rv r0, iv p1, iv (own_i t)] [(.ref ra), (.int (own_i t))])) rfl rfl (hb hby d8_7) t_ k_) ?_
    rw [Sz2]
    show Go p.tables e below G (T1.setTop (mkF m 8 #[rv r0, iv p1, iv (own_i t)] [(.int (8 : Int32)), (.int (own_i t))]))
    have hd8 : (own_i t) < (8 : Int32) := (by rw [Int32.lt_iff_toInt_lt, own_iv t (by omega), show (8 : Int32).toInt = 8 by decide]; omega)
    refine Go.stp (fun t_ k_ => XS.icmpNo X1.here hx rfl (hb hby d8_8) rfl (tlt hd8).2.1 k_) ?_
    show Go p.tables e below G (T1.setTop (mkF m 11 #[rv r0, iv p1, iv (own_i t)] []))
    refine Go.stp (fun t_ k_ => XS.aloadN X1.here hx rfl (hb hby d8_11) rfl rfl k_) ?_
    show Go p.tables e below G (T1.setTop (mkF m 12 #[rv r0, iv p1, iv (own_i t)] [(.ref r0)]))
    obtain ⟨T3, X3, e3, st3⟩ := getF X1 hx hZ hown (host := "") (Or.inl (hw _ (List.mem_of_getElem? (i := 27) rfl))) Via.refl e1 F_rows (g := (mkF m 12 #[rv r0, iv p1, iv (own_i t)] [(.ref r0)])) rfl rfl (hb hby d8_12)
    refine Go.stp (fun t_ k_ => st3 t_ k_) ?_
    show Go p.tables e below G (T3.setTop (mkF m 15 #[rv r0, iv p1, iv (own_i t)] [(.ref ra)]))
    refine Go.stp (fun t_ k_ => XS.iloadN X3.here hx rfl (hb hby d8_15) rfl k_) ?_
    show Go p.tables e below G (T3.setTop (mkF m 16 #[rv r0, iv p1, iv (own_i t)] [(.int (own_i t)), (.ref ra)]))
    obtain ⟨cl4, Ar4, Sz4, -, Hs4⟩ := id I_ra
    have ib4 : 0 ≤ ((own_i t)).toInt ∧ ((own_i t)).toInt < ((8 : Nat) : Int) := (by rw [own_iv t (by omega)]; omega)
    refine Go.stp (fun t_ k_ => X3.iaload hx (j := (own_i t)) (v := (Value.int (R ((own_i t)).toNatClampNeg))) (by rw [e3]; exact Ar4.1) (State.isArrayOf_alike hZ.alike Ar4.2.1) Ar4.2.2 (in_of Sz4 ib4) (Hs4 _ (at_of ib4)) (g := (mkF m 16 #[rv r0, iv p1, iv (own_i t)] [(.int (own_i t)), (.ref ra)])) rfl rfl (hb hby d8_16) t_ k_) ?_
    show Go p.tables e below G (T3.setTop (mkF m 17 #[rv r0, iv p1, iv (own_i t)] [(.int (R ((own_i t)).toNatClampNeg))]))
    refine Go.stp (fun t_ k_ => XS.iloadN X3.here hx rfl (hb hby d8_17) rfl k_) ?_
    show Go p.tables e below G (T3.setTop (mkF m 18 #[rv r0, iv p1, iv (own_i t)] [(.int p1), (.int (R ((own_i t)).toNatClampNeg))]))
    have hd18 : (R ((own_i t)).toNatClampNeg) = p1 := (by rw [own_in t (by omega)]; exact hR)
    refine Go.stp (fun t_ k_ => XS.icmpYes X3.here hx rfl (pc0 := 18) (pc' := 27) rfl (hb hby d8_18) rfl (teq hd18).1 (by decide) (by decide) k_) ?_
    show Go p.tables e below G (T3.setTop (mkF m 27 #[rv r0, iv p1, iv (own_i t)] []))
    refine Go.stp (fun t_ k_ => XS.iloadN X3.here hx rfl (hb hby d8_27) rfl k_) ?_
    show Go p.tables e below G (T3.setTop (mkF m 28 #[rv r0, iv p1, iv (own_i t)] [(.int (own_i t))]))
    refine Go.stp (fun t_ k_ => XS.aloadN X3.here hx rfl (hb hby d8_28) rfl rfl k_) ?_
    show Go p.tables e below G (T3.setTop (mkF m 29 #[rv r0, iv p1, iv (own_i t)] [(.ref r0), (.int (own_i t))]))
    obtain ⟨T5, X5, e5, st5⟩ := getF X3 hx hZ hown (host := "") (Or.inl (hw _ (List.mem_of_getElem? (i := 27) rfl))) Via.refl e3 F_rows (g := (mkF m 29 #[rv r0, iv p1, iv (own_i t)] [(.ref r0), (.int (own_i t))])) rfl rfl (hb hby d8_29)
    refine Go.stp (fun t_ k_ => st5 t_ k_) ?_
    show Go p.tables e below G (T5.setTop (mkF m 32 #[rv r0, iv p1, iv (own_i t)] [(.ref ra), (.int (own_i t))]))
    obtain ⟨cl6, Ar6, Sz6, -, -⟩ := id I_ra
    refine Go.stp (fun t_ k_ => X5.arraylength hx (by rw [e5]; exact Ar6.1) (State.isArrayOf_alike hZ.alike Ar6.2.1) (g := (mkF m 32 #[rv r0, iv p1, iv (own_i t)] [(.ref ra), (.int (own_i t))])) rfl rfl (hb hby d8_32) t_ k_) ?_
    rw [Sz6]
    show Go p.tables e below G (T5.setTop (mkF m 33 #[rv r0, iv p1, iv (own_i t)] [(.int (8 : Int32)), (.int (own_i t))]))
    have hd33 : ¬ ((own_i t) = (8 : Int32)) := (fun q => absurd (congrArg Int32.toInt q) (by rw [own_iv t (by omega), show (8 : Int32).toInt = 8 by decide]; omega))
    refine Go.stp (fun t_ k_ => XS.icmpYes X5.here hx rfl (pc0 := 33) (pc' := 57) rfl (hb hby d8_33) rfl (feq hd33).2 (by decide) (by decide) k_) ?_
    show Go p.tables e below G (T5.setTop (mkF m 57 #[rv r0, iv p1, iv (own_i t)] []))
    refine Go.stp (fun t_ k_ => XS.aloadN X5.here hx rfl (hb hby d8_57) rfl rfl k_) ?_
    show Go p.tables e below G (T5.setTop (mkF m 58 #[rv r0, iv p1, iv (own_i t)] [(.ref r0)]))
    obtain ⟨T7, X7, e7, st7⟩ := getF X5 hx hZ hown (host := "") (Or.inl (hw _ (List.mem_of_getElem? (i := 24) rfl))) Via.refl e5 F_ids (g := (mkF m 58 #[rv r0, iv p1, iv (own_i t)] [(.ref r0)])) rfl rfl (hb hby d8_58)
    refine Go.stp (fun t_ k_ => st7 t_ k_) ?_
    show Go p.tables e below G (T7.setTop (mkF m 61 #[rv r0, iv p1, iv (own_i t)] [(.ref ia)]))
    refine Go.stp (fun t_ k_ => XS.iloadN X7.here hx rfl (hb hby d8_61) rfl k_) ?_
    show Go p.tables e below G (T7.setTop (mkF m 62 #[rv r0, iv p1, iv (own_i t)] [(.int (own_i t)), (.ref ia)]))
    obtain ⟨cl8, Ar8, Sz8, -, Hs8⟩ := id I_ia
    have ib8 : 0 ≤ ((own_i t)).toInt ∧ ((own_i t)).toInt < ((8 : Nat) : Int) := (by rw [own_iv t (by omega)]; omega)
    refine Go.stp (fun t_ k_ => X7.laload hx (j := (own_i t)) (v := (Value.long (I ((own_i t)).toNatClampNeg))) (by rw [e7]; exact Ar8.1) (State.isArrayOf_alike hZ.alike Ar8.2.1) Ar8.2.2 (in_of Sz8 ib8) (Hs8 _ (at_of ib8)) (g := (mkF m 62 #[rv r0, iv p1, iv (own_i t)] [(.int (own_i t)), (.ref ia)])) rfl rfl (hb hby d8_62) t_ k_) ?_
    show Go p.tables e below G (T7.setTop (mkF m 63 #[rv r0, iv p1, iv (own_i t)] [(.long (I ((own_i t)).toNatClampNeg))]))
    obtain ⟨fs, hr, hrun, hended, hW, hsame⟩ := X7.leave (v := some (.long (I ((own_i t)).toNatClampNeg))) (fun h => by rw [Bd.returns] at h; cases h)
    refine ⟨_, _, retL X7 hx Bd.returns (hb hby d8_63) hr, hrun, hended, hG _ _ _ ?_ ⟨⟨_, rfl⟩, hW, hsame.mono (by decide) (by decide)⟩⟩
    show Q8_8 Z r0 p1 ra ia R I mp F x0 h0 n0 _ T7.heap _
    rw [e7]
    exact ⟨by rw [own_in t (by omega), hone (I t) ((hrep.2.2 t htN (by rw [hR]; exact hp)).trans hR)], N, rfl⟩
  | succ k ih =>
    intro T locs u X N E hu
    have hsu := hl u (by omega)
    show Go p.tables e below G (T.setTop (mkF m 2 #[rv r0, iv p1, iv (own_i u)] []))
    refine Go.stp (fun t_ k_ => XS.iloadN X.here hx rfl (hb hby d8_2) rfl k_) ?_
    show Go p.tables e below G (T.setTop (mkF m 3 #[rv r0, iv p1, iv (own_i u)] [(.int (own_i u))]))
    refine Go.stp (fun t_ k_ => XS.aloadN X.here hx rfl (hb hby d8_3) rfl rfl k_) ?_
    show Go p.tables e below G (T.setTop (mkF m 4 #[rv r0, iv p1, iv (own_i u)] [(.ref r0), (.int (own_i u))]))
    obtain ⟨T9, X9, e9, st9⟩ := getF X hx hZ hown (host := "") (Or.inl (hw _ (List.mem_of_getElem? (i := 27) rfl))) Via.refl E F_rows (g := (mkF m 4 #[rv r0, iv p1, iv (own_i u)] [(.ref r0), (.int (own_i u))])) rfl rfl (hb hby d8_4)
    refine Go.stp (fun t_ k_ => st9 t_ k_) ?_
    show Go p.tables e below G (T9.setTop (mkF m 7 #[rv r0, iv p1, iv (own_i u)] [(.ref ra), (.int (own_i u))]))
    obtain ⟨cl10, Ar10, Sz10, -, -⟩ := id I_ra
    refine Go.stp (fun t_ k_ => X9.arraylength hx (by rw [e9]; exact Ar10.1) (State.isArrayOf_alike hZ.alike Ar10.2.1) (g := (mkF m 7 #[rv r0, iv p1, iv (own_i u)] [(.ref ra), (.int (own_i u))])) rfl rfl (hb hby d8_7) t_ k_) ?_
    rw [Sz10]
    show Go p.tables e below G (T9.setTop (mkF m 8 #[rv r0, iv p1, iv (own_i u)] [(.int (8 : Int32)), (.int (own_i u))]))
    have hd8 : (own_i u) < (8 : Int32) := (by rw [Int32.lt_iff_toInt_lt, own_iv u (by omega), show (8 : Int32).toInt = 8 by decide]; omega)
    refine Go.stp (fun t_ k_ => XS.icmpNo X9.here hx rfl (hb hby d8_8) rfl (tlt hd8).2.1 k_) ?_
    show Go p.tables e below G (T9.setTop (mkF m 11 #[rv r0, iv p1, iv (own_i u)] []))
    refine Go.stp (fun t_ k_ => XS.aloadN X9.here hx rfl (hb hby d8_11) rfl rfl k_) ?_
    show Go p.tables e below G (T9.setTop (mkF m 12 #[rv r0, iv p1, iv (own_i u)] [(.ref r0)]))
    obtain ⟨T11, X11, e11, st11⟩ := getF X9 hx hZ hown (host := "") (Or.inl (hw _ (List.mem_of_getElem? (i := 27) rfl))) Via.refl e9 F_rows (g := (mkF m 12 #[rv r0, iv p1, iv (own_i u)] [(.ref r0)])) rfl rfl (hb hby d8_12)
    refine Go.stp (fun t_ k_ => st11 t_ k_) ?_
    show Go p.tables e below G (T11.setTop (mkF m 15 #[rv r0, iv p1, iv (own_i u)] [(.ref ra)]))
    refine Go.stp (fun t_ k_ => XS.iloadN X11.here hx rfl (hb hby d8_15) rfl k_) ?_
    show Go p.tables e below G (T11.setTop (mkF m 16 #[rv r0, iv p1, iv (own_i u)] [(.int (own_i u)), (.ref ra)]))
    obtain ⟨cl12, Ar12, Sz12, -, Hs12⟩ := id I_ra
    have ib12 : 0 ≤ ((own_i u)).toInt ∧ ((own_i u)).toInt < ((8 : Nat) : Int) := (by rw [own_iv u (by omega)]; omega)
    refine Go.stp (fun t_ k_ => X11.iaload hx (j := (own_i u)) (v := (Value.int (R ((own_i u)).toNatClampNeg))) (by rw [e11]; exact Ar12.1) (State.isArrayOf_alike hZ.alike Ar12.2.1) Ar12.2.2 (in_of Sz12 ib12) (Hs12 _ (at_of ib12)) (g := (mkF m 16 #[rv r0, iv p1, iv (own_i u)] [(.int (own_i u)), (.ref ra)])) rfl rfl (hb hby d8_16) t_ k_) ?_
    show Go p.tables e below G (T11.setTop (mkF m 17 #[rv r0, iv p1, iv (own_i u)] [(.int (R ((own_i u)).toNatClampNeg))]))
    refine Go.stp (fun t_ k_ => XS.iloadN X11.here hx rfl (hb hby d8_17) rfl k_) ?_
    show Go p.tables e below G (T11.setTop (mkF m 18 #[rv r0, iv p1, iv (own_i u)] [(.int p1), (.int (R ((own_i u)).toNatClampNeg))]))
    have hd18 : ¬ ((R ((own_i u)).toNatClampNeg) = p1) := (by rw [own_in u (by omega)]; exact hsu)
    refine Go.stp (fun t_ k_ => XS.icmpNo X11.here hx rfl (hb hby d8_18) rfl (feq hd18).1 k_) ?_
    show Go p.tables e below G (T11.setTop (mkF m 21 #[rv r0, iv p1, iv (own_i u)] []))
    refine Go.stp (fun t_ k_ => XS.iinc X11.here hx rfl (hb hby d8_21) rfl (l' := #[rv r0, iv p1, iv ((own_i u) + (1 : Int32))]) rfl k_) ?_
    show Go p.tables e below G (T11.setTop (mkF m 24 #[rv r0, iv p1, iv ((own_i u) + (1 : Int32))] []))
    refine Go.stp (fun t_ k_ => XS.goto X11.here hx rfl (pc0 := 24) (pc' := 2) rfl (hb hby d8_24) (by decide) (by decide) k_) ?_
    show Go p.tables e below G (T11.setTop (mkF m 2 #[rv r0, iv p1, iv ((own_i u) + (1 : Int32))] []))
    exact ih _ _ (u + 1) X11 N e11 (by omega)
theorem pn_0 : plainName "com/example/chatterbench/chatterbench/data/IdIndexIdPinLaw" = true := by first | (simp [plainName, overriddenIn]; done) | decide +kernel
theorem ef_0 (m : MethodId) (q0 : Int64) (q1 : Int64) (q2 : Int64) (p3 : Int32) : entryFrame m #[(.long q0), (.long q1), (.long q2), (.int p3)] maxLocals = mkF m 0 #[lv q0, sd, lv q1, sd, lv q2, sd, iv p3, un, un, un, un, un, un, un, un, un, un, un, un, un] [] := by first | (simp [entryFrame, mkF, argsToLocals, Value.category, iv, rv, lv, un, sd, maxLocals]; done) | rfl
def Q0 (Z : State) (q0 : Int64) (q1 : Int64) (q2 : Int64) (p3 : Int32) (aP : Addr) (h0 : Heap) (n0 : Nat) (v : Option Value) (h : Heap) (L : List Loc) : Prop := v = some (.int (1 : Int32)) ∧ Fr n0 L
set_option maxRecDepth 65536 in
set_option maxHeartbeats 40000000 in
theorem rm0 (l : Launch) (Z : State) (a0 : Array Value) (hw : ∀ d ∈ tables_1, d.before a0 Z = true) (ws : List Jvm.Cond) (q0 : Int64) (q1 : Int64) (q2 : Int64) (p3 : Int32) (aP : Addr) (h0 : Heap) (n0 : Nat) (Z0 : n0 ≤ h0.size) (S_aP : Sta Z h0 "com/example/chatterbench/chatterbench/data/Entity" "PERSON" "Lcom/example/chatterbench/chatterbench/data/Entity;" (.ref aP)) :
    MetFree l x (head1 (Jvm.Cond.code x code maxLocals ret :: ws) room_1) (fun a U => a = #[(.long q0), (.long q1), (.long q2), (.int p3)] ∧ Z.Warmed39 U.vm ∧ U.heap = h0) (fun _ _ _ _ _ => True) (fun _ U o U' => ∃ v L, o = .returned v ∧ Q0 Z q0 q1 q2 p3 aP h0 n0 v U'.heap L ∧ FrameEnd U o U' L room_1.cells room_1.slots) := by
  refine MetFree.of_bodySF (plainFor_of_name pn_0) hisR ?_
  intro p e s m args below meth c s₁ Bd hml0 hP hK
  obtain ⟨rfl, hZ, hh⟩ := hP
  have hx := Bd.exec
  have hby := Bd.bytes
  have hml : c.maxLocals = 20 := hml0
  have hown : s.vm.findClass "com/example/chatterbench/chatterbench/data/IdIndexIdPinLaw" = some m.cls := findClass_of_methodNamed Bd.named
  have hnm := (name_of_methodNamed Bd.named Bd.method).1
  have X0 : Stand p l e room_1 s m #[(.long q0), (.long q1), (.long q2), (.int p3)] below meth c s₁ [] 0 0 := Stand.of_body Bd
  have e0 : s₁.heap = h0 := by rw [← hh, Bd.state]; rfl
  have N0 := Fr.nil n0
  suffices HH : ∀ G : Outcome → State → Prop, (∀ v L U', Q0 Z q0 q1 q2 p3 aP h0 n0 v U'.heap L → FrameEnd s (.returned v) U' L room_1.cells room_1.slots → G (.returned v) U') → Go p.tables e below G (s₁.setTop (mkF m 0 #[lv q0, sd, lv q1, sd, lv q2, sd, iv p3, un, un, un, un, un, un, un, un, un, un, un, un, un] [])) by
    obtain ⟨s2, o, h1, h2, h3, h4⟩ := HH (fun o U' => ∃ v L, o = .returned v ∧ Q0 Z q0 q1 q2 p3 aP h0 n0 v U'.heap L ∧ FrameEnd s o U' L room_1.cells room_1.slots) (fun v L U' q f => ⟨v, L, rfl, q, f⟩)
    exact ⟨s2, o, castTop (ef_0 m q0 q1 q2 p3) h1, h2, h3, h4⟩
  intro G hG
  show Go p.tables e below G (s₁.setTop (mkF m 0 #[lv q0, sd, lv q1, sd, lv q2, sd, iv p3, un, un, un, un, un, un, un, un, un, un, un, un, un] []))
  obtain ⟨T1, h1, X1, e1, E1, A1, D1, -, st1⟩ := newO X0 hx hZ hown (hw _ (List.mem_of_getElem? (i := 0) rfl)) (hw _ (List.mem_of_getElem? (i := 1) rfl)) (hw _ (List.mem_of_getElem? (i := 2) rfl)) e0 (g := (mkF m 0 #[lv q0, sd, lv q1, sd, lv q2, sd, iv p3, un, un, un, un, un, un, un, un, un, un, un, un, un] [])) rfl (hb hby at_0) (by decide) (by decide)
  obtain ⟨b1, g1⟩ : ∃ z, z = h0.size := ⟨_, rfl⟩
  rw [← g1] at A1 D1 st1
  have g_b1 : n0 ≤ b1 := Nat.le_trans Z0 (Nat.le_of_eq g1.symm)
  have f2 : Sta Z h1 "com/example/chatterbench/chatterbench/data/Entity" "PERSON" "Lcom/example/chatterbench/chatterbench/data/Entity;" (.ref aP) := S_aP.ext E1
  have Z1 : n0 ≤ h1.size := Nat.le_trans Z0 E1.1
  have f3 : Fld Z h1 b1 "com/example/chatterbench/chatterbench/data/IdIndex" "entity" "Lcom/example/chatterbench/chatterbench/data/Entity;" .null := D1 (Or.inr (hw _ (List.mem_of_getElem? (i := 13) rfl))) (ty := (.object "com/example/chatterbench/chatterbench/data/Entity")) (by decide)
  have f4 : Fld Z h1 b1 "com/example/chatterbench/chatterbench/data/IdIndex" "ids" "[J" .null := D1 (Or.inr (hw _ (List.mem_of_getElem? (i := 25) rfl))) (ty := (.array .long)) (by decide)
  have f5 : Fld Z h1 b1 "com/example/chatterbench/chatterbench/data/IdIndex" "rows" "[I" .null := D1 (Or.inr (hw _ (List.mem_of_getElem? (i := 28) rfl))) (ty := (.array .int)) (by decide)
  have f6 : Fld Z h1 b1 "com/example/chatterbench/chatterbench/data/IdIndex" "shift" "I" (.int (0 : Int32)) := D1 (Or.inr (hw _ (List.mem_of_getElem? (i := 34) rfl))) (ty := .int) (by decide)
  refine Go.stp (fun t_ k_ => st1 t_ k_) ?_
  show Go p.tables e below G (T1.setTop (mkF m 3 #[lv q0, sd, lv q1, sd, lv q2, sd, iv p3, un, un, un, un, un, un, un, un, un, un, un, un, un] [(.ref b1)]))
  refine Go.stp (fun t_ k_ => XS.dup X1.here hx rfl (hb hby at_3) rfl rfl k_) ?_
  show Go p.tables e below G (T1.setTop (mkF m 4 #[lv q0, sd, lv q1, sd, lv q2, sd, iv p3, un, un, un, un, un, un, un, un, un, un, un, un, un] [(.ref b1), (.ref b1)]))
  obtain ⟨T7, X7, e7, st7⟩ := getS2 X1 hx hZ hown (host := "") (Or.inl (hw _ (List.mem_of_getElem? (i := 3) rfl))) Via.refl e1 f2 (g := (mkF m 4 #[lv q0, sd, lv q1, sd, lv q2, sd, iv p3, un, un, un, un, un, un, un, un, un, un, un, un, un] [(.ref b1), (.ref b1)])) rfl (hb hby at_4)
  refine Go.stp (fun t_ k_ => st7 t_ k_) ?_
  show Go p.tables e below G (T7.setTop (mkF m 7 #[lv q0, sd, lv q1, sd, lv q2, sd, iv p3, un, un, un, un, un, un, un, un, un, un, un, un, un] [(.ref aP), (.ref b1), (.ref b1)]))
  refine Go.stp (fun t_ k_ => XS.iconst X7.here hx rfl (hb hby at_7) k_) ?_
  show Go p.tables e below G (T7.setTop (mkF m 8 #[lv q0, sd, lv q1, sd, lv q2, sd, iv p3, un, un, un, un, un, un, un, un, un, un, un, un, un] [(.int (3 : Int32)), (.ref aP), (.ref b1), (.ref b1)]))
  obtain ⟨_, _, ⟨T8, L8, k8, n8⟩, -, X8, ⟨Lc8, hQ8, l8, y8, z8⟩, st8⟩ := X7.specialBack hx (y := (⟨"com/example/chatterbench/chatterbench/data/IdIndex", "<init>", "(Lcom/example/chatterbench/chatterbench/data/Entity;I)V"⟩ : MethodName)) rfl hown (mvT hZ (hw _ (List.mem_of_getElem? (i := 6) rfl))) (mvT hZ (hw _ (List.mem_of_getElem? (i := 7) rfl))) (mvT hZ (hw _ (List.mem_of_getElem? (i := 8) rfl))) (by decide) (backOf (W := 1) (rm1_N8 l Z a0 hw [] b1 aP (3 : Int32) h1 n0 Z1 A1 f3 f4 f5 f6 g_b1 (by decide)) hZ (hw _ (List.mem_of_getElem? (i := 8) rfl)) (hw _ (List.mem_of_getElem? (i := 2) rfl)) (by decide) (by decide)) (g := (mkF m 8 #[lv q0, sd, lv q1, sd, lv q2, sd, iv p3, un, un, un, un, un, un, un, un, un, un, un, un, un] [(.int (3 : Int32)), (.ref aP), (.ref b1), (.ref b1)])) rfl (by rw [hml]; rfl) (Steps.refl _) (a := b1) (argsL := [(.ref aP), (.int (3 : Int32))]) (rest := [(.ref b1)]) (lenOf pd_4 rfl) rfl (by show 2 * 0 + _ ≤ _; exact Nat.le_of_eq rfl) (hb hby at_8) (fun _ _ => ⟨rfl, e7, (by decide : 1 + 2 ≤ _), (by decide : 4 + 16 ≤ _)⟩)
  dsimp only [Pt.U, Pt.locs, Pt.cells, Pt.slots] at X8 l8 y8 z8 st8 hQ8
  subst l8 y8 z8
  obtain ⟨rfl, Nq8, Kc8, ra, ia, g_ra, g_ia, hri, hxr, hxi, Ex, Fr', Fi, Fs, Ira, Iia⟩ := hQ8
  have N8 := Fr.app N0 Nq8
  have f9 : Sta Z T8.heap "com/example/chatterbench/chatterbench/data/Entity" "PERSON" "Lcom/example/chatterbench/chatterbench/data/Entity;" (.ref aP) := sta_keep f2 Kc8 A1
  have f10 : Exa Z T8.heap b1 "com/example/chatterbench/chatterbench/data/IdIndex" := A1.keep Kc8
  have Z8 : n0 ≤ T8.heap.size := Nat.le_trans Z1 Kc8.1
  obtain ⟨m0, hm0⟩ : ∃ z : Int64 → Int32, z = (fun _ => (-1 : Int32)) := ⟨_, rfl⟩
  have rp0 : Rep 8 own_P8 (fun _ => (-1 : Int32)) (fun _ => (0 : Int64)) m0 [] := by rw [hm0]; exact rep_nil 8 own_P8 (fun _ => (0 : Int64)) (by decide)
  refine Go.stp (fun t_ k_ => st8.trans k_) ?_
  show Go p.tables e below G (T8.setTop (mkF m 11 #[lv q0, sd, lv q1, sd, lv q2, sd, iv p3, un, un, un, un, un, un, un, un, un, un, un, un, un] [(.ref b1)]))
  refine Go.stp (fun t_ k_ => XS.astore X8.here hx rfl (hb hby at_11) rfl rfl (l' := #[lv q0, sd, lv q1, sd, lv q2, sd, iv p3, rv b1, un, un, un, un, un, un, un, un, un, un, un, un]) rfl k_) ?_
  show Go p.tables e below G (T8.setTop (mkF m 13 #[lv q0, sd, lv q1, sd, lv q2, sd, iv p3, rv b1, un, un, un, un, un, un, un, un, un, un, un, un] []))
  refine Go.stp (fun t_ k_ => XS.iload X8.here hx rfl (hb hby at_13) rfl k_) ?_
  show Go p.tables e below G (T8.setTop (mkF m 15 #[lv q0, sd, lv q1, sd, lv q2, sd, iv p3, rv b1, un, un, un, un, un, un, un, un, un, un, un, un] [(.int p3)]))
  refine Go.stp (fun t_ k_ => X8.ldcInt hx hown (mvT hZ (hw _ (List.mem_of_getElem? (i := 35) rfl))) (g := (mkF m 15 #[lv q0, sd, lv q1, sd, lv q2, sd, iv p3, rv b1, un, un, un, un, un, un, un, un, un, un, un, un] [(.int p3)])) rfl (hb hby at_15) t_ k_) ?_
  show Go p.tables e below G (T8.setTop (mkF m 17 #[lv q0, sd, lv q1, sd, lv q2, sd, iv p3, rv b1, un, un, un, un, un, un, un, un, un, un, un, un] [(.int (536870911 : Int32)), (.int p3)]))
  refine Go.stp (fun t_ k_ => XS.iand X8.here hx rfl (hb hby at_17) rfl k_) ?_
  show Go p.tables e below G (T8.setTop (mkF m 18 #[lv q0, sd, lv q1, sd, lv q2, sd, iv p3, rv b1, un, un, un, un, un, un, un, un, un, un, un, un] [(.int (p3 &&& (536870911 : Int32)))]))
  refine Go.stp (fun t_ k_ => XS.istore X8.here hx rfl (hb hby at_18) rfl (l' := #[lv q0, sd, lv q1, sd, lv q2, sd, iv p3, rv b1, iv (p3 &&& (536870911 : Int32)), un, un, un, un, un, un, un, un, un, un, un]) rfl k_) ?_
  show Go p.tables e below G (T8.setTop (mkF m 20 #[lv q0, sd, lv q1, sd, lv q2, sd, iv p3, rv b1, iv (p3 &&& (536870911 : Int32)), un, un, un, un, un, un, un, un, un, un, un] []))
  suffices K11 : ∀ base : Int32, base = (p3 &&& (536870911 : Int32)) → Go p.tables e below G (T8.setTop (mkF m 20 #[lv q0, sd, lv q1, sd, lv q2, sd, iv p3, rv b1, iv base, un, un, un, un, un, un, un, un, un, un, un] [])) from K11 _ rfl
  intro base hbase
  refine Go.stp (fun t_ k_ => XS.iload X8.here hx rfl (hb hby at_20) rfl k_) ?_
  show Go p.tables e below G (T8.setTop (mkF m 22 #[lv q0, sd, lv q1, sd, lv q2, sd, iv p3, rv b1, iv base, un, un, un, un, un, un, un, un, un, un, un] [(.int base)]))
  refine Go.stp (fun t_ k_ => XS.istore X8.here hx rfl (hb hby at_22) rfl (l' := #[lv q0, sd, lv q1, sd, lv q2, sd, iv p3, rv b1, iv base, iv base, un, un, un, un, un, un, un, un, un, un]) rfl k_) ?_
  show Go p.tables e below G (T8.setTop (mkF m 24 #[lv q0, sd, lv q1, sd, lv q2, sd, iv p3, rv b1, iv base, iv base, un, un, un, un, un, un, un, un, un, un] []))
  refine Go.stp (fun t_ k_ => XS.iload X8.here hx rfl (hb hby at_24) rfl k_) ?_
  show Go p.tables e below G (T8.setTop (mkF m 26 #[lv q0, sd, lv q1, sd, lv q2, sd, iv p3, rv b1, iv base, iv base, un, un, un, un, un, un, un, un, un, un] [(.int base)]))
  refine Go.stp (fun t_ k_ => X8.ldcInt hx hown (mvT hZ (hw _ (List.mem_of_getElem? (i := 36) rfl))) (g := (mkF m 26 #[lv q0, sd, lv q1, sd, lv q2, sd, iv p3, rv b1, iv base, iv base, un, un, un, un, un, un, un, un, un, un] [(.int base)])) rfl (hb hby at_26) t_ k_) ?_
  show Go p.tables e below G (T8.setTop (mkF m 28 #[lv q0, sd, lv q1, sd, lv q2, sd, iv p3, rv b1, iv base, iv base, un, un, un, un, un, un, un, un, un, un] [(.int (536870912 : Int32)), (.int base)]))
  refine Go.stp (fun t_ k_ => XS.iadd X8.here hx rfl (hb hby at_28) rfl k_) ?_
  show Go p.tables e below G (T8.setTop (mkF m 29 #[lv q0, sd, lv q1, sd, lv q2, sd, iv p3, rv b1, iv base, iv base, un, un, un, un, un, un, un, un, un, un] [(.int (base + (536870912 : Int32)))]))
  refine Go.stp (fun t_ k_ => XS.istore X8.here hx rfl (hb hby at_29) rfl (l' := #[lv q0, sd, lv q1, sd, lv q2, sd, iv p3, rv b1, iv base, iv base, iv (base + (536870912 : Int32)), un, un, un, un, un, un, un, un, un]) rfl k_) ?_
  show Go p.tables e below G (T8.setTop (mkF m 31 #[lv q0, sd, lv q1, sd, lv q2, sd, iv p3, rv b1, iv base, iv base, iv (base + (536870912 : Int32)), un, un, un, un, un, un, un, un, un] []))
  suffices K12 : ∀ r1' : Int32, r1' = (base + (536870912 : Int32)) → Go p.tables e below G (T8.setTop (mkF m 31 #[lv q0, sd, lv q1, sd, lv q2, sd, iv p3, rv b1, iv base, iv base, iv r1', un, un, un, un, un, un, un, un, un] [])) from K12 _ rfl
  intro r1' hr1
  refine Go.stp (fun t_ k_ => XS.iload X8.here hx rfl (hb hby at_31) rfl k_) ?_
  show Go p.tables e below G (T8.setTop (mkF m 33 #[lv q0, sd, lv q1, sd, lv q2, sd, iv p3, rv b1, iv base, iv base, iv r1', un, un, un, un, un, un, un, un, un] [(.int base)]))
  refine Go.stp (fun t_ k_ => X8.ldcInt hx hown (mvT hZ (hw _ (List.mem_of_getElem? (i := 37) rfl))) (g := (mkF m 33 #[lv q0, sd, lv q1, sd, lv q2, sd, iv p3, rv b1, iv base, iv base, iv r1', un, un, un, un, un, un, un, un, un] [(.int base)])) rfl (hb hby at_33) t_ k_) ?_
  show Go p.tables e below G (T8.setTop (mkF m 35 #[lv q0, sd, lv q1, sd, lv q2, sd, iv p3, rv b1, iv base, iv base, iv r1', un, un, un, un, un, un, un, un, un] [(.int (1073741824 : Int32)), (.int base)]))
  refine Go.stp (fun t_ k_ => XS.iadd X8.here hx rfl (hb hby at_35) rfl k_) ?_
  show Go p.tables e below G (T8.setTop (mkF m 36 #[lv q0, sd, lv q1, sd, lv q2, sd, iv p3, rv b1, iv base, iv base, iv r1', un, un, un, un, un, un, un, un, un] [(.int (base + (1073741824 : Int32)))]))
  refine Go.stp (fun t_ k_ => XS.istore X8.here hx rfl (hb hby at_36) rfl (l' := #[lv q0, sd, lv q1, sd, lv q2, sd, iv p3, rv b1, iv base, iv base, iv r1', iv (base + (1073741824 : Int32)), un, un, un, un, un, un, un, un]) rfl k_) ?_
  show Go p.tables e below G (T8.setTop (mkF m 38 #[lv q0, sd, lv q1, sd, lv q2, sd, iv p3, rv b1, iv base, iv base, iv r1', iv (base + (1073741824 : Int32)), un, un, un, un, un, un, un, un] []))
  suffices K13 : ∀ r2' : Int32, r2' = (base + (1073741824 : Int32)) → Go p.tables e below G (T8.setTop (mkF m 38 #[lv q0, sd, lv q1, sd, lv q2, sd, iv p3, rv b1, iv base, iv base, iv r1', iv r2', un, un, un, un, un, un, un, un] [])) from K13 _ rfl
  intro r2' hr2
  obtain ⟨k0, k1, k2, n01, n02, n12⟩ : base ≠ (-1 : Int32) ∧ r1' ≠ (-1 : Int32) ∧ r2' ≠ (-1 : Int32) ∧ base ≠ r1' ∧ base ≠ r2' ∧ r1' ≠ r2' := by rw [hr1, hr2, hbase]; exact own_rows p3
  refine Go.stp (fun t_ k_ => XS.iload X8.here hx rfl (hb hby at_38) rfl k_) ?_
  show Go p.tables e below G (T8.setTop (mkF m 40 #[lv q0, sd, lv q1, sd, lv q2, sd, iv p3, rv b1, iv base, iv base, iv r1', iv r2', un, un, un, un, un, un, un, un] [(.int p3)]))
  refine Go.stp (fun t_ k_ => X8.ldcInt hx hown (mvT hZ (hw _ (List.mem_of_getElem? (i := 36) rfl))) (g := (mkF m 40 #[lv q0, sd, lv q1, sd, lv q2, sd, iv p3, rv b1, iv base, iv base, iv r1', iv r2', un, un, un, un, un, un, un, un] [(.int p3)])) rfl (hb hby at_40) t_ k_) ?_
  show Go p.tables e below G (T8.setTop (mkF m 42 #[lv q0, sd, lv q1, sd, lv q2, sd, iv p3, rv b1, iv base, iv base, iv r1', iv r2', un, un, un, un, un, un, un, un] [(.int (536870912 : Int32)), (.int p3)]))
  refine Go.stp (fun t_ k_ => XS.iand X8.here hx rfl (hb hby at_42) rfl k_) ?_
  show Go p.tables e below G (T8.setTop (mkF m 43 #[lv q0, sd, lv q1, sd, lv q2, sd, iv p3, rv b1, iv base, iv base, iv r1', iv r2', un, un, un, un, un, un, un, un] [(.int (p3 &&& (536870912 : Int32)))]))
  suffices J14 : ∀ (d1 : Int64), ((((p3 &&& (536870912 : Int32)) = (0 : Int32)) ∧ d1 = q1) ∨ (¬ ((p3 &&& (536870912 : Int32)) = (0 : Int32)) ∧ d1 = q0)) → Go p.tables e below G (T8.setTop (mkF m 51 #[lv q0, sd, lv q1, sd, lv q2, sd, iv p3, rv b1, iv base, iv base, iv r1', iv r2', un, un, un, un, un, un, un, un] [(.long d1)])) by
    by_cases hc43 : (p3 &&& (536870912 : Int32)) = (0 : Int32)
    · refine Go.stp (fun t_ k_ => XS.ifYes X8.here hx rfl (pc0 := 43) (pc' := 50) rfl (hb hby at_43) rfl ((if0 _ _).trans (teq hc43).1) (by decide) (by decide) k_) ?_
      show Go p.tables e below G (T8.setTop (mkF m 50 #[lv q0, sd, lv q1, sd, lv q2, sd, iv p3, rv b1, iv base, iv base, iv r1', iv r2', un, un, un, un, un, un, un, un] []))
      refine Go.stp (fun t_ k_ => XS.lloadN X8.here hx rfl (hb hby at_50) rfl k_) ?_
      show Go p.tables e below G (T8.setTop (mkF m 51 #[lv q0, sd, lv q1, sd, lv q2, sd, iv p3, rv b1, iv base, iv base, iv r1', iv r2', un, un, un, un, un, un, un, un] [(.long q1)]))
      exact J14 _ (Or.inl ⟨hc43, rfl⟩)
    · refine Go.stp (fun t_ k_ => XS.ifNo X8.here hx rfl (hb hby at_43) rfl ((if0 _ _).trans (feq hc43).1) k_) ?_
      show Go p.tables e below G (T8.setTop (mkF m 46 #[lv q0, sd, lv q1, sd, lv q2, sd, iv p3, rv b1, iv base, iv base, iv r1', iv r2', un, un, un, un, un, un, un, un] []))
      refine Go.stp (fun t_ k_ => XS.lloadN X8.here hx rfl (hb hby at_46) rfl k_) ?_
      show Go p.tables e below G (T8.setTop (mkF m 47 #[lv q0, sd, lv q1, sd, lv q2, sd, iv p3, rv b1, iv base, iv base, iv r1', iv r2', un, un, un, un, un, un, un, un] [(.long q0)]))
      refine Go.stp (fun t_ k_ => XS.goto X8.here hx rfl (pc0 := 47) (pc' := 51) rfl (hb hby at_47) (by decide) (by decide) k_) ?_
      show Go p.tables e below G (T8.setTop (mkF m 51 #[lv q0, sd, lv q1, sd, lv q2, sd, iv p3, rv b1, iv base, iv base, iv r1', iv r2', un, un, un, un, un, un, un, un] [(.long q0)]))
      exact J14 _ (Or.inr ⟨hc43, rfl⟩)
  intro d1 hj51
  refine Go.stp (fun t_ k_ => XS.lstore X8.here hx rfl (hb hby at_51) rfl (l' := #[lv q0, sd, lv q1, sd, lv q2, sd, iv p3, rv b1, iv base, iv base, iv r1', iv r2', lv d1, sd, un, un, un, un, un, un]) rfl k_) ?_
  show Go p.tables e below G (T8.setTop (mkF m 53 #[lv q0, sd, lv q1, sd, lv q2, sd, iv p3, rv b1, iv base, iv base, iv r1', iv r2', lv d1, sd, un, un, un, un, un, un] []))
  refine Go.stp (fun t_ k_ => XS.iload X8.here hx rfl (hb hby at_53) rfl k_) ?_
  show Go p.tables e below G (T8.setTop (mkF m 55 #[lv q0, sd, lv q1, sd, lv q2, sd, iv p3, rv b1, iv base, iv base, iv r1', iv r2', lv d1, sd, un, un, un, un, un, un] [(.int p3)]))
  refine Go.stp (fun t_ k_ => X8.ldcInt hx hown (mvT hZ (hw _ (List.mem_of_getElem? (i := 37) rfl))) (g := (mkF m 55 #[lv q0, sd, lv q1, sd, lv q2, sd, iv p3, rv b1, iv base, iv base, iv r1', iv r2', lv d1, sd, un, un, un, un, un, un] [(.int p3)])) rfl (hb hby at_55) t_ k_) ?_
  show Go p.tables e below G (T8.setTop (mkF m 57 #[lv q0, sd, lv q1, sd, lv q2, sd, iv p3, rv b1, iv base, iv base, iv r1', iv r2', lv d1, sd, un, un, un, un, un, un] [(.int (1073741824 : Int32)), (.int p3)]))
  refine Go.stp (fun t_ k_ => XS.iand X8.here hx rfl (hb hby at_57) rfl k_) ?_
  show Go p.tables e below G (T8.setTop (mkF m 58 #[lv q0, sd, lv q1, sd, lv q2, sd, iv p3, rv b1, iv base, iv base, iv r1', iv r2', lv d1, sd, un, un, un, un, un, un] [(.int (p3 &&& (1073741824 : Int32)))]))
  suffices J15 : ∀ (d2 : Int64), ((((p3 &&& (1073741824 : Int32)) = (0 : Int32)) ∧ d2 = q2) ∨ (¬ ((p3 &&& (1073741824 : Int32)) = (0 : Int32)) ∧ d2 = q0)) → Go p.tables e below G (T8.setTop (mkF m 67 #[lv q0, sd, lv q1, sd, lv q2, sd, iv p3, rv b1, iv base, iv base, iv r1', iv r2', lv d1, sd, un, un, un, un, un, un] [(.long d2)])) by
    by_cases hc58 : (p3 &&& (1073741824 : Int32)) = (0 : Int32)
    · refine Go.stp (fun t_ k_ => XS.ifYes X8.here hx rfl (pc0 := 58) (pc' := 65) rfl (hb hby at_58) rfl ((if0 _ _).trans (teq hc58).1) (by decide) (by decide) k_) ?_
      show Go p.tables e below G (T8.setTop (mkF m 65 #[lv q0, sd, lv q1, sd, lv q2, sd, iv p3, rv b1, iv base, iv base, iv r1', iv r2', lv d1, sd, un, un, un, un, un, un] []))
      refine Go.stp (fun t_ k_ => XS.lload X8.here hx rfl (hb hby at_65) rfl k_) ?_
      show Go p.tables e below G (T8.setTop (mkF m 67 #[lv q0, sd, lv q1, sd, lv q2, sd, iv p3, rv b1, iv base, iv base, iv r1', iv r2', lv d1, sd, un, un, un, un, un, un] [(.long q2)]))
      exact J15 _ (Or.inl ⟨hc58, rfl⟩)
    · refine Go.stp (fun t_ k_ => XS.ifNo X8.here hx rfl (hb hby at_58) rfl ((if0 _ _).trans (feq hc58).1) k_) ?_
      show Go p.tables e below G (T8.setTop (mkF m 61 #[lv q0, sd, lv q1, sd, lv q2, sd, iv p3, rv b1, iv base, iv base, iv r1', iv r2', lv d1, sd, un, un, un, un, un, un] []))
      refine Go.stp (fun t_ k_ => XS.lloadN X8.here hx rfl (hb hby at_61) rfl k_) ?_
      show Go p.tables e below G (T8.setTop (mkF m 62 #[lv q0, sd, lv q1, sd, lv q2, sd, iv p3, rv b1, iv base, iv base, iv r1', iv r2', lv d1, sd, un, un, un, un, un, un] [(.long q0)]))
      refine Go.stp (fun t_ k_ => XS.goto X8.here hx rfl (pc0 := 62) (pc' := 67) rfl (hb hby at_62) (by decide) (by decide) k_) ?_
      show Go p.tables e below G (T8.setTop (mkF m 67 #[lv q0, sd, lv q1, sd, lv q2, sd, iv p3, rv b1, iv base, iv base, iv r1', iv r2', lv d1, sd, un, un, un, un, un, un] [(.long q0)]))
      exact J15 _ (Or.inr ⟨hc58, rfl⟩)
  intro d2 hj67
  refine Go.stp (fun t_ k_ => XS.lstore X8.here hx rfl (hb hby at_67) rfl (l' := #[lv q0, sd, lv q1, sd, lv q2, sd, iv p3, rv b1, iv base, iv base, iv r1', iv r2', lv d1, sd, lv d2, sd, un, un, un, un]) rfl k_) ?_
  show Go p.tables e below G (T8.setTop (mkF m 69 #[lv q0, sd, lv q1, sd, lv q2, sd, iv p3, rv b1, iv base, iv base, iv r1', iv r2', lv d1, sd, lv d2, sd, un, un, un, un] []))
  refine Go.stp (fun t_ k_ => XS.aload X8.here hx rfl (hb hby at_69) rfl rfl k_) ?_
  show Go p.tables e below G (T8.setTop (mkF m 71 #[lv q0, sd, lv q1, sd, lv q2, sd, iv p3, rv b1, iv base, iv base, iv r1', iv r2', lv d1, sd, lv d2, sd, un, un, un, un] [(.ref b1)]))
  refine Go.stp (fun t_ k_ => XS.lloadN X8.here hx rfl (hb hby at_71) rfl k_) ?_
  show Go p.tables e below G (T8.setTop (mkF m 72 #[lv q0, sd, lv q1, sd, lv q2, sd, iv p3, rv b1, iv base, iv base, iv r1', iv r2', lv d1, sd, lv d2, sd, un, un, un, un] [(.long q0), (.ref b1)]))
  refine Go.stp (fun t_ k_ => XS.iload X8.here hx rfl (hb hby at_72) rfl k_) ?_
  show Go p.tables e below G (T8.setTop (mkF m 74 #[lv q0, sd, lv q1, sd, lv q2, sd, iv p3, rv b1, iv base, iv base, iv r1', iv r2', lv d1, sd, lv d2, sd, un, un, un, un] [(.int base), (.long q0), (.ref b1)]))
  obtain ⟨cq16, kq16, q16a, q16b, q16c⟩ := isOf hZ rfl Ex
  obtain ⟨_, _, ⟨T16, L16, k16, n16⟩, -, X16, ⟨Lc16, hQ16, l16, y16, z16⟩, st16⟩ := X8.virtualBack hx (y := (⟨"com/example/chatterbench/chatterbench/data/IdIndex", "add", "(JI)Z"⟩ : MethodName)) (z := (⟨"com/example/chatterbench/chatterbench/data/IdIndex", "add", "(JI)Z"⟩ : MethodName)) hown (mvT hZ (hw _ (List.mem_of_getElem? (i := 38) rfl))) (mvT hZ (hw _ (List.mem_of_getElem? (i := 39) rfl))) (notFace_of_selects (args := #[]) (mvT hZ (hw _ (List.mem_of_getElem? (i := 41) rfl)))) (mvT hZ (hw _ (List.mem_of_getElem? (i := 41) rfl))) (mvT hZ (hw _ (List.mem_of_getElem? (i := 40) rfl))) (by decide) (backOf (W := 0) (rm6_8 l Z a0 hw [] b1 q0 base ra ia (fun _ => (-1 : Int32)) (fun _ => (0 : Int64)) m0 [] T8.heap n0 Z8 Fr' Fi Ira Iia Fs Ex g_ra g_ia hri hxr hxi rp0 (by decide) k0) hZ (hw _ (List.mem_of_getElem? (i := 42) rfl)) (hw _ (List.mem_of_getElem? (i := 2) rfl)) (by decide) (by decide)) q16a q16c (g := (mkF m 74 #[lv q0, sd, lv q1, sd, lv q2, sd, iv p3, rv b1, iv base, iv base, iv r1', iv r2', lv d1, sd, lv d2, sd, un, un, un, un] [(.int base), (.long q0), (.ref b1)])) rfl (by rw [hml]; rfl) (Steps.refl _) (argsL := [(.long q0), (.int base)]) (rest := []) (lenOf pd_5 rfl) rfl (by show 2 * 0 + _ ≤ _; exact Nat.le_of_eq rfl) (hb hby at_74) (fun _ _ => ⟨rfl, rfl, (by decide : 3 + 0 ≤ _), (by decide : 20 + 0 ≤ _)⟩)
  dsimp only [Pt.U, Pt.locs, Pt.cells, Pt.slots] at X16 l16 y16 z16 st16 hQ16
  subst l16 y16 z16
  obtain ⟨rfl, Nq16, Kc16, R16, I16, F16, Ja16, Jb16, rp16, hl16⟩ := hQ16
  have N16 := Fr.app N8 Nq16
  have f17 : Exa Z T16.heap b1 "com/example/chatterbench/chatterbench/data/IdIndex" := Ex.keep Kc16
  have f18 : Fld Z T16.heap b1 "com/example/chatterbench/chatterbench/data/IdIndex" "rows" "[I" (.ref ra) := Fr'.keep Kc16 (fun q => by simp only [List.mem_cons, List.not_mem_nil, or_false] at q; exact q.elim (fun q => hxr q) (fun q => hxi q))
  have f19 : Fld Z T16.heap b1 "com/example/chatterbench/chatterbench/data/IdIndex" "ids" "[J" (.ref ia) := Fi.keep Kc16 (fun q => by simp only [List.mem_cons, List.not_mem_nil, or_false] at q; exact q.elim (fun q => hxr q) (fun q => hxi q))
  have f20 : Fld Z T16.heap b1 "com/example/chatterbench/chatterbench/data/IdIndex" "shift" "I" (.int (61 : Int32)) := Fs.keep Kc16 (fun q => by simp only [List.mem_cons, List.not_mem_nil, or_false] at q; exact q.elim (fun q => hxr q) (fun q => hxi q))
  have Z16 : n0 ≤ T16.heap.size := Nat.le_trans Z8 Kc16.1
  obtain ⟨m16, hm16⟩ : ∃ z, z = (if m0 q0 = (-1 : Int32) then updm m0 q0 base else m0) := ⟨_, rfl⟩
  rw [← hm16] at rp16
  simp only [List.length_nil] at hl16
  have hF16 : F16.length + 1 < 8 := by omega
  refine Go.stp (fun t_ k_ => st16.trans k_) ?_
  show Go p.tables e below G (T16.setTop (mkF m 77 #[lv q0, sd, lv q1, sd, lv q2, sd, iv p3, rv b1, iv base, iv base, iv r1', iv r2', lv d1, sd, lv d2, sd, un, un, un, un] [(.int (if m0 q0 = (-1 : Int32) then (1 : Int32) else (0 : Int32)))]))
  refine Go.stp (fun t_ k_ => XS.istore X16.here hx rfl (hb hby at_77) rfl (l' := #[lv q0, sd, lv q1, sd, lv q2, sd, iv p3, rv b1, iv base, iv base, iv r1', iv r2', lv d1, sd, lv d2, sd, iv (if m0 q0 = (-1 : Int32) then (1 : Int32) else (0 : Int32)), un, un, un]) rfl k_) ?_
  show Go p.tables e below G (T16.setTop (mkF m 79 #[lv q0, sd, lv q1, sd, lv q2, sd, iv p3, rv b1, iv base, iv base, iv r1', iv r2', lv d1, sd, lv d2, sd, iv (if m0 q0 = (-1 : Int32) then (1 : Int32) else (0 : Int32)), un, un, un] []))
  refine Go.stp (fun t_ k_ => XS.aload X16.here hx rfl (hb hby at_79) rfl rfl k_) ?_
  show Go p.tables e below G (T16.setTop (mkF m 81 #[lv q0, sd, lv q1, sd, lv q2, sd, iv p3, rv b1, iv base, iv base, iv r1', iv r2', lv d1, sd, lv d2, sd, iv (if m0 q0 = (-1 : Int32) then (1 : Int32) else (0 : Int32)), un, un, un] [(.ref b1)]))
  refine Go.stp (fun t_ k_ => XS.lload X16.here hx rfl (hb hby at_81) rfl k_) ?_
  show Go p.tables e below G (T16.setTop (mkF m 83 #[lv q0, sd, lv q1, sd, lv q2, sd, iv p3, rv b1, iv base, iv base, iv r1', iv r2', lv d1, sd, lv d2, sd, iv (if m0 q0 = (-1 : Int32) then (1 : Int32) else (0 : Int32)), un, un, un] [(.long d1), (.ref b1)]))
  refine Go.stp (fun t_ k_ => XS.iload X16.here hx rfl (hb hby at_83) rfl k_) ?_
  show Go p.tables e below G (T16.setTop (mkF m 85 #[lv q0, sd, lv q1, sd, lv q2, sd, iv p3, rv b1, iv base, iv base, iv r1', iv r2', lv d1, sd, lv d2, sd, iv (if m0 q0 = (-1 : Int32) then (1 : Int32) else (0 : Int32)), un, un, un] [(.int r1'), (.long d1), (.ref b1)]))
  obtain ⟨cq21, kq21, q21a, q21b, q21c⟩ := isOf hZ rfl f17
  obtain ⟨_, _, ⟨T21, L21, k21, n21⟩, -, X21, ⟨Lc21, hQ21, l21, y21, z21⟩, st21⟩ := X16.virtualBack hx (y := (⟨"com/example/chatterbench/chatterbench/data/IdIndex", "add", "(JI)Z"⟩ : MethodName)) (z := (⟨"com/example/chatterbench/chatterbench/data/IdIndex", "add", "(JI)Z"⟩ : MethodName)) hown (mvT hZ (hw _ (List.mem_of_getElem? (i := 38) rfl))) (mvT hZ (hw _ (List.mem_of_getElem? (i := 39) rfl))) (notFace_of_selects (args := #[]) (mvT hZ (hw _ (List.mem_of_getElem? (i := 41) rfl)))) (mvT hZ (hw _ (List.mem_of_getElem? (i := 41) rfl))) (mvT hZ (hw _ (List.mem_of_getElem? (i := 40) rfl))) (by decide) (backOf (W := 0) (rm6_8 l Z a0 hw [] b1 d1 r1' ra ia R16 I16 m16 F16 T16.heap n0 Z16 f18 f19 Ja16 Jb16 f20 f17 g_ra g_ia hri hxr hxi rp16 hF16 k1) hZ (hw _ (List.mem_of_getElem? (i := 42) rfl)) (hw _ (List.mem_of_getElem? (i := 2) rfl)) (by decide) (by decide)) q21a q21c (g := (mkF m 85 #[lv q0, sd, lv q1, sd, lv q2, sd, iv p3, rv b1, iv base, iv base, iv r1', iv r2', lv d1, sd, lv d2, sd, iv (if m0 q0 = (-1 : Int32) then (1 : Int32) else (0 : Int32)), un, un, un] [(.int r1'), (.long d1), (.ref b1)])) rfl (by rw [hml]; rfl) (Steps.refl _) (argsL := [(.long d1), (.int r1')]) (rest := []) (lenOf pd_5 rfl) rfl (by show 2 * 0 + _ ≤ _; exact Nat.le_of_eq rfl) (hb hby at_85) (fun _ _ => ⟨rfl, rfl, (by decide : 3 + 0 ≤ _), (by decide : 20 + 0 ≤ _)⟩)
  dsimp only [Pt.U, Pt.locs, Pt.cells, Pt.slots] at X21 l21 y21 z21 st21 hQ21
  subst l21 y21 z21
  obtain ⟨rfl, Nq21, Kc21, R21, I21, F21, Ja21, Jb21, rp21, hl21⟩ := hQ21
  have N21 := Fr.app N16 Nq21
  have f22 : Exa Z T21.heap b1 "com/example/chatterbench/chatterbench/data/IdIndex" := f17.keep Kc21
  have f23 : Fld Z T21.heap b1 "com/example/chatterbench/chatterbench/data/IdIndex" "rows" "[I" (.ref ra) := f18.keep Kc21 (fun q => by simp only [List.mem_cons, List.not_mem_nil, or_false] at q; exact q.elim (fun q => hxr q) (fun q => hxi q))
  have f24 : Fld Z T21.heap b1 "com/example/chatterbench/chatterbench/data/IdIndex" "ids" "[J" (.ref ia) := f19.keep Kc21 (fun q => by simp only [List.mem_cons, List.not_mem_nil, or_false] at q; exact q.elim (fun q => hxr q) (fun q => hxi q))
  have f25 : Fld Z T21.heap b1 "com/example/chatterbench/chatterbench/data/IdIndex" "shift" "I" (.int (61 : Int32)) := f20.keep Kc21 (fun q => by simp only [List.mem_cons, List.not_mem_nil, or_false] at q; exact q.elim (fun q => hxr q) (fun q => hxi q))
  have Z21 : n0 ≤ T21.heap.size := Nat.le_trans Z16 Kc21.1
  obtain ⟨m21, hm21⟩ : ∃ z, z = (if m16 d1 = (-1 : Int32) then updm m16 d1 r1' else m16) := ⟨_, rfl⟩
  rw [← hm21] at rp21
  skip
  have hF21 : F21.length + 1 < 8 := by omega
  refine Go.stp (fun t_ k_ => st21.trans k_) ?_
  show Go p.tables e below G (T21.setTop (mkF m 88 #[lv q0, sd, lv q1, sd, lv q2, sd, iv p3, rv b1, iv base, iv base, iv r1', iv r2', lv d1, sd, lv d2, sd, iv (if m0 q0 = (-1 : Int32) then (1 : Int32) else (0 : Int32)), un, un, un] [(.int (if m16 d1 = (-1 : Int32) then (1 : Int32) else (0 : Int32)))]))
  refine Go.stp (fun t_ k_ => XS.istore X21.here hx rfl (hb hby at_88) rfl (l' := #[lv q0, sd, lv q1, sd, lv q2, sd, iv p3, rv b1, iv base, iv base, iv r1', iv r2', lv d1, sd, lv d2, sd, iv (if m0 q0 = (-1 : Int32) then (1 : Int32) else (0 : Int32)), iv (if m16 d1 = (-1 : Int32) then (1 : Int32) else (0 : Int32)), un, un]) rfl k_) ?_
  show Go p.tables e below G (T21.setTop (mkF m 90 #[lv q0, sd, lv q1, sd, lv q2, sd, iv p3, rv b1, iv base, iv base, iv r1', iv r2', lv d1, sd, lv d2, sd, iv (if m0 q0 = (-1 : Int32) then (1 : Int32) else (0 : Int32)), iv (if m16 d1 = (-1 : Int32) then (1 : Int32) else (0 : Int32)), un, un] []))
  refine Go.stp (fun t_ k_ => XS.aload X21.here hx rfl (hb hby at_90) rfl rfl k_) ?_
  show Go p.tables e below G (T21.setTop (mkF m 92 #[lv q0, sd, lv q1, sd, lv q2, sd, iv p3, rv b1, iv base, iv base, iv r1', iv r2', lv d1, sd, lv d2, sd, iv (if m0 q0 = (-1 : Int32) then (1 : Int32) else (0 : Int32)), iv (if m16 d1 = (-1 : Int32) then (1 : Int32) else (0 : Int32)), un, un] [(.ref b1)]))
  refine Go.stp (fun t_ k_ => XS.lload X21.here hx rfl (hb hby at_92) rfl k_) ?_
  show Go p.tables e below G (T21.setTop (mkF m 94 #[lv q0, sd, lv q1, sd, lv q2, sd, iv p3, rv b1, iv base, iv base, iv r1', iv r2', lv d1, sd, lv d2, sd, iv (if m0 q0 = (-1 : Int32) then (1 : Int32) else (0 : Int32)), iv (if m16 d1 = (-1 : Int32) then (1 : Int32) else (0 : Int32)), un, un] [(.long d2), (.ref b1)]))
  refine Go.stp (fun t_ k_ => XS.iload X21.here hx rfl (hb hby at_94) rfl k_) ?_
  show Go p.tables e below G (T21.setTop (mkF m 96 #[lv q0, sd, lv q1, sd, lv q2, sd, iv p3, rv b1, iv base, iv base, iv r1', iv r2', lv d1, sd, lv d2, sd, iv (if m0 q0 = (-1 : Int32) then (1 : Int32) else (0 : Int32)), iv (if m16 d1 = (-1 : Int32) then (1 : Int32) else (0 : Int32)), un, un] [(.int r2'), (.long d2), (.ref b1)]))
  obtain ⟨cq26, kq26, q26a, q26b, q26c⟩ := isOf hZ rfl f22
  obtain ⟨_, _, ⟨T26, L26, k26, n26⟩, -, X26, ⟨Lc26, hQ26, l26, y26, z26⟩, st26⟩ := X21.virtualBack hx (y := (⟨"com/example/chatterbench/chatterbench/data/IdIndex", "add", "(JI)Z"⟩ : MethodName)) (z := (⟨"com/example/chatterbench/chatterbench/data/IdIndex", "add", "(JI)Z"⟩ : MethodName)) hown (mvT hZ (hw _ (List.mem_of_getElem? (i := 38) rfl))) (mvT hZ (hw _ (List.mem_of_getElem? (i := 39) rfl))) (notFace_of_selects (args := #[]) (mvT hZ (hw _ (List.mem_of_getElem? (i := 41) rfl)))) (mvT hZ (hw _ (List.mem_of_getElem? (i := 41) rfl))) (mvT hZ (hw _ (List.mem_of_getElem? (i := 40) rfl))) (by decide) (backOf (W := 0) (rm6_8 l Z a0 hw [] b1 d2 r2' ra ia R21 I21 m21 F21 T21.heap n0 Z21 f23 f24 Ja21 Jb21 f25 f22 g_ra g_ia hri hxr hxi rp21 hF21 k2) hZ (hw _ (List.mem_of_getElem? (i := 42) rfl)) (hw _ (List.mem_of_getElem? (i := 2) rfl)) (by decide) (by decide)) q26a q26c (g := (mkF m 96 #[lv q0, sd, lv q1, sd, lv q2, sd, iv p3, rv b1, iv base, iv base, iv r1', iv r2', lv d1, sd, lv d2, sd, iv (if m0 q0 = (-1 : Int32) then (1 : Int32) else (0 : Int32)), iv (if m16 d1 = (-1 : Int32) then (1 : Int32) else (0 : Int32)), un, un] [(.int r2'), (.long d2), (.ref b1)])) rfl (by rw [hml]; rfl) (Steps.refl _) (argsL := [(.long d2), (.int r2')]) (rest := []) (lenOf pd_5 rfl) rfl (by show 2 * 0 + _ ≤ _; exact Nat.le_of_eq rfl) (hb hby at_96) (fun _ _ => ⟨rfl, rfl, (by decide : 3 + 0 ≤ _), (by decide : 20 + 0 ≤ _)⟩)
  dsimp only [Pt.U, Pt.locs, Pt.cells, Pt.slots] at X26 l26 y26 z26 st26 hQ26
  subst l26 y26 z26
  obtain ⟨rfl, Nq26, Kc26, R26, I26, F26, Ja26, Jb26, rp26, hl26⟩ := hQ26
  have N26 := Fr.app N21 Nq26
  have f27 : Exa Z T26.heap b1 "com/example/chatterbench/chatterbench/data/IdIndex" := f22.keep Kc26
  have f28 : Fld Z T26.heap b1 "com/example/chatterbench/chatterbench/data/IdIndex" "rows" "[I" (.ref ra) := f23.keep Kc26 (fun q => by simp only [List.mem_cons, List.not_mem_nil, or_false] at q; exact q.elim (fun q => hxr q) (fun q => hxi q))
  have f29 : Fld Z T26.heap b1 "com/example/chatterbench/chatterbench/data/IdIndex" "ids" "[J" (.ref ia) := f24.keep Kc26 (fun q => by simp only [List.mem_cons, List.not_mem_nil, or_false] at q; exact q.elim (fun q => hxr q) (fun q => hxi q))
  have f30 : Fld Z T26.heap b1 "com/example/chatterbench/chatterbench/data/IdIndex" "shift" "I" (.int (61 : Int32)) := f25.keep Kc26 (fun q => by simp only [List.mem_cons, List.not_mem_nil, or_false] at q; exact q.elim (fun q => hxr q) (fun q => hxi q))
  have Z26 : n0 ≤ T26.heap.size := Nat.le_trans Z21 Kc26.1
  obtain ⟨m26, hm26⟩ : ∃ z, z = (if m21 d2 = (-1 : Int32) then updm m21 d2 r2' else m21) := ⟨_, rfl⟩
  rw [← hm26] at rp26
  skip
  have hF26 : F26.length + 1 < 8 := by omega
  refine Go.stp (fun t_ k_ => st26.trans k_) ?_
  show Go p.tables e below G (T26.setTop (mkF m 99 #[lv q0, sd, lv q1, sd, lv q2, sd, iv p3, rv b1, iv base, iv base, iv r1', iv r2', lv d1, sd, lv d2, sd, iv (if m0 q0 = (-1 : Int32) then (1 : Int32) else (0 : Int32)), iv (if m16 d1 = (-1 : Int32) then (1 : Int32) else (0 : Int32)), un, un] [(.int (if m21 d2 = (-1 : Int32) then (1 : Int32) else (0 : Int32)))]))
  refine Go.stp (fun t_ k_ => XS.istore X26.here hx rfl (hb hby at_99) rfl (l' := #[lv q0, sd, lv q1, sd, lv q2, sd, iv p3, rv b1, iv base, iv base, iv r1', iv r2', lv d1, sd, lv d2, sd, iv (if m0 q0 = (-1 : Int32) then (1 : Int32) else (0 : Int32)), iv (if m16 d1 = (-1 : Int32) then (1 : Int32) else (0 : Int32)), iv (if m21 d2 = (-1 : Int32) then (1 : Int32) else (0 : Int32)), un]) rfl k_) ?_
  show Go p.tables e below G (T26.setTop (mkF m 101 #[lv q0, sd, lv q1, sd, lv q2, sd, iv p3, rv b1, iv base, iv base, iv r1', iv r2', lv d1, sd, lv d2, sd, iv (if m0 q0 = (-1 : Int32) then (1 : Int32) else (0 : Int32)), iv (if m16 d1 = (-1 : Int32) then (1 : Int32) else (0 : Int32)), iv (if m21 d2 = (-1 : Int32) then (1 : Int32) else (0 : Int32)), un] []))
  have hM1 : m16 = updm m0 q0 base := by rw [hm16]; exact if_pos (congrFun hm0 q0)
  have v0 : (if m0 q0 = (-1 : Int32) then (1 : Int32) else (0 : Int32)) = (1 : Int32) := if_pos (congrFun hm0 q0)
  rw [v0]
  by_cases hA : d1 = q0
  · have nn1 : ¬ (m16 d1 = (-1 : Int32)) := by rw [hM1, hA]; simp [updm, k0]
    have hM2 : m21 = m16 := by rw [hm21]; exact if_neg nn1
    have v1 : (if m16 d1 = (-1 : Int32) then (1 : Int32) else (0 : Int32)) = (0 : Int32) := if_neg nn1
    by_cases hB : d2 = q0
    · have hC := hA
      have nn2 : ¬ (m21 d2 = (-1 : Int32)) := by rw [hM2, hM1, hB]; simp [updm, k0]
      have v2 : (if m21 d2 = (-1 : Int32) then (1 : Int32) else (0 : Int32)) = (0 : Int32) := if_neg nn2
      rw [v1, v2]
      have hM : m26 = updm m0 q0 base := by rw [hm26, if_neg nn2, hM2, hM1]
      have hiba : m26 q0 = base := by rw [hM]; simp [updm]
      have hoba : ∀ y, m26 y = base → y = q0 := by
        intro y hy
        rw [hM, hm0] at hy
        simp only [updm] at hy
        (repeat' split at hy) <;> first | assumption | (exfalso; first | exact n01 hy | exact n02 hy | exact n12 hy | exact n01 hy.symm | exact n02 hy.symm | exact n12 hy.symm | exact k0 hy.symm | exact k1 hy.symm | exact k2 hy.symm)
      show Go p.tables e below G (T26.setTop (mkF m 101 #[lv q0, sd, lv q1, sd, lv q2, sd, iv p3, rv b1, iv base, iv base, iv r1', iv r2', lv d1, sd, lv d2, sd, iv (1 : Int32), iv (0 : Int32), iv (0 : Int32), un] []))
      refine Go.stp (fun t_ k_ => XS.iload X26.here hx rfl (hb hby at_101) rfl k_) ?_
      show Go p.tables e below G (T26.setTop (mkF m 103 #[lv q0, sd, lv q1, sd, lv q2, sd, iv p3, rv b1, iv base, iv base, iv r1', iv r2', lv d1, sd, lv d2, sd, iv (1 : Int32), iv (0 : Int32), iv (0 : Int32), un] [(.int (1 : Int32))]))
      refine Go.stp (fun t_ k_ => XS.ifNo X26.here hx rfl (hb hby at_103) rfl ((if0 _ _).trans (feq (by decide : ¬ ((1 : Int32) = (0 : Int32)))).1) k_) ?_
      show Go p.tables e below G (T26.setTop (mkF m 106 #[lv q0, sd, lv q1, sd, lv q2, sd, iv p3, rv b1, iv base, iv base, iv r1', iv r2', lv d1, sd, lv d2, sd, iv (1 : Int32), iv (0 : Int32), iv (0 : Int32), un] []))
      refine Go.stp (fun t_ k_ => XS.aload X26.here hx rfl (hb hby at_106) rfl rfl k_) ?_
      show Go p.tables e below G (T26.setTop (mkF m 108 #[lv q0, sd, lv q1, sd, lv q2, sd, iv p3, rv b1, iv base, iv base, iv r1', iv r2', lv d1, sd, lv d2, sd, iv (1 : Int32), iv (0 : Int32), iv (0 : Int32), un] [(.ref b1)]))
      refine Go.stp (fun t_ k_ => XS.iload X26.here hx rfl (hb hby at_108) rfl k_) ?_
      show Go p.tables e below G (T26.setTop (mkF m 110 #[lv q0, sd, lv q1, sd, lv q2, sd, iv p3, rv b1, iv base, iv base, iv r1', iv r2', lv d1, sd, lv d2, sd, iv (1 : Int32), iv (0 : Int32), iv (0 : Int32), un] [(.int base), (.ref b1)]))
      obtain ⟨cq31, kq31, q31a, q31b, q31c⟩ := isOf hZ rfl f27
      obtain ⟨_, _, ⟨T31, L31, k31, n31⟩, -, X31, ⟨Lc31, hQ31, l31, y31, z31⟩, st31⟩ := X26.virtualBack hx (y := (⟨"com/example/chatterbench/chatterbench/data/IdIndex", "id", "(I)J"⟩ : MethodName)) (z := (⟨"com/example/chatterbench/chatterbench/data/IdIndex", "id", "(I)J"⟩ : MethodName)) hown (mvT hZ (hw _ (List.mem_of_getElem? (i := 48) rfl))) (mvT hZ (hw _ (List.mem_of_getElem? (i := 49) rfl))) (notFace_of_selects (args := #[]) (mvT hZ (hw _ (List.mem_of_getElem? (i := 51) rfl)))) (mvT hZ (hw _ (List.mem_of_getElem? (i := 51) rfl))) (mvT hZ (hw _ (List.mem_of_getElem? (i := 50) rfl))) (by decide) (backOf (W := 0) (rm8_8 l Z a0 hw [] b1 base ra ia R26 I26 m26 F26 q0 T26.heap n0 Z26 f28 f29 Ja26 Jb26 rp26 hiba hoba k0) hZ (hw _ (List.mem_of_getElem? (i := 52) rfl)) (hw _ (List.mem_of_getElem? (i := 2) rfl)) (by decide) (by decide)) q31a q31c (g := (mkF m 110 #[lv q0, sd, lv q1, sd, lv q2, sd, iv p3, rv b1, iv base, iv base, iv r1', iv r2', lv d1, sd, lv d2, sd, iv (1 : Int32), iv (0 : Int32), iv (0 : Int32), un] [(.int base), (.ref b1)])) rfl (by rw [hml]; rfl) (Steps.refl _) (argsL := [(.int base)]) (rest := []) (lenOf pd_6 rfl) rfl (by show 2 * 0 + _ ≤ _; exact Nat.le_of_eq rfl) (hb hby at_110) (fun _ _ => ⟨rfl, rfl, (by decide : 3 + 0 ≤ _), (by decide : 20 + 0 ≤ _)⟩)
      dsimp only [Pt.U, Pt.locs, Pt.cells, Pt.slots] at X31 l31 y31 z31 st31 hQ31
      subst l31 y31 z31
      obtain ⟨rfl, Nq31, e31⟩ := hQ31
      have N31 := Fr.app N26 Nq31
      refine Go.stp (fun t_ k_ => st31.trans k_) ?_
      show Go p.tables e below G (T31.setTop (mkF m 113 #[lv q0, sd, lv q1, sd, lv q2, sd, iv p3, rv b1, iv base, iv base, iv r1', iv r2', lv d1, sd, lv d2, sd, iv (1 : Int32), iv (0 : Int32), iv (0 : Int32), un] [(.long q0)]))
      refine Go.stp (fun t_ k_ => XS.lloadN X31.here hx rfl (hb hby at_113) rfl k_) ?_
      show Go p.tables e below G (T31.setTop (mkF m 114 #[lv q0, sd, lv q1, sd, lv q2, sd, iv p3, rv b1, iv base, iv base, iv r1', iv r2', lv d1, sd, lv d2, sd, iv (1 : Int32), iv (0 : Int32), iv (0 : Int32), un] [(.long q0), (.long q0)]))
      refine Go.stp (fun t_ k_ => XS.lcmp X31.here hx rfl (hb hby at_114) rfl k_) ?_
      show Go p.tables e below G (T31.setTop (mkF m 115 #[lv q0, sd, lv q1, sd, lv q2, sd, iv p3, rv b1, iv base, iv base, iv r1', iv r2', lv d1, sd, lv d2, sd, iv (1 : Int32), iv (0 : Int32), iv (0 : Int32), un] [(.int (lcmpW q0 q0))]))
      refine Go.stp (fun t_ k_ => XS.ifNo X31.here hx rfl (hb hby at_115) rfl ((if0 _ _).trans (teq ((lw_eq q0 q0).mpr (rfl : q0 = q0))).2) k_) ?_
      show Go p.tables e below G (T31.setTop (mkF m 118 #[lv q0, sd, lv q1, sd, lv q2, sd, iv p3, rv b1, iv base, iv base, iv r1', iv r2', lv d1, sd, lv d2, sd, iv (1 : Int32), iv (0 : Int32), iv (0 : Int32), un] []))
      refine Go.stp (fun t_ k_ => XS.iconst X31.here hx rfl (hb hby at_118) k_) ?_
      show Go p.tables e below G (T31.setTop (mkF m 119 #[lv q0, sd, lv q1, sd, lv q2, sd, iv p3, rv b1, iv base, iv base, iv r1', iv r2', lv d1, sd, lv d2, sd, iv (1 : Int32), iv (0 : Int32), iv (0 : Int32), un] [(.int (1 : Int32))]))
      refine Go.stp (fun t_ k_ => XS.goto X31.here hx rfl (pc0 := 119) (pc' := 123) rfl (hb hby at_119) (by decide) (by decide) k_) ?_
      show Go p.tables e below G (T31.setTop (mkF m 123 #[lv q0, sd, lv q1, sd, lv q2, sd, iv p3, rv b1, iv base, iv base, iv r1', iv r2', lv d1, sd, lv d2, sd, iv (1 : Int32), iv (0 : Int32), iv (0 : Int32), un] [(.int (1 : Int32))]))
      refine Go.stp (fun t_ k_ => XS.istore X31.here hx rfl (hb hby at_123) rfl (l' := #[lv q0, sd, lv q1, sd, lv q2, sd, iv p3, rv b1, iv base, iv base, iv r1', iv r2', lv d1, sd, lv d2, sd, iv (1 : Int32), iv (0 : Int32), iv (0 : Int32), iv (1 : Int32)]) rfl k_) ?_
      show Go p.tables e below G (T31.setTop (mkF m 125 #[lv q0, sd, lv q1, sd, lv q2, sd, iv p3, rv b1, iv base, iv base, iv r1', iv r2', lv d1, sd, lv d2, sd, iv (1 : Int32), iv (0 : Int32), iv (0 : Int32), iv (1 : Int32)] []))
      refine Go.stp (fun t_ k_ => XS.iload X31.here hx rfl (hb hby at_125) rfl k_) ?_
      show Go p.tables e below G (T31.setTop (mkF m 127 #[lv q0, sd, lv q1, sd, lv q2, sd, iv p3, rv b1, iv base, iv base, iv r1', iv r2', lv d1, sd, lv d2, sd, iv (1 : Int32), iv (0 : Int32), iv (0 : Int32), iv (1 : Int32)] [(.int (0 : Int32))]))
      refine Go.stp (fun t_ k_ => XS.ifYes X31.here hx rfl (pc0 := 127) (pc' := 165) rfl (hb hby at_127) rfl ((if0 _ _).trans (teq (by decide : (0 : Int32) = (0 : Int32))).1) (by decide) (by decide) k_) ?_
      show Go p.tables e below G (T31.setTop (mkF m 165 #[lv q0, sd, lv q1, sd, lv q2, sd, iv p3, rv b1, iv base, iv base, iv r1', iv r2', lv d1, sd, lv d2, sd, iv (1 : Int32), iv (0 : Int32), iv (0 : Int32), iv (1 : Int32)] []))
      refine Go.stp (fun t_ k_ => XS.iload X31.here hx rfl (hb hby at_165) rfl k_) ?_
      show Go p.tables e below G (T31.setTop (mkF m 167 #[lv q0, sd, lv q1, sd, lv q2, sd, iv p3, rv b1, iv base, iv base, iv r1', iv r2', lv d1, sd, lv d2, sd, iv (1 : Int32), iv (0 : Int32), iv (0 : Int32), iv (1 : Int32)] [(.int (1 : Int32))]))
      refine Go.stp (fun t_ k_ => XS.ifNo X31.here hx rfl (hb hby at_167) rfl ((if0 _ _).trans (feq (by decide : ¬ ((1 : Int32) = (0 : Int32)))).1) k_) ?_
      show Go p.tables e below G (T31.setTop (mkF m 170 #[lv q0, sd, lv q1, sd, lv q2, sd, iv p3, rv b1, iv base, iv base, iv r1', iv r2', lv d1, sd, lv d2, sd, iv (1 : Int32), iv (0 : Int32), iv (0 : Int32), iv (1 : Int32)] []))
      refine Go.stp (fun t_ k_ => XS.lload X31.here hx rfl (hb hby at_170) rfl k_) ?_
      show Go p.tables e below G (T31.setTop (mkF m 172 #[lv q0, sd, lv q1, sd, lv q2, sd, iv p3, rv b1, iv base, iv base, iv r1', iv r2', lv d1, sd, lv d2, sd, iv (1 : Int32), iv (0 : Int32), iv (0 : Int32), iv (1 : Int32)] [(.long d1)]))
      refine Go.stp (fun t_ k_ => XS.lloadN X31.here hx rfl (hb hby at_172) rfl k_) ?_
      show Go p.tables e below G (T31.setTop (mkF m 173 #[lv q0, sd, lv q1, sd, lv q2, sd, iv p3, rv b1, iv base, iv base, iv r1', iv r2', lv d1, sd, lv d2, sd, iv (1 : Int32), iv (0 : Int32), iv (0 : Int32), iv (1 : Int32)] [(.long q0), (.long d1)]))
      refine Go.stp (fun t_ k_ => XS.lcmp X31.here hx rfl (hb hby at_173) rfl k_) ?_
      show Go p.tables e below G (T31.setTop (mkF m 174 #[lv q0, sd, lv q1, sd, lv q2, sd, iv p3, rv b1, iv base, iv base, iv r1', iv r2', lv d1, sd, lv d2, sd, iv (1 : Int32), iv (0 : Int32), iv (0 : Int32), iv (1 : Int32)] [(.int (lcmpW d1 q0))]))
      have hd174 : d1 = q0 := hA
      refine Go.stp (fun t_ k_ => XS.ifNo X31.here hx rfl (hb hby at_174) rfl ((if0 _ _).trans (teq ((lw_eq d1 q0).mpr hd174)).2) k_) ?_
      show Go p.tables e below G (T31.setTop (mkF m 177 #[lv q0, sd, lv q1, sd, lv q2, sd, iv p3, rv b1, iv base, iv base, iv r1', iv r2', lv d1, sd, lv d2, sd, iv (1 : Int32), iv (0 : Int32), iv (0 : Int32), iv (1 : Int32)] []))
      refine Go.stp (fun t_ k_ => XS.iconst X31.here hx rfl (hb hby at_177) k_) ?_
      show Go p.tables e below G (T31.setTop (mkF m 178 #[lv q0, sd, lv q1, sd, lv q2, sd, iv p3, rv b1, iv base, iv base, iv r1', iv r2', lv d1, sd, lv d2, sd, iv (1 : Int32), iv (0 : Int32), iv (0 : Int32), iv (1 : Int32)] [(.int (1 : Int32))]))
      refine Go.stp (fun t_ k_ => XS.goto X31.here hx rfl (pc0 := 178) (pc' := 182) rfl (hb hby at_178) (by decide) (by decide) k_) ?_
      show Go p.tables e below G (T31.setTop (mkF m 182 #[lv q0, sd, lv q1, sd, lv q2, sd, iv p3, rv b1, iv base, iv base, iv r1', iv r2', lv d1, sd, lv d2, sd, iv (1 : Int32), iv (0 : Int32), iv (0 : Int32), iv (1 : Int32)] [(.int (1 : Int32))]))
      refine Go.stp (fun t_ k_ => XS.istore X31.here hx rfl (hb hby at_182) rfl (l' := #[lv q0, sd, lv q1, sd, lv q2, sd, iv p3, rv b1, iv base, iv base, iv r1', iv r2', lv d1, sd, lv d2, sd, iv (1 : Int32), iv (0 : Int32), iv (0 : Int32), iv (1 : Int32)]) rfl k_) ?_
      show Go p.tables e below G (T31.setTop (mkF m 184 #[lv q0, sd, lv q1, sd, lv q2, sd, iv p3, rv b1, iv base, iv base, iv r1', iv r2', lv d1, sd, lv d2, sd, iv (1 : Int32), iv (0 : Int32), iv (0 : Int32), iv (1 : Int32)] []))
      refine Go.stp (fun t_ k_ => XS.iload X31.here hx rfl (hb hby at_184) rfl k_) ?_
      show Go p.tables e below G (T31.setTop (mkF m 186 #[lv q0, sd, lv q1, sd, lv q2, sd, iv p3, rv b1, iv base, iv base, iv r1', iv r2', lv d1, sd, lv d2, sd, iv (1 : Int32), iv (0 : Int32), iv (0 : Int32), iv (1 : Int32)] [(.int (0 : Int32))]))
      refine Go.stp (fun t_ k_ => XS.ifYes X31.here hx rfl (pc0 := 186) (pc' := 237) rfl (hb hby at_186) rfl ((if0 _ _).trans (teq (by decide : (0 : Int32) = (0 : Int32))).1) (by decide) (by decide) k_) ?_
      show Go p.tables e below G (T31.setTop (mkF m 237 #[lv q0, sd, lv q1, sd, lv q2, sd, iv p3, rv b1, iv base, iv base, iv r1', iv r2', lv d1, sd, lv d2, sd, iv (1 : Int32), iv (0 : Int32), iv (0 : Int32), iv (1 : Int32)] []))
      refine Go.stp (fun t_ k_ => XS.iload X31.here hx rfl (hb hby at_237) rfl k_) ?_
      show Go p.tables e below G (T31.setTop (mkF m 239 #[lv q0, sd, lv q1, sd, lv q2, sd, iv p3, rv b1, iv base, iv base, iv r1', iv r2', lv d1, sd, lv d2, sd, iv (1 : Int32), iv (0 : Int32), iv (0 : Int32), iv (1 : Int32)] [(.int (1 : Int32))]))
      refine Go.stp (fun t_ k_ => XS.ifNo X31.here hx rfl (hb hby at_239) rfl ((if0 _ _).trans (feq (by decide : ¬ ((1 : Int32) = (0 : Int32)))).1) k_) ?_
      show Go p.tables e below G (T31.setTop (mkF m 242 #[lv q0, sd, lv q1, sd, lv q2, sd, iv p3, rv b1, iv base, iv base, iv r1', iv r2', lv d1, sd, lv d2, sd, iv (1 : Int32), iv (0 : Int32), iv (0 : Int32), iv (1 : Int32)] []))
      refine Go.stp (fun t_ k_ => XS.lload X31.here hx rfl (hb hby at_242) rfl k_) ?_
      show Go p.tables e below G (T31.setTop (mkF m 244 #[lv q0, sd, lv q1, sd, lv q2, sd, iv p3, rv b1, iv base, iv base, iv r1', iv r2', lv d1, sd, lv d2, sd, iv (1 : Int32), iv (0 : Int32), iv (0 : Int32), iv (1 : Int32)] [(.long d2)]))
      refine Go.stp (fun t_ k_ => XS.lloadN X31.here hx rfl (hb hby at_244) rfl k_) ?_
      show Go p.tables e below G (T31.setTop (mkF m 245 #[lv q0, sd, lv q1, sd, lv q2, sd, iv p3, rv b1, iv base, iv base, iv r1', iv r2', lv d1, sd, lv d2, sd, iv (1 : Int32), iv (0 : Int32), iv (0 : Int32), iv (1 : Int32)] [(.long q0), (.long d2)]))
      refine Go.stp (fun t_ k_ => XS.lcmp X31.here hx rfl (hb hby at_245) rfl k_) ?_
      show Go p.tables e below G (T31.setTop (mkF m 246 #[lv q0, sd, lv q1, sd, lv q2, sd, iv p3, rv b1, iv base, iv base, iv r1', iv r2', lv d1, sd, lv d2, sd, iv (1 : Int32), iv (0 : Int32), iv (0 : Int32), iv (1 : Int32)] [(.int (lcmpW d2 q0))]))
      have hd246 : d2 = q0 := hB
      refine Go.stp (fun t_ k_ => XS.ifYes X31.here hx rfl (pc0 := 246) (pc' := 262) rfl (hb hby at_246) rfl ((if0 _ _).trans (teq ((lw_eq d2 q0).mpr hd246)).1) (by decide) (by decide) k_) ?_
      show Go p.tables e below G (T31.setTop (mkF m 262 #[lv q0, sd, lv q1, sd, lv q2, sd, iv p3, rv b1, iv base, iv base, iv r1', iv r2', lv d1, sd, lv d2, sd, iv (1 : Int32), iv (0 : Int32), iv (0 : Int32), iv (1 : Int32)] []))
      refine Go.stp (fun t_ k_ => XS.iconst X31.here hx rfl (hb hby at_262) k_) ?_
      show Go p.tables e below G (T31.setTop (mkF m 263 #[lv q0, sd, lv q1, sd, lv q2, sd, iv p3, rv b1, iv base, iv base, iv r1', iv r2', lv d1, sd, lv d2, sd, iv (1 : Int32), iv (0 : Int32), iv (0 : Int32), iv (1 : Int32)] [(.int (1 : Int32))]))
      refine Go.stp (fun t_ k_ => XS.goto X31.here hx rfl (pc0 := 263) (pc' := 267) rfl (hb hby at_263) (by decide) (by decide) k_) ?_
      show Go p.tables e below G (T31.setTop (mkF m 267 #[lv q0, sd, lv q1, sd, lv q2, sd, iv p3, rv b1, iv base, iv base, iv r1', iv r2', lv d1, sd, lv d2, sd, iv (1 : Int32), iv (0 : Int32), iv (0 : Int32), iv (1 : Int32)] [(.int (1 : Int32))]))
      refine Go.stp (fun t_ k_ => XS.istore X31.here hx rfl (hb hby at_267) rfl (l' := #[lv q0, sd, lv q1, sd, lv q2, sd, iv p3, rv b1, iv base, iv base, iv r1', iv r2', lv d1, sd, lv d2, sd, iv (1 : Int32), iv (0 : Int32), iv (0 : Int32), iv (1 : Int32)]) rfl k_) ?_
      show Go p.tables e below G (T31.setTop (mkF m 269 #[lv q0, sd, lv q1, sd, lv q2, sd, iv p3, rv b1, iv base, iv base, iv r1', iv r2', lv d1, sd, lv d2, sd, iv (1 : Int32), iv (0 : Int32), iv (0 : Int32), iv (1 : Int32)] []))
      refine Go.stp (fun t_ k_ => XS.iload X31.here hx rfl (hb hby at_269) rfl k_) ?_
      show Go p.tables e below G (T31.setTop (mkF m 271 #[lv q0, sd, lv q1, sd, lv q2, sd, iv p3, rv b1, iv base, iv base, iv r1', iv r2', lv d1, sd, lv d2, sd, iv (1 : Int32), iv (0 : Int32), iv (0 : Int32), iv (1 : Int32)] [(.int (1 : Int32))]))
      obtain ⟨fs, hr, hrun, hended, hW, hsame⟩ := X31.leave (v := some (.int (1 : Int32))) (fun h => by rw [Bd.returns] at h; cases h)
      refine ⟨_, _, retN X31 hx (t := .boolean) Bd.returns (by simp) (hb hby at_271) hr, hrun, hended, hG _ _ _ ?_ ⟨⟨_, rfl⟩, hW, hsame.mono (by decide) (by decide)⟩⟩
      show Q0 Z q0 q1 q2 p3 aP h0 n0 _ T31.heap _
      rw [e31]
      exact ⟨rfl, N31⟩
    · have hC := hA
      have nn2 : m21 d2 = (-1 : Int32) := by rw [hM2, hM1, hm0]; simp [updm, hB]
      have v2 : (if m21 d2 = (-1 : Int32) then (1 : Int32) else (0 : Int32)) = (1 : Int32) := if_pos nn2
      have hB' : q0 ≠ d2 := fun q => hB q.symm
      rw [v1, v2]
      have hM : m26 = updm (updm m0 q0 base) d2 r2' := by rw [hm26, if_pos nn2, hM2, hM1]
      have hiba : m26 q0 = base := by rw [hM]; simp [updm, hB']
      have hoba : ∀ y, m26 y = base → y = q0 := by
        intro y hy
        rw [hM, hm0] at hy
        simp only [updm] at hy
        (repeat' split at hy) <;> first | assumption | (exfalso; first | exact n01 hy | exact n02 hy | exact n12 hy | exact n01 hy.symm | exact n02 hy.symm | exact n12 hy.symm | exact k0 hy.symm | exact k1 hy.symm | exact k2 hy.symm)
      have hir2 : m26 d2 = r2' := by rw [hM]; simp [updm, hB']
      have hor2 : ∀ y, m26 y = r2' → y = d2 := by
        intro y hy
        rw [hM, hm0] at hy
        simp only [updm] at hy
        (repeat' split at hy) <;> first | assumption | (exfalso; first | exact n01 hy | exact n02 hy | exact n12 hy | exact n01 hy.symm | exact n02 hy.symm | exact n12 hy.symm | exact k0 hy.symm | exact k1 hy.symm | exact k2 hy.symm)
      show Go p.tables e below G (T26.setTop (mkF m 101 #[lv q0, sd, lv q1, sd, lv q2, sd, iv p3, rv b1, iv base, iv base, iv r1', iv r2', lv d1, sd, lv d2, sd, iv (1 : Int32), iv (0 : Int32), iv (1 : Int32), un] []))
      refine Go.stp (fun t_ k_ => XS.iload X26.here hx rfl (hb hby at_101) rfl k_) ?_
      show Go p.tables e below G (T26.setTop (mkF m 103 #[lv q0, sd, lv q1, sd, lv q2, sd, iv p3, rv b1, iv base, iv base, iv r1', iv r2', lv d1, sd, lv d2, sd, iv (1 : Int32), iv (0 : Int32), iv (1 : Int32), un] [(.int (1 : Int32))]))
      refine Go.stp (fun t_ k_ => XS.ifNo X26.here hx rfl (hb hby at_103) rfl ((if0 _ _).trans (feq (by decide : ¬ ((1 : Int32) = (0 : Int32)))).1) k_) ?_
      show Go p.tables e below G (T26.setTop (mkF m 106 #[lv q0, sd, lv q1, sd, lv q2, sd, iv p3, rv b1, iv base, iv base, iv r1', iv r2', lv d1, sd, lv d2, sd, iv (1 : Int32), iv (0 : Int32), iv (1 : Int32), un] []))
      refine Go.stp (fun t_ k_ => XS.aload X26.here hx rfl (hb hby at_106) rfl rfl k_) ?_
      show Go p.tables e below G (T26.setTop (mkF m 108 #[lv q0, sd, lv q1, sd, lv q2, sd, iv p3, rv b1, iv base, iv base, iv r1', iv r2', lv d1, sd, lv d2, sd, iv (1 : Int32), iv (0 : Int32), iv (1 : Int32), un] [(.ref b1)]))
      refine Go.stp (fun t_ k_ => XS.iload X26.here hx rfl (hb hby at_108) rfl k_) ?_
      show Go p.tables e below G (T26.setTop (mkF m 110 #[lv q0, sd, lv q1, sd, lv q2, sd, iv p3, rv b1, iv base, iv base, iv r1', iv r2', lv d1, sd, lv d2, sd, iv (1 : Int32), iv (0 : Int32), iv (1 : Int32), un] [(.int base), (.ref b1)]))
      obtain ⟨cq32, kq32, q32a, q32b, q32c⟩ := isOf hZ rfl f27
      obtain ⟨_, _, ⟨T32, L32, k32, n32⟩, -, X32, ⟨Lc32, hQ32, l32, y32, z32⟩, st32⟩ := X26.virtualBack hx (y := (⟨"com/example/chatterbench/chatterbench/data/IdIndex", "id", "(I)J"⟩ : MethodName)) (z := (⟨"com/example/chatterbench/chatterbench/data/IdIndex", "id", "(I)J"⟩ : MethodName)) hown (mvT hZ (hw _ (List.mem_of_getElem? (i := 48) rfl))) (mvT hZ (hw _ (List.mem_of_getElem? (i := 49) rfl))) (notFace_of_selects (args := #[]) (mvT hZ (hw _ (List.mem_of_getElem? (i := 51) rfl)))) (mvT hZ (hw _ (List.mem_of_getElem? (i := 51) rfl))) (mvT hZ (hw _ (List.mem_of_getElem? (i := 50) rfl))) (by decide) (backOf (W := 0) (rm8_8 l Z a0 hw [] b1 base ra ia R26 I26 m26 F26 q0 T26.heap n0 Z26 f28 f29 Ja26 Jb26 rp26 hiba hoba k0) hZ (hw _ (List.mem_of_getElem? (i := 52) rfl)) (hw _ (List.mem_of_getElem? (i := 2) rfl)) (by decide) (by decide)) q32a q32c (g := (mkF m 110 #[lv q0, sd, lv q1, sd, lv q2, sd, iv p3, rv b1, iv base, iv base, iv r1', iv r2', lv d1, sd, lv d2, sd, iv (1 : Int32), iv (0 : Int32), iv (1 : Int32), un] [(.int base), (.ref b1)])) rfl (by rw [hml]; rfl) (Steps.refl _) (argsL := [(.int base)]) (rest := []) (lenOf pd_6 rfl) rfl (by show 2 * 0 + _ ≤ _; exact Nat.le_of_eq rfl) (hb hby at_110) (fun _ _ => ⟨rfl, rfl, (by decide : 3 + 0 ≤ _), (by decide : 20 + 0 ≤ _)⟩)
      dsimp only [Pt.U, Pt.locs, Pt.cells, Pt.slots] at X32 l32 y32 z32 st32 hQ32
      subst l32 y32 z32
      obtain ⟨rfl, Nq32, e32⟩ := hQ32
      have N32 := Fr.app N26 Nq32
      refine Go.stp (fun t_ k_ => st32.trans k_) ?_
      show Go p.tables e below G (T32.setTop (mkF m 113 #[lv q0, sd, lv q1, sd, lv q2, sd, iv p3, rv b1, iv base, iv base, iv r1', iv r2', lv d1, sd, lv d2, sd, iv (1 : Int32), iv (0 : Int32), iv (1 : Int32), un] [(.long q0)]))
      refine Go.stp (fun t_ k_ => XS.lloadN X32.here hx rfl (hb hby at_113) rfl k_) ?_
      show Go p.tables e below G (T32.setTop (mkF m 114 #[lv q0, sd, lv q1, sd, lv q2, sd, iv p3, rv b1, iv base, iv base, iv r1', iv r2', lv d1, sd, lv d2, sd, iv (1 : Int32), iv (0 : Int32), iv (1 : Int32), un] [(.long q0), (.long q0)]))
      refine Go.stp (fun t_ k_ => XS.lcmp X32.here hx rfl (hb hby at_114) rfl k_) ?_
      show Go p.tables e below G (T32.setTop (mkF m 115 #[lv q0, sd, lv q1, sd, lv q2, sd, iv p3, rv b1, iv base, iv base, iv r1', iv r2', lv d1, sd, lv d2, sd, iv (1 : Int32), iv (0 : Int32), iv (1 : Int32), un] [(.int (lcmpW q0 q0))]))
      refine Go.stp (fun t_ k_ => XS.ifNo X32.here hx rfl (hb hby at_115) rfl ((if0 _ _).trans (teq ((lw_eq q0 q0).mpr (rfl : q0 = q0))).2) k_) ?_
      show Go p.tables e below G (T32.setTop (mkF m 118 #[lv q0, sd, lv q1, sd, lv q2, sd, iv p3, rv b1, iv base, iv base, iv r1', iv r2', lv d1, sd, lv d2, sd, iv (1 : Int32), iv (0 : Int32), iv (1 : Int32), un] []))
      refine Go.stp (fun t_ k_ => XS.iconst X32.here hx rfl (hb hby at_118) k_) ?_
      show Go p.tables e below G (T32.setTop (mkF m 119 #[lv q0, sd, lv q1, sd, lv q2, sd, iv p3, rv b1, iv base, iv base, iv r1', iv r2', lv d1, sd, lv d2, sd, iv (1 : Int32), iv (0 : Int32), iv (1 : Int32), un] [(.int (1 : Int32))]))
      refine Go.stp (fun t_ k_ => XS.goto X32.here hx rfl (pc0 := 119) (pc' := 123) rfl (hb hby at_119) (by decide) (by decide) k_) ?_
      show Go p.tables e below G (T32.setTop (mkF m 123 #[lv q0, sd, lv q1, sd, lv q2, sd, iv p3, rv b1, iv base, iv base, iv r1', iv r2', lv d1, sd, lv d2, sd, iv (1 : Int32), iv (0 : Int32), iv (1 : Int32), un] [(.int (1 : Int32))]))
      refine Go.stp (fun t_ k_ => XS.istore X32.here hx rfl (hb hby at_123) rfl (l' := #[lv q0, sd, lv q1, sd, lv q2, sd, iv p3, rv b1, iv base, iv base, iv r1', iv r2', lv d1, sd, lv d2, sd, iv (1 : Int32), iv (0 : Int32), iv (1 : Int32), iv (1 : Int32)]) rfl k_) ?_
      show Go p.tables e below G (T32.setTop (mkF m 125 #[lv q0, sd, lv q1, sd, lv q2, sd, iv p3, rv b1, iv base, iv base, iv r1', iv r2', lv d1, sd, lv d2, sd, iv (1 : Int32), iv (0 : Int32), iv (1 : Int32), iv (1 : Int32)] []))
      refine Go.stp (fun t_ k_ => XS.iload X32.here hx rfl (hb hby at_125) rfl k_) ?_
      show Go p.tables e below G (T32.setTop (mkF m 127 #[lv q0, sd, lv q1, sd, lv q2, sd, iv p3, rv b1, iv base, iv base, iv r1', iv r2', lv d1, sd, lv d2, sd, iv (1 : Int32), iv (0 : Int32), iv (1 : Int32), iv (1 : Int32)] [(.int (0 : Int32))]))
      refine Go.stp (fun t_ k_ => XS.ifYes X32.here hx rfl (pc0 := 127) (pc' := 165) rfl (hb hby at_127) rfl ((if0 _ _).trans (teq (by decide : (0 : Int32) = (0 : Int32))).1) (by decide) (by decide) k_) ?_
      show Go p.tables e below G (T32.setTop (mkF m 165 #[lv q0, sd, lv q1, sd, lv q2, sd, iv p3, rv b1, iv base, iv base, iv r1', iv r2', lv d1, sd, lv d2, sd, iv (1 : Int32), iv (0 : Int32), iv (1 : Int32), iv (1 : Int32)] []))
      refine Go.stp (fun t_ k_ => XS.iload X32.here hx rfl (hb hby at_165) rfl k_) ?_
      show Go p.tables e below G (T32.setTop (mkF m 167 #[lv q0, sd, lv q1, sd, lv q2, sd, iv p3, rv b1, iv base, iv base, iv r1', iv r2', lv d1, sd, lv d2, sd, iv (1 : Int32), iv (0 : Int32), iv (1 : Int32), iv (1 : Int32)] [(.int (1 : Int32))]))
      refine Go.stp (fun t_ k_ => XS.ifNo X32.here hx rfl (hb hby at_167) rfl ((if0 _ _).trans (feq (by decide : ¬ ((1 : Int32) = (0 : Int32)))).1) k_) ?_
      show Go p.tables e below G (T32.setTop (mkF m 170 #[lv q0, sd, lv q1, sd, lv q2, sd, iv p3, rv b1, iv base, iv base, iv r1', iv r2', lv d1, sd, lv d2, sd, iv (1 : Int32), iv (0 : Int32), iv (1 : Int32), iv (1 : Int32)] []))
      refine Go.stp (fun t_ k_ => XS.lload X32.here hx rfl (hb hby at_170) rfl k_) ?_
      show Go p.tables e below G (T32.setTop (mkF m 172 #[lv q0, sd, lv q1, sd, lv q2, sd, iv p3, rv b1, iv base, iv base, iv r1', iv r2', lv d1, sd, lv d2, sd, iv (1 : Int32), iv (0 : Int32), iv (1 : Int32), iv (1 : Int32)] [(.long d1)]))
      refine Go.stp (fun t_ k_ => XS.lloadN X32.here hx rfl (hb hby at_172) rfl k_) ?_
      show Go p.tables e below G (T32.setTop (mkF m 173 #[lv q0, sd, lv q1, sd, lv q2, sd, iv p3, rv b1, iv base, iv base, iv r1', iv r2', lv d1, sd, lv d2, sd, iv (1 : Int32), iv (0 : Int32), iv (1 : Int32), iv (1 : Int32)] [(.long q0), (.long d1)]))
      refine Go.stp (fun t_ k_ => XS.lcmp X32.here hx rfl (hb hby at_173) rfl k_) ?_
      show Go p.tables e below G (T32.setTop (mkF m 174 #[lv q0, sd, lv q1, sd, lv q2, sd, iv p3, rv b1, iv base, iv base, iv r1', iv r2', lv d1, sd, lv d2, sd, iv (1 : Int32), iv (0 : Int32), iv (1 : Int32), iv (1 : Int32)] [(.int (lcmpW d1 q0))]))
      have hd174 : d1 = q0 := hA
      refine Go.stp (fun t_ k_ => XS.ifNo X32.here hx rfl (hb hby at_174) rfl ((if0 _ _).trans (teq ((lw_eq d1 q0).mpr hd174)).2) k_) ?_
      show Go p.tables e below G (T32.setTop (mkF m 177 #[lv q0, sd, lv q1, sd, lv q2, sd, iv p3, rv b1, iv base, iv base, iv r1', iv r2', lv d1, sd, lv d2, sd, iv (1 : Int32), iv (0 : Int32), iv (1 : Int32), iv (1 : Int32)] []))
      refine Go.stp (fun t_ k_ => XS.iconst X32.here hx rfl (hb hby at_177) k_) ?_
      show Go p.tables e below G (T32.setTop (mkF m 178 #[lv q0, sd, lv q1, sd, lv q2, sd, iv p3, rv b1, iv base, iv base, iv r1', iv r2', lv d1, sd, lv d2, sd, iv (1 : Int32), iv (0 : Int32), iv (1 : Int32), iv (1 : Int32)] [(.int (1 : Int32))]))
      refine Go.stp (fun t_ k_ => XS.goto X32.here hx rfl (pc0 := 178) (pc' := 182) rfl (hb hby at_178) (by decide) (by decide) k_) ?_
      show Go p.tables e below G (T32.setTop (mkF m 182 #[lv q0, sd, lv q1, sd, lv q2, sd, iv p3, rv b1, iv base, iv base, iv r1', iv r2', lv d1, sd, lv d2, sd, iv (1 : Int32), iv (0 : Int32), iv (1 : Int32), iv (1 : Int32)] [(.int (1 : Int32))]))
      refine Go.stp (fun t_ k_ => XS.istore X32.here hx rfl (hb hby at_182) rfl (l' := #[lv q0, sd, lv q1, sd, lv q2, sd, iv p3, rv b1, iv base, iv base, iv r1', iv r2', lv d1, sd, lv d2, sd, iv (1 : Int32), iv (0 : Int32), iv (1 : Int32), iv (1 : Int32)]) rfl k_) ?_
      show Go p.tables e below G (T32.setTop (mkF m 184 #[lv q0, sd, lv q1, sd, lv q2, sd, iv p3, rv b1, iv base, iv base, iv r1', iv r2', lv d1, sd, lv d2, sd, iv (1 : Int32), iv (0 : Int32), iv (1 : Int32), iv (1 : Int32)] []))
      refine Go.stp (fun t_ k_ => XS.iload X32.here hx rfl (hb hby at_184) rfl k_) ?_
      show Go p.tables e below G (T32.setTop (mkF m 186 #[lv q0, sd, lv q1, sd, lv q2, sd, iv p3, rv b1, iv base, iv base, iv r1', iv r2', lv d1, sd, lv d2, sd, iv (1 : Int32), iv (0 : Int32), iv (1 : Int32), iv (1 : Int32)] [(.int (1 : Int32))]))
      refine Go.stp (fun t_ k_ => XS.ifNo X32.here hx rfl (hb hby at_186) rfl ((if0 _ _).trans (feq (by decide : ¬ ((1 : Int32) = (0 : Int32)))).1) k_) ?_
      show Go p.tables e below G (T32.setTop (mkF m 189 #[lv q0, sd, lv q1, sd, lv q2, sd, iv p3, rv b1, iv base, iv base, iv r1', iv r2', lv d1, sd, lv d2, sd, iv (1 : Int32), iv (0 : Int32), iv (1 : Int32), iv (1 : Int32)] []))
      refine Go.stp (fun t_ k_ => XS.iload X32.here hx rfl (hb hby at_189) rfl k_) ?_
      show Go p.tables e below G (T32.setTop (mkF m 191 #[lv q0, sd, lv q1, sd, lv q2, sd, iv p3, rv b1, iv base, iv base, iv r1', iv r2', lv d1, sd, lv d2, sd, iv (1 : Int32), iv (0 : Int32), iv (1 : Int32), iv (1 : Int32)] [(.int (1 : Int32))]))
      refine Go.stp (fun t_ k_ => XS.ifNo X32.here hx rfl (hb hby at_191) rfl ((if0 _ _).trans (feq (by decide : ¬ ((1 : Int32) = (0 : Int32)))).1) k_) ?_
      show Go p.tables e below G (T32.setTop (mkF m 194 #[lv q0, sd, lv q1, sd, lv q2, sd, iv p3, rv b1, iv base, iv base, iv r1', iv r2', lv d1, sd, lv d2, sd, iv (1 : Int32), iv (0 : Int32), iv (1 : Int32), iv (1 : Int32)] []))
      refine Go.stp (fun t_ k_ => XS.lload X32.here hx rfl (hb hby at_194) rfl k_) ?_
      show Go p.tables e below G (T32.setTop (mkF m 196 #[lv q0, sd, lv q1, sd, lv q2, sd, iv p3, rv b1, iv base, iv base, iv r1', iv r2', lv d1, sd, lv d2, sd, iv (1 : Int32), iv (0 : Int32), iv (1 : Int32), iv (1 : Int32)] [(.long d2)]))
      refine Go.stp (fun t_ k_ => XS.lloadN X32.here hx rfl (hb hby at_196) rfl k_) ?_
      show Go p.tables e below G (T32.setTop (mkF m 197 #[lv q0, sd, lv q1, sd, lv q2, sd, iv p3, rv b1, iv base, iv base, iv r1', iv r2', lv d1, sd, lv d2, sd, iv (1 : Int32), iv (0 : Int32), iv (1 : Int32), iv (1 : Int32)] [(.long q0), (.long d2)]))
      refine Go.stp (fun t_ k_ => XS.lcmp X32.here hx rfl (hb hby at_197) rfl k_) ?_
      show Go p.tables e below G (T32.setTop (mkF m 198 #[lv q0, sd, lv q1, sd, lv q2, sd, iv p3, rv b1, iv base, iv base, iv r1', iv r2', lv d1, sd, lv d2, sd, iv (1 : Int32), iv (0 : Int32), iv (1 : Int32), iv (1 : Int32)] [(.int (lcmpW d2 q0))]))
      have hd198 : ¬ (d2 = q0) := hB
      refine Go.stp (fun t_ k_ => XS.ifNo X32.here hx rfl (hb hby at_198) rfl ((if0 _ _).trans (feq (fun q => hd198 ((lw_eq d2 q0).mp q))).1) k_) ?_
      show Go p.tables e below G (T32.setTop (mkF m 201 #[lv q0, sd, lv q1, sd, lv q2, sd, iv p3, rv b1, iv base, iv base, iv r1', iv r2', lv d1, sd, lv d2, sd, iv (1 : Int32), iv (0 : Int32), iv (1 : Int32), iv (1 : Int32)] []))
      refine Go.stp (fun t_ k_ => XS.iload X32.here hx rfl (hb hby at_201) rfl k_) ?_
      show Go p.tables e below G (T32.setTop (mkF m 203 #[lv q0, sd, lv q1, sd, lv q2, sd, iv p3, rv b1, iv base, iv base, iv r1', iv r2', lv d1, sd, lv d2, sd, iv (1 : Int32), iv (0 : Int32), iv (1 : Int32), iv (1 : Int32)] [(.int (0 : Int32))]))
      refine Go.stp (fun t_ k_ => XS.ifYes X32.here hx rfl (pc0 := 203) (pc' := 214) rfl (hb hby at_203) rfl ((if0 _ _).trans (teq (by decide : (0 : Int32) = (0 : Int32))).1) (by decide) (by decide) k_) ?_
      show Go p.tables e below G (T32.setTop (mkF m 214 #[lv q0, sd, lv q1, sd, lv q2, sd, iv p3, rv b1, iv base, iv base, iv r1', iv r2', lv d1, sd, lv d2, sd, iv (1 : Int32), iv (0 : Int32), iv (1 : Int32), iv (1 : Int32)] []))
      refine Go.stp (fun t_ k_ => XS.aload X32.here hx rfl (hb hby at_214) rfl rfl k_) ?_
      show Go p.tables e below G (T32.setTop (mkF m 216 #[lv q0, sd, lv q1, sd, lv q2, sd, iv p3, rv b1, iv base, iv base, iv r1', iv r2', lv d1, sd, lv d2, sd, iv (1 : Int32), iv (0 : Int32), iv (1 : Int32), iv (1 : Int32)] [(.ref b1)]))
      refine Go.stp (fun t_ k_ => XS.iload X32.here hx rfl (hb hby at_216) rfl k_) ?_
      show Go p.tables e below G (T32.setTop (mkF m 218 #[lv q0, sd, lv q1, sd, lv q2, sd, iv p3, rv b1, iv base, iv base, iv r1', iv r2', lv d1, sd, lv d2, sd, iv (1 : Int32), iv (0 : Int32), iv (1 : Int32), iv (1 : Int32)] [(.int r2'), (.ref b1)]))
      obtain ⟨cq33, kq33, q33a, q33b, q33c⟩ := isOf hZ e32 f27
      obtain ⟨_, _, ⟨T33, L33, k33, n33⟩, -, X33, ⟨Lc33, hQ33, l33, y33, z33⟩, st33⟩ := X32.virtualBack hx (y := (⟨"com/example/chatterbench/chatterbench/data/IdIndex", "id", "(I)J"⟩ : MethodName)) (z := (⟨"com/example/chatterbench/chatterbench/data/IdIndex", "id", "(I)J"⟩ : MethodName)) hown (mvT hZ (hw _ (List.mem_of_getElem? (i := 48) rfl))) (mvT hZ (hw _ (List.mem_of_getElem? (i := 49) rfl))) (notFace_of_selects (args := #[]) (mvT hZ (hw _ (List.mem_of_getElem? (i := 51) rfl)))) (mvT hZ (hw _ (List.mem_of_getElem? (i := 51) rfl))) (mvT hZ (hw _ (List.mem_of_getElem? (i := 50) rfl))) (by decide) (backOf (W := 0) (rm8_8 l Z a0 hw [] b1 r2' ra ia R26 I26 m26 F26 d2 T26.heap n0 Z26 f28 f29 Ja26 Jb26 rp26 hir2 hor2 k2) hZ (hw _ (List.mem_of_getElem? (i := 52) rfl)) (hw _ (List.mem_of_getElem? (i := 2) rfl)) (by decide) (by decide)) q33a q33c (g := (mkF m 218 #[lv q0, sd, lv q1, sd, lv q2, sd, iv p3, rv b1, iv base, iv base, iv r1', iv r2', lv d1, sd, lv d2, sd, iv (1 : Int32), iv (0 : Int32), iv (1 : Int32), iv (1 : Int32)] [(.int r2'), (.ref b1)])) rfl (by rw [hml]; rfl) (Steps.refl _) (argsL := [(.int r2')]) (rest := []) (lenOf pd_6 rfl) rfl (by show 2 * 0 + _ ≤ _; exact Nat.le_of_eq rfl) (hb hby at_218) (fun _ _ => ⟨rfl, e32, (by decide : 3 + 0 ≤ _), (by decide : 20 + 0 ≤ _)⟩)
      dsimp only [Pt.U, Pt.locs, Pt.cells, Pt.slots] at X33 l33 y33 z33 st33 hQ33
      subst l33 y33 z33
      obtain ⟨rfl, Nq33, e33⟩ := hQ33
      have N33 := Fr.app N32 Nq33
      refine Go.stp (fun t_ k_ => st33.trans k_) ?_
      show Go p.tables e below G (T33.setTop (mkF m 221 #[lv q0, sd, lv q1, sd, lv q2, sd, iv p3, rv b1, iv base, iv base, iv r1', iv r2', lv d1, sd, lv d2, sd, iv (1 : Int32), iv (0 : Int32), iv (1 : Int32), iv (1 : Int32)] [(.long d2)]))
      refine Go.stp (fun t_ k_ => XS.lload X33.here hx rfl (hb hby at_221) rfl k_) ?_
      show Go p.tables e below G (T33.setTop (mkF m 223 #[lv q0, sd, lv q1, sd, lv q2, sd, iv p3, rv b1, iv base, iv base, iv r1', iv r2', lv d1, sd, lv d2, sd, iv (1 : Int32), iv (0 : Int32), iv (1 : Int32), iv (1 : Int32)] [(.long d2), (.long d2)]))
      refine Go.stp (fun t_ k_ => XS.lcmp X33.here hx rfl (hb hby at_223) rfl k_) ?_
      show Go p.tables e below G (T33.setTop (mkF m 224 #[lv q0, sd, lv q1, sd, lv q2, sd, iv p3, rv b1, iv base, iv base, iv r1', iv r2', lv d1, sd, lv d2, sd, iv (1 : Int32), iv (0 : Int32), iv (1 : Int32), iv (1 : Int32)] [(.int (lcmpW d2 d2))]))
      refine Go.stp (fun t_ k_ => XS.ifNo X33.here hx rfl (hb hby at_224) rfl ((if0 _ _).trans (teq ((lw_eq d2 d2).mpr (rfl : d2 = d2))).2) k_) ?_
      show Go p.tables e below G (T33.setTop (mkF m 227 #[lv q0, sd, lv q1, sd, lv q2, sd, iv p3, rv b1, iv base, iv base, iv r1', iv r2', lv d1, sd, lv d2, sd, iv (1 : Int32), iv (0 : Int32), iv (1 : Int32), iv (1 : Int32)] []))
      refine Go.stp (fun t_ k_ => XS.iconst X33.here hx rfl (hb hby at_227) k_) ?_
      show Go p.tables e below G (T33.setTop (mkF m 228 #[lv q0, sd, lv q1, sd, lv q2, sd, iv p3, rv b1, iv base, iv base, iv r1', iv r2', lv d1, sd, lv d2, sd, iv (1 : Int32), iv (0 : Int32), iv (1 : Int32), iv (1 : Int32)] [(.int (1 : Int32))]))
      refine Go.stp (fun t_ k_ => XS.goto X33.here hx rfl (pc0 := 228) (pc' := 232) rfl (hb hby at_228) (by decide) (by decide) k_) ?_
      show Go p.tables e below G (T33.setTop (mkF m 232 #[lv q0, sd, lv q1, sd, lv q2, sd, iv p3, rv b1, iv base, iv base, iv r1', iv r2', lv d1, sd, lv d2, sd, iv (1 : Int32), iv (0 : Int32), iv (1 : Int32), iv (1 : Int32)] [(.int (1 : Int32))]))
      refine Go.stp (fun t_ k_ => XS.istore X33.here hx rfl (hb hby at_232) rfl (l' := #[lv q0, sd, lv q1, sd, lv q2, sd, iv p3, rv b1, iv base, iv base, iv r1', iv r2', lv d1, sd, lv d2, sd, iv (1 : Int32), iv (0 : Int32), iv (1 : Int32), iv (1 : Int32)]) rfl k_) ?_
      show Go p.tables e below G (T33.setTop (mkF m 234 #[lv q0, sd, lv q1, sd, lv q2, sd, iv p3, rv b1, iv base, iv base, iv r1', iv r2', lv d1, sd, lv d2, sd, iv (1 : Int32), iv (0 : Int32), iv (1 : Int32), iv (1 : Int32)] []))
      refine Go.stp (fun t_ k_ => XS.goto X33.here hx rfl (pc0 := 234) (pc' := 269) rfl (hb hby at_234) (by decide) (by decide) k_) ?_
      show Go p.tables e below G (T33.setTop (mkF m 269 #[lv q0, sd, lv q1, sd, lv q2, sd, iv p3, rv b1, iv base, iv base, iv r1', iv r2', lv d1, sd, lv d2, sd, iv (1 : Int32), iv (0 : Int32), iv (1 : Int32), iv (1 : Int32)] []))
      refine Go.stp (fun t_ k_ => XS.iload X33.here hx rfl (hb hby at_269) rfl k_) ?_
      show Go p.tables e below G (T33.setTop (mkF m 271 #[lv q0, sd, lv q1, sd, lv q2, sd, iv p3, rv b1, iv base, iv base, iv r1', iv r2', lv d1, sd, lv d2, sd, iv (1 : Int32), iv (0 : Int32), iv (1 : Int32), iv (1 : Int32)] [(.int (1 : Int32))]))
      obtain ⟨fs, hr, hrun, hended, hW, hsame⟩ := X33.leave (v := some (.int (1 : Int32))) (fun h => by rw [Bd.returns] at h; cases h)
      refine ⟨_, _, retN X33 hx (t := .boolean) Bd.returns (by simp) (hb hby at_271) hr, hrun, hended, hG _ _ _ ?_ ⟨⟨_, rfl⟩, hW, hsame.mono (by decide) (by decide)⟩⟩
      show Q0 Z q0 q1 q2 p3 aP h0 n0 _ T33.heap _
      rw [e33]
      exact ⟨rfl, N33⟩
  · have nn1 : m16 d1 = (-1 : Int32) := by rw [hM1, hm0]; simp [updm, hA]
    have hM2 : m21 = updm (updm m0 q0 base) d1 r1' := by rw [hm21, if_pos nn1, hM1]
    have v1 : (if m16 d1 = (-1 : Int32) then (1 : Int32) else (0 : Int32)) = (1 : Int32) := if_pos nn1
    have hA' : q0 ≠ d1 := fun q => hA q.symm
    by_cases hB : d2 = q0
    · have hC : ¬ (q0 = d1) := hA'
      have nn2 : ¬ (m21 d2 = (-1 : Int32)) := by rw [hM2, hB]; simp [updm, hC, k0]
      have v2 : (if m21 d2 = (-1 : Int32) then (1 : Int32) else (0 : Int32)) = (0 : Int32) := if_neg nn2
      rw [v1, v2]
      have hM : m26 = updm (updm m0 q0 base) d1 r1' := by rw [hm26, if_neg nn2, hM2]
      have hiba : m26 q0 = base := by rw [hM]; simp [updm, hA']
      have hoba : ∀ y, m26 y = base → y = q0 := by
        intro y hy
        rw [hM, hm0] at hy
        simp only [updm] at hy
        (repeat' split at hy) <;> first | assumption | (exfalso; first | exact n01 hy | exact n02 hy | exact n12 hy | exact n01 hy.symm | exact n02 hy.symm | exact n12 hy.symm | exact k0 hy.symm | exact k1 hy.symm | exact k2 hy.symm)
      have hir1 : m26 d1 = r1' := by rw [hM]; simp [updm, hA']
      have hor1 : ∀ y, m26 y = r1' → y = d1 := by
        intro y hy
        rw [hM, hm0] at hy
        simp only [updm] at hy
        (repeat' split at hy) <;> first | assumption | (exfalso; first | exact n01 hy | exact n02 hy | exact n12 hy | exact n01 hy.symm | exact n02 hy.symm | exact n12 hy.symm | exact k0 hy.symm | exact k1 hy.symm | exact k2 hy.symm)
      show Go p.tables e below G (T26.setTop (mkF m 101 #[lv q0, sd, lv q1, sd, lv q2, sd, iv p3, rv b1, iv base, iv base, iv r1', iv r2', lv d1, sd, lv d2, sd, iv (1 : Int32), iv (1 : Int32), iv (0 : Int32), un] []))
      refine Go.stp (fun t_ k_ => XS.iload X26.here hx rfl (hb hby at_101) rfl k_) ?_
      show Go p.tables e below G (T26.setTop (mkF m 103 #[lv q0, sd, lv q1, sd, lv q2, sd, iv p3, rv b1, iv base, iv base, iv r1', iv r2', lv d1, sd, lv d2, sd, iv (1 : Int32), iv (1 : Int32), iv (0 : Int32), un] [(.int (1 : Int32))]))
      refine Go.stp (fun t_ k_ => XS.ifNo X26.here hx rfl (hb hby at_103) rfl ((if0 _ _).trans (feq (by decide : ¬ ((1 : Int32) = (0 : Int32)))).1) k_) ?_
      show Go p.tables e below G (T26.setTop (mkF m 106 #[lv q0, sd, lv q1, sd, lv q2, sd, iv p3, rv b1, iv base, iv base, iv r1', iv r2', lv d1, sd, lv d2, sd, iv (1 : Int32), iv (1 : Int32), iv (0 : Int32), un] []))
      refine Go.stp (fun t_ k_ => XS.aload X26.here hx rfl (hb hby at_106) rfl rfl k_) ?_
      show Go p.tables e below G (T26.setTop (mkF m 108 #[lv q0, sd, lv q1, sd, lv q2, sd, iv p3, rv b1, iv base, iv base, iv r1', iv r2', lv d1, sd, lv d2, sd, iv (1 : Int32), iv (1 : Int32), iv (0 : Int32), un] [(.ref b1)]))
      refine Go.stp (fun t_ k_ => XS.iload X26.here hx rfl (hb hby at_108) rfl k_) ?_
      show Go p.tables e below G (T26.setTop (mkF m 110 #[lv q0, sd, lv q1, sd, lv q2, sd, iv p3, rv b1, iv base, iv base, iv r1', iv r2', lv d1, sd, lv d2, sd, iv (1 : Int32), iv (1 : Int32), iv (0 : Int32), un] [(.int base), (.ref b1)]))
      obtain ⟨cq34, kq34, q34a, q34b, q34c⟩ := isOf hZ rfl f27
      obtain ⟨_, _, ⟨T34, L34, k34, n34⟩, -, X34, ⟨Lc34, hQ34, l34, y34, z34⟩, st34⟩ := X26.virtualBack hx (y := (⟨"com/example/chatterbench/chatterbench/data/IdIndex", "id", "(I)J"⟩ : MethodName)) (z := (⟨"com/example/chatterbench/chatterbench/data/IdIndex", "id", "(I)J"⟩ : MethodName)) hown (mvT hZ (hw _ (List.mem_of_getElem? (i := 48) rfl))) (mvT hZ (hw _ (List.mem_of_getElem? (i := 49) rfl))) (notFace_of_selects (args := #[]) (mvT hZ (hw _ (List.mem_of_getElem? (i := 51) rfl)))) (mvT hZ (hw _ (List.mem_of_getElem? (i := 51) rfl))) (mvT hZ (hw _ (List.mem_of_getElem? (i := 50) rfl))) (by decide) (backOf (W := 0) (rm8_8 l Z a0 hw [] b1 base ra ia R26 I26 m26 F26 q0 T26.heap n0 Z26 f28 f29 Ja26 Jb26 rp26 hiba hoba k0) hZ (hw _ (List.mem_of_getElem? (i := 52) rfl)) (hw _ (List.mem_of_getElem? (i := 2) rfl)) (by decide) (by decide)) q34a q34c (g := (mkF m 110 #[lv q0, sd, lv q1, sd, lv q2, sd, iv p3, rv b1, iv base, iv base, iv r1', iv r2', lv d1, sd, lv d2, sd, iv (1 : Int32), iv (1 : Int32), iv (0 : Int32), un] [(.int base), (.ref b1)])) rfl (by rw [hml]; rfl) (Steps.refl _) (argsL := [(.int base)]) (rest := []) (lenOf pd_6 rfl) rfl (by show 2 * 0 + _ ≤ _; exact Nat.le_of_eq rfl) (hb hby at_110) (fun _ _ => ⟨rfl, rfl, (by decide : 3 + 0 ≤ _), (by decide : 20 + 0 ≤ _)⟩)
      dsimp only [Pt.U, Pt.locs, Pt.cells, Pt.slots] at X34 l34 y34 z34 st34 hQ34
      subst l34 y34 z34
      obtain ⟨rfl, Nq34, e34⟩ := hQ34
      have N34 := Fr.app N26 Nq34
      refine Go.stp (fun t_ k_ => st34.trans k_) ?_
      show Go p.tables e below G (T34.setTop (mkF m 113 #[lv q0, sd, lv q1, sd, lv q2, sd, iv p3, rv b1, iv base, iv base, iv r1', iv r2', lv d1, sd, lv d2, sd, iv (1 : Int32), iv (1 : Int32), iv (0 : Int32), un] [(.long q0)]))
      refine Go.stp (fun t_ k_ => XS.lloadN X34.here hx rfl (hb hby at_113) rfl k_) ?_
      show Go p.tables e below G (T34.setTop (mkF m 114 #[lv q0, sd, lv q1, sd, lv q2, sd, iv p3, rv b1, iv base, iv base, iv r1', iv r2', lv d1, sd, lv d2, sd, iv (1 : Int32), iv (1 : Int32), iv (0 : Int32), un] [(.long q0), (.long q0)]))
      refine Go.stp (fun t_ k_ => XS.lcmp X34.here hx rfl (hb hby at_114) rfl k_) ?_
      show Go p.tables e below G (T34.setTop (mkF m 115 #[lv q0, sd, lv q1, sd, lv q2, sd, iv p3, rv b1, iv base, iv base, iv r1', iv r2', lv d1, sd, lv d2, sd, iv (1 : Int32), iv (1 : Int32), iv (0 : Int32), un] [(.int (lcmpW q0 q0))]))
      refine Go.stp (fun t_ k_ => XS.ifNo X34.here hx rfl (hb hby at_115) rfl ((if0 _ _).trans (teq ((lw_eq q0 q0).mpr (rfl : q0 = q0))).2) k_) ?_
      show Go p.tables e below G (T34.setTop (mkF m 118 #[lv q0, sd, lv q1, sd, lv q2, sd, iv p3, rv b1, iv base, iv base, iv r1', iv r2', lv d1, sd, lv d2, sd, iv (1 : Int32), iv (1 : Int32), iv (0 : Int32), un] []))
      refine Go.stp (fun t_ k_ => XS.iconst X34.here hx rfl (hb hby at_118) k_) ?_
      show Go p.tables e below G (T34.setTop (mkF m 119 #[lv q0, sd, lv q1, sd, lv q2, sd, iv p3, rv b1, iv base, iv base, iv r1', iv r2', lv d1, sd, lv d2, sd, iv (1 : Int32), iv (1 : Int32), iv (0 : Int32), un] [(.int (1 : Int32))]))
      refine Go.stp (fun t_ k_ => XS.goto X34.here hx rfl (pc0 := 119) (pc' := 123) rfl (hb hby at_119) (by decide) (by decide) k_) ?_
      show Go p.tables e below G (T34.setTop (mkF m 123 #[lv q0, sd, lv q1, sd, lv q2, sd, iv p3, rv b1, iv base, iv base, iv r1', iv r2', lv d1, sd, lv d2, sd, iv (1 : Int32), iv (1 : Int32), iv (0 : Int32), un] [(.int (1 : Int32))]))
      refine Go.stp (fun t_ k_ => XS.istore X34.here hx rfl (hb hby at_123) rfl (l' := #[lv q0, sd, lv q1, sd, lv q2, sd, iv p3, rv b1, iv base, iv base, iv r1', iv r2', lv d1, sd, lv d2, sd, iv (1 : Int32), iv (1 : Int32), iv (0 : Int32), iv (1 : Int32)]) rfl k_) ?_
      show Go p.tables e below G (T34.setTop (mkF m 125 #[lv q0, sd, lv q1, sd, lv q2, sd, iv p3, rv b1, iv base, iv base, iv r1', iv r2', lv d1, sd, lv d2, sd, iv (1 : Int32), iv (1 : Int32), iv (0 : Int32), iv (1 : Int32)] []))
      refine Go.stp (fun t_ k_ => XS.iload X34.here hx rfl (hb hby at_125) rfl k_) ?_
      show Go p.tables e below G (T34.setTop (mkF m 127 #[lv q0, sd, lv q1, sd, lv q2, sd, iv p3, rv b1, iv base, iv base, iv r1', iv r2', lv d1, sd, lv d2, sd, iv (1 : Int32), iv (1 : Int32), iv (0 : Int32), iv (1 : Int32)] [(.int (1 : Int32))]))
      refine Go.stp (fun t_ k_ => XS.ifNo X34.here hx rfl (hb hby at_127) rfl ((if0 _ _).trans (feq (by decide : ¬ ((1 : Int32) = (0 : Int32)))).1) k_) ?_
      show Go p.tables e below G (T34.setTop (mkF m 130 #[lv q0, sd, lv q1, sd, lv q2, sd, iv p3, rv b1, iv base, iv base, iv r1', iv r2', lv d1, sd, lv d2, sd, iv (1 : Int32), iv (1 : Int32), iv (0 : Int32), iv (1 : Int32)] []))
      refine Go.stp (fun t_ k_ => XS.iload X34.here hx rfl (hb hby at_130) rfl k_) ?_
      show Go p.tables e below G (T34.setTop (mkF m 132 #[lv q0, sd, lv q1, sd, lv q2, sd, iv p3, rv b1, iv base, iv base, iv r1', iv r2', lv d1, sd, lv d2, sd, iv (1 : Int32), iv (1 : Int32), iv (0 : Int32), iv (1 : Int32)] [(.int (1 : Int32))]))
      refine Go.stp (fun t_ k_ => XS.ifNo X34.here hx rfl (hb hby at_132) rfl ((if0 _ _).trans (feq (by decide : ¬ ((1 : Int32) = (0 : Int32)))).1) k_) ?_
      show Go p.tables e below G (T34.setTop (mkF m 135 #[lv q0, sd, lv q1, sd, lv q2, sd, iv p3, rv b1, iv base, iv base, iv r1', iv r2', lv d1, sd, lv d2, sd, iv (1 : Int32), iv (1 : Int32), iv (0 : Int32), iv (1 : Int32)] []))
      refine Go.stp (fun t_ k_ => XS.lload X34.here hx rfl (hb hby at_135) rfl k_) ?_
      show Go p.tables e below G (T34.setTop (mkF m 137 #[lv q0, sd, lv q1, sd, lv q2, sd, iv p3, rv b1, iv base, iv base, iv r1', iv r2', lv d1, sd, lv d2, sd, iv (1 : Int32), iv (1 : Int32), iv (0 : Int32), iv (1 : Int32)] [(.long d1)]))
      refine Go.stp (fun t_ k_ => XS.lloadN X34.here hx rfl (hb hby at_137) rfl k_) ?_
      show Go p.tables e below G (T34.setTop (mkF m 138 #[lv q0, sd, lv q1, sd, lv q2, sd, iv p3, rv b1, iv base, iv base, iv r1', iv r2', lv d1, sd, lv d2, sd, iv (1 : Int32), iv (1 : Int32), iv (0 : Int32), iv (1 : Int32)] [(.long q0), (.long d1)]))
      refine Go.stp (fun t_ k_ => XS.lcmp X34.here hx rfl (hb hby at_138) rfl k_) ?_
      show Go p.tables e below G (T34.setTop (mkF m 139 #[lv q0, sd, lv q1, sd, lv q2, sd, iv p3, rv b1, iv base, iv base, iv r1', iv r2', lv d1, sd, lv d2, sd, iv (1 : Int32), iv (1 : Int32), iv (0 : Int32), iv (1 : Int32)] [(.int (lcmpW d1 q0))]))
      have hd139 : ¬ (d1 = q0) := hA
      refine Go.stp (fun t_ k_ => XS.ifNo X34.here hx rfl (hb hby at_139) rfl ((if0 _ _).trans (feq (fun q => hd139 ((lw_eq d1 q0).mp q))).1) k_) ?_
      show Go p.tables e below G (T34.setTop (mkF m 142 #[lv q0, sd, lv q1, sd, lv q2, sd, iv p3, rv b1, iv base, iv base, iv r1', iv r2', lv d1, sd, lv d2, sd, iv (1 : Int32), iv (1 : Int32), iv (0 : Int32), iv (1 : Int32)] []))
      refine Go.stp (fun t_ k_ => XS.aload X34.here hx rfl (hb hby at_142) rfl rfl k_) ?_
      show Go p.tables e below G (T34.setTop (mkF m 144 #[lv q0, sd, lv q1, sd, lv q2, sd, iv p3, rv b1, iv base, iv base, iv r1', iv r2', lv d1, sd, lv d2, sd, iv (1 : Int32), iv (1 : Int32), iv (0 : Int32), iv (1 : Int32)] [(.ref b1)]))
      refine Go.stp (fun t_ k_ => XS.iload X34.here hx rfl (hb hby at_144) rfl k_) ?_
      show Go p.tables e below G (T34.setTop (mkF m 146 #[lv q0, sd, lv q1, sd, lv q2, sd, iv p3, rv b1, iv base, iv base, iv r1', iv r2', lv d1, sd, lv d2, sd, iv (1 : Int32), iv (1 : Int32), iv (0 : Int32), iv (1 : Int32)] [(.int r1'), (.ref b1)]))
      obtain ⟨cq35, kq35, q35a, q35b, q35c⟩ := isOf hZ e34 f27
      obtain ⟨_, _, ⟨T35, L35, k35, n35⟩, -, X35, ⟨Lc35, hQ35, l35, y35, z35⟩, st35⟩ := X34.virtualBack hx (y := (⟨"com/example/chatterbench/chatterbench/data/IdIndex", "id", "(I)J"⟩ : MethodName)) (z := (⟨"com/example/chatterbench/chatterbench/data/IdIndex", "id", "(I)J"⟩ : MethodName)) hown (mvT hZ (hw _ (List.mem_of_getElem? (i := 48) rfl))) (mvT hZ (hw _ (List.mem_of_getElem? (i := 49) rfl))) (notFace_of_selects (args := #[]) (mvT hZ (hw _ (List.mem_of_getElem? (i := 51) rfl)))) (mvT hZ (hw _ (List.mem_of_getElem? (i := 51) rfl))) (mvT hZ (hw _ (List.mem_of_getElem? (i := 50) rfl))) (by decide) (backOf (W := 0) (rm8_8 l Z a0 hw [] b1 r1' ra ia R26 I26 m26 F26 d1 T26.heap n0 Z26 f28 f29 Ja26 Jb26 rp26 hir1 hor1 k1) hZ (hw _ (List.mem_of_getElem? (i := 52) rfl)) (hw _ (List.mem_of_getElem? (i := 2) rfl)) (by decide) (by decide)) q35a q35c (g := (mkF m 146 #[lv q0, sd, lv q1, sd, lv q2, sd, iv p3, rv b1, iv base, iv base, iv r1', iv r2', lv d1, sd, lv d2, sd, iv (1 : Int32), iv (1 : Int32), iv (0 : Int32), iv (1 : Int32)] [(.int r1'), (.ref b1)])) rfl (by rw [hml]; rfl) (Steps.refl _) (argsL := [(.int r1')]) (rest := []) (lenOf pd_6 rfl) rfl (by show 2 * 0 + _ ≤ _; exact Nat.le_of_eq rfl) (hb hby at_146) (fun _ _ => ⟨rfl, e34, (by decide : 3 + 0 ≤ _), (by decide : 20 + 0 ≤ _)⟩)
      dsimp only [Pt.U, Pt.locs, Pt.cells, Pt.slots] at X35 l35 y35 z35 st35 hQ35
      subst l35 y35 z35
      obtain ⟨rfl, Nq35, e35⟩ := hQ35
      have N35 := Fr.app N34 Nq35
      refine Go.stp (fun t_ k_ => st35.trans k_) ?_
      show Go p.tables e below G (T35.setTop (mkF m 149 #[lv q0, sd, lv q1, sd, lv q2, sd, iv p3, rv b1, iv base, iv base, iv r1', iv r2', lv d1, sd, lv d2, sd, iv (1 : Int32), iv (1 : Int32), iv (0 : Int32), iv (1 : Int32)] [(.long d1)]))
      refine Go.stp (fun t_ k_ => XS.lload X35.here hx rfl (hb hby at_149) rfl k_) ?_
      show Go p.tables e below G (T35.setTop (mkF m 151 #[lv q0, sd, lv q1, sd, lv q2, sd, iv p3, rv b1, iv base, iv base, iv r1', iv r2', lv d1, sd, lv d2, sd, iv (1 : Int32), iv (1 : Int32), iv (0 : Int32), iv (1 : Int32)] [(.long d1), (.long d1)]))
      refine Go.stp (fun t_ k_ => XS.lcmp X35.here hx rfl (hb hby at_151) rfl k_) ?_
      show Go p.tables e below G (T35.setTop (mkF m 152 #[lv q0, sd, lv q1, sd, lv q2, sd, iv p3, rv b1, iv base, iv base, iv r1', iv r2', lv d1, sd, lv d2, sd, iv (1 : Int32), iv (1 : Int32), iv (0 : Int32), iv (1 : Int32)] [(.int (lcmpW d1 d1))]))
      refine Go.stp (fun t_ k_ => XS.ifNo X35.here hx rfl (hb hby at_152) rfl ((if0 _ _).trans (teq ((lw_eq d1 d1).mpr (rfl : d1 = d1))).2) k_) ?_
      show Go p.tables e below G (T35.setTop (mkF m 155 #[lv q0, sd, lv q1, sd, lv q2, sd, iv p3, rv b1, iv base, iv base, iv r1', iv r2', lv d1, sd, lv d2, sd, iv (1 : Int32), iv (1 : Int32), iv (0 : Int32), iv (1 : Int32)] []))
      refine Go.stp (fun t_ k_ => XS.iconst X35.here hx rfl (hb hby at_155) k_) ?_
      show Go p.tables e below G (T35.setTop (mkF m 156 #[lv q0, sd, lv q1, sd, lv q2, sd, iv p3, rv b1, iv base, iv base, iv r1', iv r2', lv d1, sd, lv d2, sd, iv (1 : Int32), iv (1 : Int32), iv (0 : Int32), iv (1 : Int32)] [(.int (1 : Int32))]))
      refine Go.stp (fun t_ k_ => XS.goto X35.here hx rfl (pc0 := 156) (pc' := 160) rfl (hb hby at_156) (by decide) (by decide) k_) ?_
      show Go p.tables e below G (T35.setTop (mkF m 160 #[lv q0, sd, lv q1, sd, lv q2, sd, iv p3, rv b1, iv base, iv base, iv r1', iv r2', lv d1, sd, lv d2, sd, iv (1 : Int32), iv (1 : Int32), iv (0 : Int32), iv (1 : Int32)] [(.int (1 : Int32))]))
      refine Go.stp (fun t_ k_ => XS.istore X35.here hx rfl (hb hby at_160) rfl (l' := #[lv q0, sd, lv q1, sd, lv q2, sd, iv p3, rv b1, iv base, iv base, iv r1', iv r2', lv d1, sd, lv d2, sd, iv (1 : Int32), iv (1 : Int32), iv (0 : Int32), iv (1 : Int32)]) rfl k_) ?_
      show Go p.tables e below G (T35.setTop (mkF m 162 #[lv q0, sd, lv q1, sd, lv q2, sd, iv p3, rv b1, iv base, iv base, iv r1', iv r2', lv d1, sd, lv d2, sd, iv (1 : Int32), iv (1 : Int32), iv (0 : Int32), iv (1 : Int32)] []))
      refine Go.stp (fun t_ k_ => XS.goto X35.here hx rfl (pc0 := 162) (pc' := 184) rfl (hb hby at_162) (by decide) (by decide) k_) ?_
      show Go p.tables e below G (T35.setTop (mkF m 184 #[lv q0, sd, lv q1, sd, lv q2, sd, iv p3, rv b1, iv base, iv base, iv r1', iv r2', lv d1, sd, lv d2, sd, iv (1 : Int32), iv (1 : Int32), iv (0 : Int32), iv (1 : Int32)] []))
      refine Go.stp (fun t_ k_ => XS.iload X35.here hx rfl (hb hby at_184) rfl k_) ?_
      show Go p.tables e below G (T35.setTop (mkF m 186 #[lv q0, sd, lv q1, sd, lv q2, sd, iv p3, rv b1, iv base, iv base, iv r1', iv r2', lv d1, sd, lv d2, sd, iv (1 : Int32), iv (1 : Int32), iv (0 : Int32), iv (1 : Int32)] [(.int (0 : Int32))]))
      refine Go.stp (fun t_ k_ => XS.ifYes X35.here hx rfl (pc0 := 186) (pc' := 237) rfl (hb hby at_186) rfl ((if0 _ _).trans (teq (by decide : (0 : Int32) = (0 : Int32))).1) (by decide) (by decide) k_) ?_
      show Go p.tables e below G (T35.setTop (mkF m 237 #[lv q0, sd, lv q1, sd, lv q2, sd, iv p3, rv b1, iv base, iv base, iv r1', iv r2', lv d1, sd, lv d2, sd, iv (1 : Int32), iv (1 : Int32), iv (0 : Int32), iv (1 : Int32)] []))
      refine Go.stp (fun t_ k_ => XS.iload X35.here hx rfl (hb hby at_237) rfl k_) ?_
      show Go p.tables e below G (T35.setTop (mkF m 239 #[lv q0, sd, lv q1, sd, lv q2, sd, iv p3, rv b1, iv base, iv base, iv r1', iv r2', lv d1, sd, lv d2, sd, iv (1 : Int32), iv (1 : Int32), iv (0 : Int32), iv (1 : Int32)] [(.int (1 : Int32))]))
      refine Go.stp (fun t_ k_ => XS.ifNo X35.here hx rfl (hb hby at_239) rfl ((if0 _ _).trans (feq (by decide : ¬ ((1 : Int32) = (0 : Int32)))).1) k_) ?_
      show Go p.tables e below G (T35.setTop (mkF m 242 #[lv q0, sd, lv q1, sd, lv q2, sd, iv p3, rv b1, iv base, iv base, iv r1', iv r2', lv d1, sd, lv d2, sd, iv (1 : Int32), iv (1 : Int32), iv (0 : Int32), iv (1 : Int32)] []))
      refine Go.stp (fun t_ k_ => XS.lload X35.here hx rfl (hb hby at_242) rfl k_) ?_
      show Go p.tables e below G (T35.setTop (mkF m 244 #[lv q0, sd, lv q1, sd, lv q2, sd, iv p3, rv b1, iv base, iv base, iv r1', iv r2', lv d1, sd, lv d2, sd, iv (1 : Int32), iv (1 : Int32), iv (0 : Int32), iv (1 : Int32)] [(.long d2)]))
      refine Go.stp (fun t_ k_ => XS.lloadN X35.here hx rfl (hb hby at_244) rfl k_) ?_
      show Go p.tables e below G (T35.setTop (mkF m 245 #[lv q0, sd, lv q1, sd, lv q2, sd, iv p3, rv b1, iv base, iv base, iv r1', iv r2', lv d1, sd, lv d2, sd, iv (1 : Int32), iv (1 : Int32), iv (0 : Int32), iv (1 : Int32)] [(.long q0), (.long d2)]))
      refine Go.stp (fun t_ k_ => XS.lcmp X35.here hx rfl (hb hby at_245) rfl k_) ?_
      show Go p.tables e below G (T35.setTop (mkF m 246 #[lv q0, sd, lv q1, sd, lv q2, sd, iv p3, rv b1, iv base, iv base, iv r1', iv r2', lv d1, sd, lv d2, sd, iv (1 : Int32), iv (1 : Int32), iv (0 : Int32), iv (1 : Int32)] [(.int (lcmpW d2 q0))]))
      have hd246 : d2 = q0 := hB
      refine Go.stp (fun t_ k_ => XS.ifYes X35.here hx rfl (pc0 := 246) (pc' := 262) rfl (hb hby at_246) rfl ((if0 _ _).trans (teq ((lw_eq d2 q0).mpr hd246)).1) (by decide) (by decide) k_) ?_
      show Go p.tables e below G (T35.setTop (mkF m 262 #[lv q0, sd, lv q1, sd, lv q2, sd, iv p3, rv b1, iv base, iv base, iv r1', iv r2', lv d1, sd, lv d2, sd, iv (1 : Int32), iv (1 : Int32), iv (0 : Int32), iv (1 : Int32)] []))
      refine Go.stp (fun t_ k_ => XS.iconst X35.here hx rfl (hb hby at_262) k_) ?_
      show Go p.tables e below G (T35.setTop (mkF m 263 #[lv q0, sd, lv q1, sd, lv q2, sd, iv p3, rv b1, iv base, iv base, iv r1', iv r2', lv d1, sd, lv d2, sd, iv (1 : Int32), iv (1 : Int32), iv (0 : Int32), iv (1 : Int32)] [(.int (1 : Int32))]))
      refine Go.stp (fun t_ k_ => XS.goto X35.here hx rfl (pc0 := 263) (pc' := 267) rfl (hb hby at_263) (by decide) (by decide) k_) ?_
      show Go p.tables e below G (T35.setTop (mkF m 267 #[lv q0, sd, lv q1, sd, lv q2, sd, iv p3, rv b1, iv base, iv base, iv r1', iv r2', lv d1, sd, lv d2, sd, iv (1 : Int32), iv (1 : Int32), iv (0 : Int32), iv (1 : Int32)] [(.int (1 : Int32))]))
      refine Go.stp (fun t_ k_ => XS.istore X35.here hx rfl (hb hby at_267) rfl (l' := #[lv q0, sd, lv q1, sd, lv q2, sd, iv p3, rv b1, iv base, iv base, iv r1', iv r2', lv d1, sd, lv d2, sd, iv (1 : Int32), iv (1 : Int32), iv (0 : Int32), iv (1 : Int32)]) rfl k_) ?_
      show Go p.tables e below G (T35.setTop (mkF m 269 #[lv q0, sd, lv q1, sd, lv q2, sd, iv p3, rv b1, iv base, iv base, iv r1', iv r2', lv d1, sd, lv d2, sd, iv (1 : Int32), iv (1 : Int32), iv (0 : Int32), iv (1 : Int32)] []))
      refine Go.stp (fun t_ k_ => XS.iload X35.here hx rfl (hb hby at_269) rfl k_) ?_
      show Go p.tables e below G (T35.setTop (mkF m 271 #[lv q0, sd, lv q1, sd, lv q2, sd, iv p3, rv b1, iv base, iv base, iv r1', iv r2', lv d1, sd, lv d2, sd, iv (1 : Int32), iv (1 : Int32), iv (0 : Int32), iv (1 : Int32)] [(.int (1 : Int32))]))
      obtain ⟨fs, hr, hrun, hended, hW, hsame⟩ := X35.leave (v := some (.int (1 : Int32))) (fun h => by rw [Bd.returns] at h; cases h)
      refine ⟨_, _, retN X35 hx (t := .boolean) Bd.returns (by simp) (hb hby at_271) hr, hrun, hended, hG _ _ _ ?_ ⟨⟨_, rfl⟩, hW, hsame.mono (by decide) (by decide)⟩⟩
      show Q0 Z q0 q1 q2 p3 aP h0 n0 _ T35.heap _
      rw [e35]
      exact ⟨rfl, N35⟩
    · by_cases hC : d2 = d1
      · have nn2 : ¬ (m21 d2 = (-1 : Int32)) := by rw [hM2, hC]; simp [updm, k1]
        have v2 : (if m21 d2 = (-1 : Int32) then (1 : Int32) else (0 : Int32)) = (0 : Int32) := if_neg nn2
        have hB' : q0 ≠ d2 := fun q => hB q.symm
        rw [v1, v2]
        have hM : m26 = updm (updm m0 q0 base) d1 r1' := by rw [hm26, if_neg nn2, hM2]
        have hiba : m26 q0 = base := by rw [hM]; simp [updm, hA']
        have hoba : ∀ y, m26 y = base → y = q0 := by
          intro y hy
          rw [hM, hm0] at hy
          simp only [updm] at hy
          (repeat' split at hy) <;> first | assumption | (exfalso; first | exact n01 hy | exact n02 hy | exact n12 hy | exact n01 hy.symm | exact n02 hy.symm | exact n12 hy.symm | exact k0 hy.symm | exact k1 hy.symm | exact k2 hy.symm)
        have hir1 : m26 d1 = r1' := by rw [hM]; simp [updm, hA']
        have hor1 : ∀ y, m26 y = r1' → y = d1 := by
          intro y hy
          rw [hM, hm0] at hy
          simp only [updm] at hy
          (repeat' split at hy) <;> first | assumption | (exfalso; first | exact n01 hy | exact n02 hy | exact n12 hy | exact n01 hy.symm | exact n02 hy.symm | exact n12 hy.symm | exact k0 hy.symm | exact k1 hy.symm | exact k2 hy.symm)
        show Go p.tables e below G (T26.setTop (mkF m 101 #[lv q0, sd, lv q1, sd, lv q2, sd, iv p3, rv b1, iv base, iv base, iv r1', iv r2', lv d1, sd, lv d2, sd, iv (1 : Int32), iv (1 : Int32), iv (0 : Int32), un] []))
        refine Go.stp (fun t_ k_ => XS.iload X26.here hx rfl (hb hby at_101) rfl k_) ?_
        show Go p.tables e below G (T26.setTop (mkF m 103 #[lv q0, sd, lv q1, sd, lv q2, sd, iv p3, rv b1, iv base, iv base, iv r1', iv r2', lv d1, sd, lv d2, sd, iv (1 : Int32), iv (1 : Int32), iv (0 : Int32), un] [(.int (1 : Int32))]))
        refine Go.stp (fun t_ k_ => XS.ifNo X26.here hx rfl (hb hby at_103) rfl ((if0 _ _).trans (feq (by decide : ¬ ((1 : Int32) = (0 : Int32)))).1) k_) ?_
        show Go p.tables e below G (T26.setTop (mkF m 106 #[lv q0, sd, lv q1, sd, lv q2, sd, iv p3, rv b1, iv base, iv base, iv r1', iv r2', lv d1, sd, lv d2, sd, iv (1 : Int32), iv (1 : Int32), iv (0 : Int32), un] []))
        refine Go.stp (fun t_ k_ => XS.aload X26.here hx rfl (hb hby at_106) rfl rfl k_) ?_
        show Go p.tables e below G (T26.setTop (mkF m 108 #[lv q0, sd, lv q1, sd, lv q2, sd, iv p3, rv b1, iv base, iv base, iv r1', iv r2', lv d1, sd, lv d2, sd, iv (1 : Int32), iv (1 : Int32), iv (0 : Int32), un] [(.ref b1)]))
        refine Go.stp (fun t_ k_ => XS.iload X26.here hx rfl (hb hby at_108) rfl k_) ?_
        show Go p.tables e below G (T26.setTop (mkF m 110 #[lv q0, sd, lv q1, sd, lv q2, sd, iv p3, rv b1, iv base, iv base, iv r1', iv r2', lv d1, sd, lv d2, sd, iv (1 : Int32), iv (1 : Int32), iv (0 : Int32), un] [(.int base), (.ref b1)]))
        obtain ⟨cq36, kq36, q36a, q36b, q36c⟩ := isOf hZ rfl f27
        obtain ⟨_, _, ⟨T36, L36, k36, n36⟩, -, X36, ⟨Lc36, hQ36, l36, y36, z36⟩, st36⟩ := X26.virtualBack hx (y := (⟨"com/example/chatterbench/chatterbench/data/IdIndex", "id", "(I)J"⟩ : MethodName)) (z := (⟨"com/example/chatterbench/chatterbench/data/IdIndex", "id", "(I)J"⟩ : MethodName)) hown (mvT hZ (hw _ (List.mem_of_getElem? (i := 48) rfl))) (mvT hZ (hw _ (List.mem_of_getElem? (i := 49) rfl))) (notFace_of_selects (args := #[]) (mvT hZ (hw _ (List.mem_of_getElem? (i := 51) rfl)))) (mvT hZ (hw _ (List.mem_of_getElem? (i := 51) rfl))) (mvT hZ (hw _ (List.mem_of_getElem? (i := 50) rfl))) (by decide) (backOf (W := 0) (rm8_8 l Z a0 hw [] b1 base ra ia R26 I26 m26 F26 q0 T26.heap n0 Z26 f28 f29 Ja26 Jb26 rp26 hiba hoba k0) hZ (hw _ (List.mem_of_getElem? (i := 52) rfl)) (hw _ (List.mem_of_getElem? (i := 2) rfl)) (by decide) (by decide)) q36a q36c (g := (mkF m 110 #[lv q0, sd, lv q1, sd, lv q2, sd, iv p3, rv b1, iv base, iv base, iv r1', iv r2', lv d1, sd, lv d2, sd, iv (1 : Int32), iv (1 : Int32), iv (0 : Int32), un] [(.int base), (.ref b1)])) rfl (by rw [hml]; rfl) (Steps.refl _) (argsL := [(.int base)]) (rest := []) (lenOf pd_6 rfl) rfl (by show 2 * 0 + _ ≤ _; exact Nat.le_of_eq rfl) (hb hby at_110) (fun _ _ => ⟨rfl, rfl, (by decide : 3 + 0 ≤ _), (by decide : 20 + 0 ≤ _)⟩)
        dsimp only [Pt.U, Pt.locs, Pt.cells, Pt.slots] at X36 l36 y36 z36 st36 hQ36
        subst l36 y36 z36
        obtain ⟨rfl, Nq36, e36⟩ := hQ36
        have N36 := Fr.app N26 Nq36
        refine Go.stp (fun t_ k_ => st36.trans k_) ?_
        show Go p.tables e below G (T36.setTop (mkF m 113 #[lv q0, sd, lv q1, sd, lv q2, sd, iv p3, rv b1, iv base, iv base, iv r1', iv r2', lv d1, sd, lv d2, sd, iv (1 : Int32), iv (1 : Int32), iv (0 : Int32), un] [(.long q0)]))
        refine Go.stp (fun t_ k_ => XS.lloadN X36.here hx rfl (hb hby at_113) rfl k_) ?_
        show Go p.tables e below G (T36.setTop (mkF m 114 #[lv q0, sd, lv q1, sd, lv q2, sd, iv p3, rv b1, iv base, iv base, iv r1', iv r2', lv d1, sd, lv d2, sd, iv (1 : Int32), iv (1 : Int32), iv (0 : Int32), un] [(.long q0), (.long q0)]))
        refine Go.stp (fun t_ k_ => XS.lcmp X36.here hx rfl (hb hby at_114) rfl k_) ?_
        show Go p.tables e below G (T36.setTop (mkF m 115 #[lv q0, sd, lv q1, sd, lv q2, sd, iv p3, rv b1, iv base, iv base, iv r1', iv r2', lv d1, sd, lv d2, sd, iv (1 : Int32), iv (1 : Int32), iv (0 : Int32), un] [(.int (lcmpW q0 q0))]))
        refine Go.stp (fun t_ k_ => XS.ifNo X36.here hx rfl (hb hby at_115) rfl ((if0 _ _).trans (teq ((lw_eq q0 q0).mpr (rfl : q0 = q0))).2) k_) ?_
        show Go p.tables e below G (T36.setTop (mkF m 118 #[lv q0, sd, lv q1, sd, lv q2, sd, iv p3, rv b1, iv base, iv base, iv r1', iv r2', lv d1, sd, lv d2, sd, iv (1 : Int32), iv (1 : Int32), iv (0 : Int32), un] []))
        refine Go.stp (fun t_ k_ => XS.iconst X36.here hx rfl (hb hby at_118) k_) ?_
        show Go p.tables e below G (T36.setTop (mkF m 119 #[lv q0, sd, lv q1, sd, lv q2, sd, iv p3, rv b1, iv base, iv base, iv r1', iv r2', lv d1, sd, lv d2, sd, iv (1 : Int32), iv (1 : Int32), iv (0 : Int32), un] [(.int (1 : Int32))]))
        refine Go.stp (fun t_ k_ => XS.goto X36.here hx rfl (pc0 := 119) (pc' := 123) rfl (hb hby at_119) (by decide) (by decide) k_) ?_
        show Go p.tables e below G (T36.setTop (mkF m 123 #[lv q0, sd, lv q1, sd, lv q2, sd, iv p3, rv b1, iv base, iv base, iv r1', iv r2', lv d1, sd, lv d2, sd, iv (1 : Int32), iv (1 : Int32), iv (0 : Int32), un] [(.int (1 : Int32))]))
        refine Go.stp (fun t_ k_ => XS.istore X36.here hx rfl (hb hby at_123) rfl (l' := #[lv q0, sd, lv q1, sd, lv q2, sd, iv p3, rv b1, iv base, iv base, iv r1', iv r2', lv d1, sd, lv d2, sd, iv (1 : Int32), iv (1 : Int32), iv (0 : Int32), iv (1 : Int32)]) rfl k_) ?_
        show Go p.tables e below G (T36.setTop (mkF m 125 #[lv q0, sd, lv q1, sd, lv q2, sd, iv p3, rv b1, iv base, iv base, iv r1', iv r2', lv d1, sd, lv d2, sd, iv (1 : Int32), iv (1 : Int32), iv (0 : Int32), iv (1 : Int32)] []))
        refine Go.stp (fun t_ k_ => XS.iload X36.here hx rfl (hb hby at_125) rfl k_) ?_
        show Go p.tables e below G (T36.setTop (mkF m 127 #[lv q0, sd, lv q1, sd, lv q2, sd, iv p3, rv b1, iv base, iv base, iv r1', iv r2', lv d1, sd, lv d2, sd, iv (1 : Int32), iv (1 : Int32), iv (0 : Int32), iv (1 : Int32)] [(.int (1 : Int32))]))
        refine Go.stp (fun t_ k_ => XS.ifNo X36.here hx rfl (hb hby at_127) rfl ((if0 _ _).trans (feq (by decide : ¬ ((1 : Int32) = (0 : Int32)))).1) k_) ?_
        show Go p.tables e below G (T36.setTop (mkF m 130 #[lv q0, sd, lv q1, sd, lv q2, sd, iv p3, rv b1, iv base, iv base, iv r1', iv r2', lv d1, sd, lv d2, sd, iv (1 : Int32), iv (1 : Int32), iv (0 : Int32), iv (1 : Int32)] []))
        refine Go.stp (fun t_ k_ => XS.iload X36.here hx rfl (hb hby at_130) rfl k_) ?_
        show Go p.tables e below G (T36.setTop (mkF m 132 #[lv q0, sd, lv q1, sd, lv q2, sd, iv p3, rv b1, iv base, iv base, iv r1', iv r2', lv d1, sd, lv d2, sd, iv (1 : Int32), iv (1 : Int32), iv (0 : Int32), iv (1 : Int32)] [(.int (1 : Int32))]))
        refine Go.stp (fun t_ k_ => XS.ifNo X36.here hx rfl (hb hby at_132) rfl ((if0 _ _).trans (feq (by decide : ¬ ((1 : Int32) = (0 : Int32)))).1) k_) ?_
        show Go p.tables e below G (T36.setTop (mkF m 135 #[lv q0, sd, lv q1, sd, lv q2, sd, iv p3, rv b1, iv base, iv base, iv r1', iv r2', lv d1, sd, lv d2, sd, iv (1 : Int32), iv (1 : Int32), iv (0 : Int32), iv (1 : Int32)] []))
        refine Go.stp (fun t_ k_ => XS.lload X36.here hx rfl (hb hby at_135) rfl k_) ?_
        show Go p.tables e below G (T36.setTop (mkF m 137 #[lv q0, sd, lv q1, sd, lv q2, sd, iv p3, rv b1, iv base, iv base, iv r1', iv r2', lv d1, sd, lv d2, sd, iv (1 : Int32), iv (1 : Int32), iv (0 : Int32), iv (1 : Int32)] [(.long d1)]))
        refine Go.stp (fun t_ k_ => XS.lloadN X36.here hx rfl (hb hby at_137) rfl k_) ?_
        show Go p.tables e below G (T36.setTop (mkF m 138 #[lv q0, sd, lv q1, sd, lv q2, sd, iv p3, rv b1, iv base, iv base, iv r1', iv r2', lv d1, sd, lv d2, sd, iv (1 : Int32), iv (1 : Int32), iv (0 : Int32), iv (1 : Int32)] [(.long q0), (.long d1)]))
        refine Go.stp (fun t_ k_ => XS.lcmp X36.here hx rfl (hb hby at_138) rfl k_) ?_
        show Go p.tables e below G (T36.setTop (mkF m 139 #[lv q0, sd, lv q1, sd, lv q2, sd, iv p3, rv b1, iv base, iv base, iv r1', iv r2', lv d1, sd, lv d2, sd, iv (1 : Int32), iv (1 : Int32), iv (0 : Int32), iv (1 : Int32)] [(.int (lcmpW d1 q0))]))
        have hd139 : ¬ (d1 = q0) := hA
        refine Go.stp (fun t_ k_ => XS.ifNo X36.here hx rfl (hb hby at_139) rfl ((if0 _ _).trans (feq (fun q => hd139 ((lw_eq d1 q0).mp q))).1) k_) ?_
        show Go p.tables e below G (T36.setTop (mkF m 142 #[lv q0, sd, lv q1, sd, lv q2, sd, iv p3, rv b1, iv base, iv base, iv r1', iv r2', lv d1, sd, lv d2, sd, iv (1 : Int32), iv (1 : Int32), iv (0 : Int32), iv (1 : Int32)] []))
        refine Go.stp (fun t_ k_ => XS.aload X36.here hx rfl (hb hby at_142) rfl rfl k_) ?_
        show Go p.tables e below G (T36.setTop (mkF m 144 #[lv q0, sd, lv q1, sd, lv q2, sd, iv p3, rv b1, iv base, iv base, iv r1', iv r2', lv d1, sd, lv d2, sd, iv (1 : Int32), iv (1 : Int32), iv (0 : Int32), iv (1 : Int32)] [(.ref b1)]))
        refine Go.stp (fun t_ k_ => XS.iload X36.here hx rfl (hb hby at_144) rfl k_) ?_
        show Go p.tables e below G (T36.setTop (mkF m 146 #[lv q0, sd, lv q1, sd, lv q2, sd, iv p3, rv b1, iv base, iv base, iv r1', iv r2', lv d1, sd, lv d2, sd, iv (1 : Int32), iv (1 : Int32), iv (0 : Int32), iv (1 : Int32)] [(.int r1'), (.ref b1)]))
        obtain ⟨cq37, kq37, q37a, q37b, q37c⟩ := isOf hZ e36 f27
        obtain ⟨_, _, ⟨T37, L37, k37, n37⟩, -, X37, ⟨Lc37, hQ37, l37, y37, z37⟩, st37⟩ := X36.virtualBack hx (y := (⟨"com/example/chatterbench/chatterbench/data/IdIndex", "id", "(I)J"⟩ : MethodName)) (z := (⟨"com/example/chatterbench/chatterbench/data/IdIndex", "id", "(I)J"⟩ : MethodName)) hown (mvT hZ (hw _ (List.mem_of_getElem? (i := 48) rfl))) (mvT hZ (hw _ (List.mem_of_getElem? (i := 49) rfl))) (notFace_of_selects (args := #[]) (mvT hZ (hw _ (List.mem_of_getElem? (i := 51) rfl)))) (mvT hZ (hw _ (List.mem_of_getElem? (i := 51) rfl))) (mvT hZ (hw _ (List.mem_of_getElem? (i := 50) rfl))) (by decide) (backOf (W := 0) (rm8_8 l Z a0 hw [] b1 r1' ra ia R26 I26 m26 F26 d1 T26.heap n0 Z26 f28 f29 Ja26 Jb26 rp26 hir1 hor1 k1) hZ (hw _ (List.mem_of_getElem? (i := 52) rfl)) (hw _ (List.mem_of_getElem? (i := 2) rfl)) (by decide) (by decide)) q37a q37c (g := (mkF m 146 #[lv q0, sd, lv q1, sd, lv q2, sd, iv p3, rv b1, iv base, iv base, iv r1', iv r2', lv d1, sd, lv d2, sd, iv (1 : Int32), iv (1 : Int32), iv (0 : Int32), iv (1 : Int32)] [(.int r1'), (.ref b1)])) rfl (by rw [hml]; rfl) (Steps.refl _) (argsL := [(.int r1')]) (rest := []) (lenOf pd_6 rfl) rfl (by show 2 * 0 + _ ≤ _; exact Nat.le_of_eq rfl) (hb hby at_146) (fun _ _ => ⟨rfl, e36, (by decide : 3 + 0 ≤ _), (by decide : 20 + 0 ≤ _)⟩)
        dsimp only [Pt.U, Pt.locs, Pt.cells, Pt.slots] at X37 l37 y37 z37 st37 hQ37
        subst l37 y37 z37
        obtain ⟨rfl, Nq37, e37⟩ := hQ37
        have N37 := Fr.app N36 Nq37
        refine Go.stp (fun t_ k_ => st37.trans k_) ?_
        show Go p.tables e below G (T37.setTop (mkF m 149 #[lv q0, sd, lv q1, sd, lv q2, sd, iv p3, rv b1, iv base, iv base, iv r1', iv r2', lv d1, sd, lv d2, sd, iv (1 : Int32), iv (1 : Int32), iv (0 : Int32), iv (1 : Int32)] [(.long d1)]))
        refine Go.stp (fun t_ k_ => XS.lload X37.here hx rfl (hb hby at_149) rfl k_) ?_
        show Go p.tables e below G (T37.setTop (mkF m 151 #[lv q0, sd, lv q1, sd, lv q2, sd, iv p3, rv b1, iv base, iv base, iv r1', iv r2', lv d1, sd, lv d2, sd, iv (1 : Int32), iv (1 : Int32), iv (0 : Int32), iv (1 : Int32)] [(.long d1), (.long d1)]))
        refine Go.stp (fun t_ k_ => XS.lcmp X37.here hx rfl (hb hby at_151) rfl k_) ?_
        show Go p.tables e below G (T37.setTop (mkF m 152 #[lv q0, sd, lv q1, sd, lv q2, sd, iv p3, rv b1, iv base, iv base, iv r1', iv r2', lv d1, sd, lv d2, sd, iv (1 : Int32), iv (1 : Int32), iv (0 : Int32), iv (1 : Int32)] [(.int (lcmpW d1 d1))]))
        refine Go.stp (fun t_ k_ => XS.ifNo X37.here hx rfl (hb hby at_152) rfl ((if0 _ _).trans (teq ((lw_eq d1 d1).mpr (rfl : d1 = d1))).2) k_) ?_
        show Go p.tables e below G (T37.setTop (mkF m 155 #[lv q0, sd, lv q1, sd, lv q2, sd, iv p3, rv b1, iv base, iv base, iv r1', iv r2', lv d1, sd, lv d2, sd, iv (1 : Int32), iv (1 : Int32), iv (0 : Int32), iv (1 : Int32)] []))
        refine Go.stp (fun t_ k_ => XS.iconst X37.here hx rfl (hb hby at_155) k_) ?_
        show Go p.tables e below G (T37.setTop (mkF m 156 #[lv q0, sd, lv q1, sd, lv q2, sd, iv p3, rv b1, iv base, iv base, iv r1', iv r2', lv d1, sd, lv d2, sd, iv (1 : Int32), iv (1 : Int32), iv (0 : Int32), iv (1 : Int32)] [(.int (1 : Int32))]))
        refine Go.stp (fun t_ k_ => XS.goto X37.here hx rfl (pc0 := 156) (pc' := 160) rfl (hb hby at_156) (by decide) (by decide) k_) ?_
        show Go p.tables e below G (T37.setTop (mkF m 160 #[lv q0, sd, lv q1, sd, lv q2, sd, iv p3, rv b1, iv base, iv base, iv r1', iv r2', lv d1, sd, lv d2, sd, iv (1 : Int32), iv (1 : Int32), iv (0 : Int32), iv (1 : Int32)] [(.int (1 : Int32))]))
        refine Go.stp (fun t_ k_ => XS.istore X37.here hx rfl (hb hby at_160) rfl (l' := #[lv q0, sd, lv q1, sd, lv q2, sd, iv p3, rv b1, iv base, iv base, iv r1', iv r2', lv d1, sd, lv d2, sd, iv (1 : Int32), iv (1 : Int32), iv (0 : Int32), iv (1 : Int32)]) rfl k_) ?_
        show Go p.tables e below G (T37.setTop (mkF m 162 #[lv q0, sd, lv q1, sd, lv q2, sd, iv p3, rv b1, iv base, iv base, iv r1', iv r2', lv d1, sd, lv d2, sd, iv (1 : Int32), iv (1 : Int32), iv (0 : Int32), iv (1 : Int32)] []))
        refine Go.stp (fun t_ k_ => XS.goto X37.here hx rfl (pc0 := 162) (pc' := 184) rfl (hb hby at_162) (by decide) (by decide) k_) ?_
        show Go p.tables e below G (T37.setTop (mkF m 184 #[lv q0, sd, lv q1, sd, lv q2, sd, iv p3, rv b1, iv base, iv base, iv r1', iv r2', lv d1, sd, lv d2, sd, iv (1 : Int32), iv (1 : Int32), iv (0 : Int32), iv (1 : Int32)] []))
        refine Go.stp (fun t_ k_ => XS.iload X37.here hx rfl (hb hby at_184) rfl k_) ?_
        show Go p.tables e below G (T37.setTop (mkF m 186 #[lv q0, sd, lv q1, sd, lv q2, sd, iv p3, rv b1, iv base, iv base, iv r1', iv r2', lv d1, sd, lv d2, sd, iv (1 : Int32), iv (1 : Int32), iv (0 : Int32), iv (1 : Int32)] [(.int (0 : Int32))]))
        refine Go.stp (fun t_ k_ => XS.ifYes X37.here hx rfl (pc0 := 186) (pc' := 237) rfl (hb hby at_186) rfl ((if0 _ _).trans (teq (by decide : (0 : Int32) = (0 : Int32))).1) (by decide) (by decide) k_) ?_
        show Go p.tables e below G (T37.setTop (mkF m 237 #[lv q0, sd, lv q1, sd, lv q2, sd, iv p3, rv b1, iv base, iv base, iv r1', iv r2', lv d1, sd, lv d2, sd, iv (1 : Int32), iv (1 : Int32), iv (0 : Int32), iv (1 : Int32)] []))
        refine Go.stp (fun t_ k_ => XS.iload X37.here hx rfl (hb hby at_237) rfl k_) ?_
        show Go p.tables e below G (T37.setTop (mkF m 239 #[lv q0, sd, lv q1, sd, lv q2, sd, iv p3, rv b1, iv base, iv base, iv r1', iv r2', lv d1, sd, lv d2, sd, iv (1 : Int32), iv (1 : Int32), iv (0 : Int32), iv (1 : Int32)] [(.int (1 : Int32))]))
        refine Go.stp (fun t_ k_ => XS.ifNo X37.here hx rfl (hb hby at_239) rfl ((if0 _ _).trans (feq (by decide : ¬ ((1 : Int32) = (0 : Int32)))).1) k_) ?_
        show Go p.tables e below G (T37.setTop (mkF m 242 #[lv q0, sd, lv q1, sd, lv q2, sd, iv p3, rv b1, iv base, iv base, iv r1', iv r2', lv d1, sd, lv d2, sd, iv (1 : Int32), iv (1 : Int32), iv (0 : Int32), iv (1 : Int32)] []))
        refine Go.stp (fun t_ k_ => XS.lload X37.here hx rfl (hb hby at_242) rfl k_) ?_
        show Go p.tables e below G (T37.setTop (mkF m 244 #[lv q0, sd, lv q1, sd, lv q2, sd, iv p3, rv b1, iv base, iv base, iv r1', iv r2', lv d1, sd, lv d2, sd, iv (1 : Int32), iv (1 : Int32), iv (0 : Int32), iv (1 : Int32)] [(.long d2)]))
        refine Go.stp (fun t_ k_ => XS.lloadN X37.here hx rfl (hb hby at_244) rfl k_) ?_
        show Go p.tables e below G (T37.setTop (mkF m 245 #[lv q0, sd, lv q1, sd, lv q2, sd, iv p3, rv b1, iv base, iv base, iv r1', iv r2', lv d1, sd, lv d2, sd, iv (1 : Int32), iv (1 : Int32), iv (0 : Int32), iv (1 : Int32)] [(.long q0), (.long d2)]))
        refine Go.stp (fun t_ k_ => XS.lcmp X37.here hx rfl (hb hby at_245) rfl k_) ?_
        show Go p.tables e below G (T37.setTop (mkF m 246 #[lv q0, sd, lv q1, sd, lv q2, sd, iv p3, rv b1, iv base, iv base, iv r1', iv r2', lv d1, sd, lv d2, sd, iv (1 : Int32), iv (1 : Int32), iv (0 : Int32), iv (1 : Int32)] [(.int (lcmpW d2 q0))]))
        have hd246 : ¬ (d2 = q0) := hB
        refine Go.stp (fun t_ k_ => XS.ifNo X37.here hx rfl (hb hby at_246) rfl ((if0 _ _).trans (feq (fun q => hd246 ((lw_eq d2 q0).mp q))).1) k_) ?_
        show Go p.tables e below G (T37.setTop (mkF m 249 #[lv q0, sd, lv q1, sd, lv q2, sd, iv p3, rv b1, iv base, iv base, iv r1', iv r2', lv d1, sd, lv d2, sd, iv (1 : Int32), iv (1 : Int32), iv (0 : Int32), iv (1 : Int32)] []))
        refine Go.stp (fun t_ k_ => XS.iload X37.here hx rfl (hb hby at_249) rfl k_) ?_
        show Go p.tables e below G (T37.setTop (mkF m 251 #[lv q0, sd, lv q1, sd, lv q2, sd, iv p3, rv b1, iv base, iv base, iv r1', iv r2', lv d1, sd, lv d2, sd, iv (1 : Int32), iv (1 : Int32), iv (0 : Int32), iv (1 : Int32)] [(.int (1 : Int32))]))
        refine Go.stp (fun t_ k_ => XS.ifNo X37.here hx rfl (hb hby at_251) rfl ((if0 _ _).trans (feq (by decide : ¬ ((1 : Int32) = (0 : Int32)))).1) k_) ?_
        show Go p.tables e below G (T37.setTop (mkF m 254 #[lv q0, sd, lv q1, sd, lv q2, sd, iv p3, rv b1, iv base, iv base, iv r1', iv r2', lv d1, sd, lv d2, sd, iv (1 : Int32), iv (1 : Int32), iv (0 : Int32), iv (1 : Int32)] []))
        refine Go.stp (fun t_ k_ => XS.lload X37.here hx rfl (hb hby at_254) rfl k_) ?_
        show Go p.tables e below G (T37.setTop (mkF m 256 #[lv q0, sd, lv q1, sd, lv q2, sd, iv p3, rv b1, iv base, iv base, iv r1', iv r2', lv d1, sd, lv d2, sd, iv (1 : Int32), iv (1 : Int32), iv (0 : Int32), iv (1 : Int32)] [(.long d2)]))
        refine Go.stp (fun t_ k_ => XS.lload X37.here hx rfl (hb hby at_256) rfl k_) ?_
        show Go p.tables e below G (T37.setTop (mkF m 258 #[lv q0, sd, lv q1, sd, lv q2, sd, iv p3, rv b1, iv base, iv base, iv r1', iv r2', lv d1, sd, lv d2, sd, iv (1 : Int32), iv (1 : Int32), iv (0 : Int32), iv (1 : Int32)] [(.long d1), (.long d2)]))
        refine Go.stp (fun t_ k_ => XS.lcmp X37.here hx rfl (hb hby at_258) rfl k_) ?_
        show Go p.tables e below G (T37.setTop (mkF m 259 #[lv q0, sd, lv q1, sd, lv q2, sd, iv p3, rv b1, iv base, iv base, iv r1', iv r2', lv d1, sd, lv d2, sd, iv (1 : Int32), iv (1 : Int32), iv (0 : Int32), iv (1 : Int32)] [(.int (lcmpW d2 d1))]))
        have hd259 : d2 = d1 := hC
        refine Go.stp (fun t_ k_ => XS.ifNo X37.here hx rfl (hb hby at_259) rfl ((if0 _ _).trans (teq ((lw_eq d2 d1).mpr hd259)).2) k_) ?_
        show Go p.tables e below G (T37.setTop (mkF m 262 #[lv q0, sd, lv q1, sd, lv q2, sd, iv p3, rv b1, iv base, iv base, iv r1', iv r2', lv d1, sd, lv d2, sd, iv (1 : Int32), iv (1 : Int32), iv (0 : Int32), iv (1 : Int32)] []))
        refine Go.stp (fun t_ k_ => XS.iconst X37.here hx rfl (hb hby at_262) k_) ?_
        show Go p.tables e below G (T37.setTop (mkF m 263 #[lv q0, sd, lv q1, sd, lv q2, sd, iv p3, rv b1, iv base, iv base, iv r1', iv r2', lv d1, sd, lv d2, sd, iv (1 : Int32), iv (1 : Int32), iv (0 : Int32), iv (1 : Int32)] [(.int (1 : Int32))]))
        refine Go.stp (fun t_ k_ => XS.goto X37.here hx rfl (pc0 := 263) (pc' := 267) rfl (hb hby at_263) (by decide) (by decide) k_) ?_
        show Go p.tables e below G (T37.setTop (mkF m 267 #[lv q0, sd, lv q1, sd, lv q2, sd, iv p3, rv b1, iv base, iv base, iv r1', iv r2', lv d1, sd, lv d2, sd, iv (1 : Int32), iv (1 : Int32), iv (0 : Int32), iv (1 : Int32)] [(.int (1 : Int32))]))
        refine Go.stp (fun t_ k_ => XS.istore X37.here hx rfl (hb hby at_267) rfl (l' := #[lv q0, sd, lv q1, sd, lv q2, sd, iv p3, rv b1, iv base, iv base, iv r1', iv r2', lv d1, sd, lv d2, sd, iv (1 : Int32), iv (1 : Int32), iv (0 : Int32), iv (1 : Int32)]) rfl k_) ?_
        show Go p.tables e below G (T37.setTop (mkF m 269 #[lv q0, sd, lv q1, sd, lv q2, sd, iv p3, rv b1, iv base, iv base, iv r1', iv r2', lv d1, sd, lv d2, sd, iv (1 : Int32), iv (1 : Int32), iv (0 : Int32), iv (1 : Int32)] []))
        refine Go.stp (fun t_ k_ => XS.iload X37.here hx rfl (hb hby at_269) rfl k_) ?_
        show Go p.tables e below G (T37.setTop (mkF m 271 #[lv q0, sd, lv q1, sd, lv q2, sd, iv p3, rv b1, iv base, iv base, iv r1', iv r2', lv d1, sd, lv d2, sd, iv (1 : Int32), iv (1 : Int32), iv (0 : Int32), iv (1 : Int32)] [(.int (1 : Int32))]))
        obtain ⟨fs, hr, hrun, hended, hW, hsame⟩ := X37.leave (v := some (.int (1 : Int32))) (fun h => by rw [Bd.returns] at h; cases h)
        refine ⟨_, _, retN X37 hx (t := .boolean) Bd.returns (by simp) (hb hby at_271) hr, hrun, hended, hG _ _ _ ?_ ⟨⟨_, rfl⟩, hW, hsame.mono (by decide) (by decide)⟩⟩
        show Q0 Z q0 q1 q2 p3 aP h0 n0 _ T37.heap _
        rw [e37]
        exact ⟨rfl, N37⟩
      · have hC' : ¬ (d1 = d2) := fun q => hC q.symm
        have nn2 : m21 d2 = (-1 : Int32) := by rw [hM2, hm0]; simp [updm, hC, hB]
        have v2 : (if m21 d2 = (-1 : Int32) then (1 : Int32) else (0 : Int32)) = (1 : Int32) := if_pos nn2
        have hB' : q0 ≠ d2 := fun q => hB q.symm
        rw [v1, v2]
        have hM : m26 = updm (updm (updm m0 q0 base) d1 r1') d2 r2' := by rw [hm26, if_pos nn2, hM2]
        have hiba : m26 q0 = base := by rw [hM]; simp [updm, hA', hB', hC']
        have hoba : ∀ y, m26 y = base → y = q0 := by
          intro y hy
          rw [hM, hm0] at hy
          simp only [updm] at hy
          (repeat' split at hy) <;> first | assumption | (exfalso; first | exact n01 hy | exact n02 hy | exact n12 hy | exact n01 hy.symm | exact n02 hy.symm | exact n12 hy.symm | exact k0 hy.symm | exact k1 hy.symm | exact k2 hy.symm)
        have hir1 : m26 d1 = r1' := by rw [hM]; simp [updm, hA', hB', hC']
        have hor1 : ∀ y, m26 y = r1' → y = d1 := by
          intro y hy
          rw [hM, hm0] at hy
          simp only [updm] at hy
          (repeat' split at hy) <;> first | assumption | (exfalso; first | exact n01 hy | exact n02 hy | exact n12 hy | exact n01 hy.symm | exact n02 hy.symm | exact n12 hy.symm | exact k0 hy.symm | exact k1 hy.symm | exact k2 hy.symm)
        have hir2 : m26 d2 = r2' := by rw [hM]; simp [updm, hA', hB', hC']
        have hor2 : ∀ y, m26 y = r2' → y = d2 := by
          intro y hy
          rw [hM, hm0] at hy
          simp only [updm] at hy
          (repeat' split at hy) <;> first | assumption | (exfalso; first | exact n01 hy | exact n02 hy | exact n12 hy | exact n01 hy.symm | exact n02 hy.symm | exact n12 hy.symm | exact k0 hy.symm | exact k1 hy.symm | exact k2 hy.symm)
        show Go p.tables e below G (T26.setTop (mkF m 101 #[lv q0, sd, lv q1, sd, lv q2, sd, iv p3, rv b1, iv base, iv base, iv r1', iv r2', lv d1, sd, lv d2, sd, iv (1 : Int32), iv (1 : Int32), iv (1 : Int32), un] []))
        refine Go.stp (fun t_ k_ => XS.iload X26.here hx rfl (hb hby at_101) rfl k_) ?_
        show Go p.tables e below G (T26.setTop (mkF m 103 #[lv q0, sd, lv q1, sd, lv q2, sd, iv p3, rv b1, iv base, iv base, iv r1', iv r2', lv d1, sd, lv d2, sd, iv (1 : Int32), iv (1 : Int32), iv (1 : Int32), un] [(.int (1 : Int32))]))
        refine Go.stp (fun t_ k_ => XS.ifNo X26.here hx rfl (hb hby at_103) rfl ((if0 _ _).trans (feq (by decide : ¬ ((1 : Int32) = (0 : Int32)))).1) k_) ?_
        show Go p.tables e below G (T26.setTop (mkF m 106 #[lv q0, sd, lv q1, sd, lv q2, sd, iv p3, rv b1, iv base, iv base, iv r1', iv r2', lv d1, sd, lv d2, sd, iv (1 : Int32), iv (1 : Int32), iv (1 : Int32), un] []))
        refine Go.stp (fun t_ k_ => XS.aload X26.here hx rfl (hb hby at_106) rfl rfl k_) ?_
        show Go p.tables e below G (T26.setTop (mkF m 108 #[lv q0, sd, lv q1, sd, lv q2, sd, iv p3, rv b1, iv base, iv base, iv r1', iv r2', lv d1, sd, lv d2, sd, iv (1 : Int32), iv (1 : Int32), iv (1 : Int32), un] [(.ref b1)]))
        refine Go.stp (fun t_ k_ => XS.iload X26.here hx rfl (hb hby at_108) rfl k_) ?_
        show Go p.tables e below G (T26.setTop (mkF m 110 #[lv q0, sd, lv q1, sd, lv q2, sd, iv p3, rv b1, iv base, iv base, iv r1', iv r2', lv d1, sd, lv d2, sd, iv (1 : Int32), iv (1 : Int32), iv (1 : Int32), un] [(.int base), (.ref b1)]))
        obtain ⟨cq38, kq38, q38a, q38b, q38c⟩ := isOf hZ rfl f27
        obtain ⟨_, _, ⟨T38, L38, k38, n38⟩, -, X38, ⟨Lc38, hQ38, l38, y38, z38⟩, st38⟩ := X26.virtualBack hx (y := (⟨"com/example/chatterbench/chatterbench/data/IdIndex", "id", "(I)J"⟩ : MethodName)) (z := (⟨"com/example/chatterbench/chatterbench/data/IdIndex", "id", "(I)J"⟩ : MethodName)) hown (mvT hZ (hw _ (List.mem_of_getElem? (i := 48) rfl))) (mvT hZ (hw _ (List.mem_of_getElem? (i := 49) rfl))) (notFace_of_selects (args := #[]) (mvT hZ (hw _ (List.mem_of_getElem? (i := 51) rfl)))) (mvT hZ (hw _ (List.mem_of_getElem? (i := 51) rfl))) (mvT hZ (hw _ (List.mem_of_getElem? (i := 50) rfl))) (by decide) (backOf (W := 0) (rm8_8 l Z a0 hw [] b1 base ra ia R26 I26 m26 F26 q0 T26.heap n0 Z26 f28 f29 Ja26 Jb26 rp26 hiba hoba k0) hZ (hw _ (List.mem_of_getElem? (i := 52) rfl)) (hw _ (List.mem_of_getElem? (i := 2) rfl)) (by decide) (by decide)) q38a q38c (g := (mkF m 110 #[lv q0, sd, lv q1, sd, lv q2, sd, iv p3, rv b1, iv base, iv base, iv r1', iv r2', lv d1, sd, lv d2, sd, iv (1 : Int32), iv (1 : Int32), iv (1 : Int32), un] [(.int base), (.ref b1)])) rfl (by rw [hml]; rfl) (Steps.refl _) (argsL := [(.int base)]) (rest := []) (lenOf pd_6 rfl) rfl (by show 2 * 0 + _ ≤ _; exact Nat.le_of_eq rfl) (hb hby at_110) (fun _ _ => ⟨rfl, rfl, (by decide : 3 + 0 ≤ _), (by decide : 20 + 0 ≤ _)⟩)
        dsimp only [Pt.U, Pt.locs, Pt.cells, Pt.slots] at X38 l38 y38 z38 st38 hQ38
        subst l38 y38 z38
        obtain ⟨rfl, Nq38, e38⟩ := hQ38
        have N38 := Fr.app N26 Nq38
        refine Go.stp (fun t_ k_ => st38.trans k_) ?_
        show Go p.tables e below G (T38.setTop (mkF m 113 #[lv q0, sd, lv q1, sd, lv q2, sd, iv p3, rv b1, iv base, iv base, iv r1', iv r2', lv d1, sd, lv d2, sd, iv (1 : Int32), iv (1 : Int32), iv (1 : Int32), un] [(.long q0)]))
        refine Go.stp (fun t_ k_ => XS.lloadN X38.here hx rfl (hb hby at_113) rfl k_) ?_
        show Go p.tables e below G (T38.setTop (mkF m 114 #[lv q0, sd, lv q1, sd, lv q2, sd, iv p3, rv b1, iv base, iv base, iv r1', iv r2', lv d1, sd, lv d2, sd, iv (1 : Int32), iv (1 : Int32), iv (1 : Int32), un] [(.long q0), (.long q0)]))
        refine Go.stp (fun t_ k_ => XS.lcmp X38.here hx rfl (hb hby at_114) rfl k_) ?_
        show Go p.tables e below G (T38.setTop (mkF m 115 #[lv q0, sd, lv q1, sd, lv q2, sd, iv p3, rv b1, iv base, iv base, iv r1', iv r2', lv d1, sd, lv d2, sd, iv (1 : Int32), iv (1 : Int32), iv (1 : Int32), un] [(.int (lcmpW q0 q0))]))
        refine Go.stp (fun t_ k_ => XS.ifNo X38.here hx rfl (hb hby at_115) rfl ((if0 _ _).trans (teq ((lw_eq q0 q0).mpr (rfl : q0 = q0))).2) k_) ?_
        show Go p.tables e below G (T38.setTop (mkF m 118 #[lv q0, sd, lv q1, sd, lv q2, sd, iv p3, rv b1, iv base, iv base, iv r1', iv r2', lv d1, sd, lv d2, sd, iv (1 : Int32), iv (1 : Int32), iv (1 : Int32), un] []))
        refine Go.stp (fun t_ k_ => XS.iconst X38.here hx rfl (hb hby at_118) k_) ?_
        show Go p.tables e below G (T38.setTop (mkF m 119 #[lv q0, sd, lv q1, sd, lv q2, sd, iv p3, rv b1, iv base, iv base, iv r1', iv r2', lv d1, sd, lv d2, sd, iv (1 : Int32), iv (1 : Int32), iv (1 : Int32), un] [(.int (1 : Int32))]))
        refine Go.stp (fun t_ k_ => XS.goto X38.here hx rfl (pc0 := 119) (pc' := 123) rfl (hb hby at_119) (by decide) (by decide) k_) ?_
        show Go p.tables e below G (T38.setTop (mkF m 123 #[lv q0, sd, lv q1, sd, lv q2, sd, iv p3, rv b1, iv base, iv base, iv r1', iv r2', lv d1, sd, lv d2, sd, iv (1 : Int32), iv (1 : Int32), iv (1 : Int32), un] [(.int (1 : Int32))]))
        refine Go.stp (fun t_ k_ => XS.istore X38.here hx rfl (hb hby at_123) rfl (l' := #[lv q0, sd, lv q1, sd, lv q2, sd, iv p3, rv b1, iv base, iv base, iv r1', iv r2', lv d1, sd, lv d2, sd, iv (1 : Int32), iv (1 : Int32), iv (1 : Int32), iv (1 : Int32)]) rfl k_) ?_
        show Go p.tables e below G (T38.setTop (mkF m 125 #[lv q0, sd, lv q1, sd, lv q2, sd, iv p3, rv b1, iv base, iv base, iv r1', iv r2', lv d1, sd, lv d2, sd, iv (1 : Int32), iv (1 : Int32), iv (1 : Int32), iv (1 : Int32)] []))
        refine Go.stp (fun t_ k_ => XS.iload X38.here hx rfl (hb hby at_125) rfl k_) ?_
        show Go p.tables e below G (T38.setTop (mkF m 127 #[lv q0, sd, lv q1, sd, lv q2, sd, iv p3, rv b1, iv base, iv base, iv r1', iv r2', lv d1, sd, lv d2, sd, iv (1 : Int32), iv (1 : Int32), iv (1 : Int32), iv (1 : Int32)] [(.int (1 : Int32))]))
        refine Go.stp (fun t_ k_ => XS.ifNo X38.here hx rfl (hb hby at_127) rfl ((if0 _ _).trans (feq (by decide : ¬ ((1 : Int32) = (0 : Int32)))).1) k_) ?_
        show Go p.tables e below G (T38.setTop (mkF m 130 #[lv q0, sd, lv q1, sd, lv q2, sd, iv p3, rv b1, iv base, iv base, iv r1', iv r2', lv d1, sd, lv d2, sd, iv (1 : Int32), iv (1 : Int32), iv (1 : Int32), iv (1 : Int32)] []))
        refine Go.stp (fun t_ k_ => XS.iload X38.here hx rfl (hb hby at_130) rfl k_) ?_
        show Go p.tables e below G (T38.setTop (mkF m 132 #[lv q0, sd, lv q1, sd, lv q2, sd, iv p3, rv b1, iv base, iv base, iv r1', iv r2', lv d1, sd, lv d2, sd, iv (1 : Int32), iv (1 : Int32), iv (1 : Int32), iv (1 : Int32)] [(.int (1 : Int32))]))
        refine Go.stp (fun t_ k_ => XS.ifNo X38.here hx rfl (hb hby at_132) rfl ((if0 _ _).trans (feq (by decide : ¬ ((1 : Int32) = (0 : Int32)))).1) k_) ?_
        show Go p.tables e below G (T38.setTop (mkF m 135 #[lv q0, sd, lv q1, sd, lv q2, sd, iv p3, rv b1, iv base, iv base, iv r1', iv r2', lv d1, sd, lv d2, sd, iv (1 : Int32), iv (1 : Int32), iv (1 : Int32), iv (1 : Int32)] []))
        refine Go.stp (fun t_ k_ => XS.lload X38.here hx rfl (hb hby at_135) rfl k_) ?_
        show Go p.tables e below G (T38.setTop (mkF m 137 #[lv q0, sd, lv q1, sd, lv q2, sd, iv p3, rv b1, iv base, iv base, iv r1', iv r2', lv d1, sd, lv d2, sd, iv (1 : Int32), iv (1 : Int32), iv (1 : Int32), iv (1 : Int32)] [(.long d1)]))
        refine Go.stp (fun t_ k_ => XS.lloadN X38.here hx rfl (hb hby at_137) rfl k_) ?_
        show Go p.tables e below G (T38.setTop (mkF m 138 #[lv q0, sd, lv q1, sd, lv q2, sd, iv p3, rv b1, iv base, iv base, iv r1', iv r2', lv d1, sd, lv d2, sd, iv (1 : Int32), iv (1 : Int32), iv (1 : Int32), iv (1 : Int32)] [(.long q0), (.long d1)]))
        refine Go.stp (fun t_ k_ => XS.lcmp X38.here hx rfl (hb hby at_138) rfl k_) ?_
        show Go p.tables e below G (T38.setTop (mkF m 139 #[lv q0, sd, lv q1, sd, lv q2, sd, iv p3, rv b1, iv base, iv base, iv r1', iv r2', lv d1, sd, lv d2, sd, iv (1 : Int32), iv (1 : Int32), iv (1 : Int32), iv (1 : Int32)] [(.int (lcmpW d1 q0))]))
        have hd139 : ¬ (d1 = q0) := hA
        refine Go.stp (fun t_ k_ => XS.ifNo X38.here hx rfl (hb hby at_139) rfl ((if0 _ _).trans (feq (fun q => hd139 ((lw_eq d1 q0).mp q))).1) k_) ?_
        show Go p.tables e below G (T38.setTop (mkF m 142 #[lv q0, sd, lv q1, sd, lv q2, sd, iv p3, rv b1, iv base, iv base, iv r1', iv r2', lv d1, sd, lv d2, sd, iv (1 : Int32), iv (1 : Int32), iv (1 : Int32), iv (1 : Int32)] []))
        refine Go.stp (fun t_ k_ => XS.aload X38.here hx rfl (hb hby at_142) rfl rfl k_) ?_
        show Go p.tables e below G (T38.setTop (mkF m 144 #[lv q0, sd, lv q1, sd, lv q2, sd, iv p3, rv b1, iv base, iv base, iv r1', iv r2', lv d1, sd, lv d2, sd, iv (1 : Int32), iv (1 : Int32), iv (1 : Int32), iv (1 : Int32)] [(.ref b1)]))
        refine Go.stp (fun t_ k_ => XS.iload X38.here hx rfl (hb hby at_144) rfl k_) ?_
        show Go p.tables e below G (T38.setTop (mkF m 146 #[lv q0, sd, lv q1, sd, lv q2, sd, iv p3, rv b1, iv base, iv base, iv r1', iv r2', lv d1, sd, lv d2, sd, iv (1 : Int32), iv (1 : Int32), iv (1 : Int32), iv (1 : Int32)] [(.int r1'), (.ref b1)]))
        obtain ⟨cq39, kq39, q39a, q39b, q39c⟩ := isOf hZ e38 f27
        obtain ⟨_, _, ⟨T39, L39, k39, n39⟩, -, X39, ⟨Lc39, hQ39, l39, y39, z39⟩, st39⟩ := X38.virtualBack hx (y := (⟨"com/example/chatterbench/chatterbench/data/IdIndex", "id", "(I)J"⟩ : MethodName)) (z := (⟨"com/example/chatterbench/chatterbench/data/IdIndex", "id", "(I)J"⟩ : MethodName)) hown (mvT hZ (hw _ (List.mem_of_getElem? (i := 48) rfl))) (mvT hZ (hw _ (List.mem_of_getElem? (i := 49) rfl))) (notFace_of_selects (args := #[]) (mvT hZ (hw _ (List.mem_of_getElem? (i := 51) rfl)))) (mvT hZ (hw _ (List.mem_of_getElem? (i := 51) rfl))) (mvT hZ (hw _ (List.mem_of_getElem? (i := 50) rfl))) (by decide) (backOf (W := 0) (rm8_8 l Z a0 hw [] b1 r1' ra ia R26 I26 m26 F26 d1 T26.heap n0 Z26 f28 f29 Ja26 Jb26 rp26 hir1 hor1 k1) hZ (hw _ (List.mem_of_getElem? (i := 52) rfl)) (hw _ (List.mem_of_getElem? (i := 2) rfl)) (by decide) (by decide)) q39a q39c (g := (mkF m 146 #[lv q0, sd, lv q1, sd, lv q2, sd, iv p3, rv b1, iv base, iv base, iv r1', iv r2', lv d1, sd, lv d2, sd, iv (1 : Int32), iv (1 : Int32), iv (1 : Int32), iv (1 : Int32)] [(.int r1'), (.ref b1)])) rfl (by rw [hml]; rfl) (Steps.refl _) (argsL := [(.int r1')]) (rest := []) (lenOf pd_6 rfl) rfl (by show 2 * 0 + _ ≤ _; exact Nat.le_of_eq rfl) (hb hby at_146) (fun _ _ => ⟨rfl, e38, (by decide : 3 + 0 ≤ _), (by decide : 20 + 0 ≤ _)⟩)
        dsimp only [Pt.U, Pt.locs, Pt.cells, Pt.slots] at X39 l39 y39 z39 st39 hQ39
        subst l39 y39 z39
        obtain ⟨rfl, Nq39, e39⟩ := hQ39
        have N39 := Fr.app N38 Nq39
        refine Go.stp (fun t_ k_ => st39.trans k_) ?_
        show Go p.tables e below G (T39.setTop (mkF m 149 #[lv q0, sd, lv q1, sd, lv q2, sd, iv p3, rv b1, iv base, iv base, iv r1', iv r2', lv d1, sd, lv d2, sd, iv (1 : Int32), iv (1 : Int32), iv (1 : Int32), iv (1 : Int32)] [(.long d1)]))
        refine Go.stp (fun t_ k_ => XS.lload X39.here hx rfl (hb hby at_149) rfl k_) ?_
        show Go p.tables e below G (T39.setTop (mkF m 151 #[lv q0, sd, lv q1, sd, lv q2, sd, iv p3, rv b1, iv base, iv base, iv r1', iv r2', lv d1, sd, lv d2, sd, iv (1 : Int32), iv (1 : Int32), iv (1 : Int32), iv (1 : Int32)] [(.long d1), (.long d1)]))
        refine Go.stp (fun t_ k_ => XS.lcmp X39.here hx rfl (hb hby at_151) rfl k_) ?_
        show Go p.tables e below G (T39.setTop (mkF m 152 #[lv q0, sd, lv q1, sd, lv q2, sd, iv p3, rv b1, iv base, iv base, iv r1', iv r2', lv d1, sd, lv d2, sd, iv (1 : Int32), iv (1 : Int32), iv (1 : Int32), iv (1 : Int32)] [(.int (lcmpW d1 d1))]))
        refine Go.stp (fun t_ k_ => XS.ifNo X39.here hx rfl (hb hby at_152) rfl ((if0 _ _).trans (teq ((lw_eq d1 d1).mpr (rfl : d1 = d1))).2) k_) ?_
        show Go p.tables e below G (T39.setTop (mkF m 155 #[lv q0, sd, lv q1, sd, lv q2, sd, iv p3, rv b1, iv base, iv base, iv r1', iv r2', lv d1, sd, lv d2, sd, iv (1 : Int32), iv (1 : Int32), iv (1 : Int32), iv (1 : Int32)] []))
        refine Go.stp (fun t_ k_ => XS.iconst X39.here hx rfl (hb hby at_155) k_) ?_
        show Go p.tables e below G (T39.setTop (mkF m 156 #[lv q0, sd, lv q1, sd, lv q2, sd, iv p3, rv b1, iv base, iv base, iv r1', iv r2', lv d1, sd, lv d2, sd, iv (1 : Int32), iv (1 : Int32), iv (1 : Int32), iv (1 : Int32)] [(.int (1 : Int32))]))
        refine Go.stp (fun t_ k_ => XS.goto X39.here hx rfl (pc0 := 156) (pc' := 160) rfl (hb hby at_156) (by decide) (by decide) k_) ?_
        show Go p.tables e below G (T39.setTop (mkF m 160 #[lv q0, sd, lv q1, sd, lv q2, sd, iv p3, rv b1, iv base, iv base, iv r1', iv r2', lv d1, sd, lv d2, sd, iv (1 : Int32), iv (1 : Int32), iv (1 : Int32), iv (1 : Int32)] [(.int (1 : Int32))]))
        refine Go.stp (fun t_ k_ => XS.istore X39.here hx rfl (hb hby at_160) rfl (l' := #[lv q0, sd, lv q1, sd, lv q2, sd, iv p3, rv b1, iv base, iv base, iv r1', iv r2', lv d1, sd, lv d2, sd, iv (1 : Int32), iv (1 : Int32), iv (1 : Int32), iv (1 : Int32)]) rfl k_) ?_
        show Go p.tables e below G (T39.setTop (mkF m 162 #[lv q0, sd, lv q1, sd, lv q2, sd, iv p3, rv b1, iv base, iv base, iv r1', iv r2', lv d1, sd, lv d2, sd, iv (1 : Int32), iv (1 : Int32), iv (1 : Int32), iv (1 : Int32)] []))
        refine Go.stp (fun t_ k_ => XS.goto X39.here hx rfl (pc0 := 162) (pc' := 184) rfl (hb hby at_162) (by decide) (by decide) k_) ?_
        show Go p.tables e below G (T39.setTop (mkF m 184 #[lv q0, sd, lv q1, sd, lv q2, sd, iv p3, rv b1, iv base, iv base, iv r1', iv r2', lv d1, sd, lv d2, sd, iv (1 : Int32), iv (1 : Int32), iv (1 : Int32), iv (1 : Int32)] []))
        refine Go.stp (fun t_ k_ => XS.iload X39.here hx rfl (hb hby at_184) rfl k_) ?_
        show Go p.tables e below G (T39.setTop (mkF m 186 #[lv q0, sd, lv q1, sd, lv q2, sd, iv p3, rv b1, iv base, iv base, iv r1', iv r2', lv d1, sd, lv d2, sd, iv (1 : Int32), iv (1 : Int32), iv (1 : Int32), iv (1 : Int32)] [(.int (1 : Int32))]))
        refine Go.stp (fun t_ k_ => XS.ifNo X39.here hx rfl (hb hby at_186) rfl ((if0 _ _).trans (feq (by decide : ¬ ((1 : Int32) = (0 : Int32)))).1) k_) ?_
        show Go p.tables e below G (T39.setTop (mkF m 189 #[lv q0, sd, lv q1, sd, lv q2, sd, iv p3, rv b1, iv base, iv base, iv r1', iv r2', lv d1, sd, lv d2, sd, iv (1 : Int32), iv (1 : Int32), iv (1 : Int32), iv (1 : Int32)] []))
        refine Go.stp (fun t_ k_ => XS.iload X39.here hx rfl (hb hby at_189) rfl k_) ?_
        show Go p.tables e below G (T39.setTop (mkF m 191 #[lv q0, sd, lv q1, sd, lv q2, sd, iv p3, rv b1, iv base, iv base, iv r1', iv r2', lv d1, sd, lv d2, sd, iv (1 : Int32), iv (1 : Int32), iv (1 : Int32), iv (1 : Int32)] [(.int (1 : Int32))]))
        refine Go.stp (fun t_ k_ => XS.ifNo X39.here hx rfl (hb hby at_191) rfl ((if0 _ _).trans (feq (by decide : ¬ ((1 : Int32) = (0 : Int32)))).1) k_) ?_
        show Go p.tables e below G (T39.setTop (mkF m 194 #[lv q0, sd, lv q1, sd, lv q2, sd, iv p3, rv b1, iv base, iv base, iv r1', iv r2', lv d1, sd, lv d2, sd, iv (1 : Int32), iv (1 : Int32), iv (1 : Int32), iv (1 : Int32)] []))
        refine Go.stp (fun t_ k_ => XS.lload X39.here hx rfl (hb hby at_194) rfl k_) ?_
        show Go p.tables e below G (T39.setTop (mkF m 196 #[lv q0, sd, lv q1, sd, lv q2, sd, iv p3, rv b1, iv base, iv base, iv r1', iv r2', lv d1, sd, lv d2, sd, iv (1 : Int32), iv (1 : Int32), iv (1 : Int32), iv (1 : Int32)] [(.long d2)]))
        refine Go.stp (fun t_ k_ => XS.lloadN X39.here hx rfl (hb hby at_196) rfl k_) ?_
        show Go p.tables e below G (T39.setTop (mkF m 197 #[lv q0, sd, lv q1, sd, lv q2, sd, iv p3, rv b1, iv base, iv base, iv r1', iv r2', lv d1, sd, lv d2, sd, iv (1 : Int32), iv (1 : Int32), iv (1 : Int32), iv (1 : Int32)] [(.long q0), (.long d2)]))
        refine Go.stp (fun t_ k_ => XS.lcmp X39.here hx rfl (hb hby at_197) rfl k_) ?_
        show Go p.tables e below G (T39.setTop (mkF m 198 #[lv q0, sd, lv q1, sd, lv q2, sd, iv p3, rv b1, iv base, iv base, iv r1', iv r2', lv d1, sd, lv d2, sd, iv (1 : Int32), iv (1 : Int32), iv (1 : Int32), iv (1 : Int32)] [(.int (lcmpW d2 q0))]))
        have hd198 : ¬ (d2 = q0) := hB
        refine Go.stp (fun t_ k_ => XS.ifNo X39.here hx rfl (hb hby at_198) rfl ((if0 _ _).trans (feq (fun q => hd198 ((lw_eq d2 q0).mp q))).1) k_) ?_
        show Go p.tables e below G (T39.setTop (mkF m 201 #[lv q0, sd, lv q1, sd, lv q2, sd, iv p3, rv b1, iv base, iv base, iv r1', iv r2', lv d1, sd, lv d2, sd, iv (1 : Int32), iv (1 : Int32), iv (1 : Int32), iv (1 : Int32)] []))
        refine Go.stp (fun t_ k_ => XS.iload X39.here hx rfl (hb hby at_201) rfl k_) ?_
        show Go p.tables e below G (T39.setTop (mkF m 203 #[lv q0, sd, lv q1, sd, lv q2, sd, iv p3, rv b1, iv base, iv base, iv r1', iv r2', lv d1, sd, lv d2, sd, iv (1 : Int32), iv (1 : Int32), iv (1 : Int32), iv (1 : Int32)] [(.int (1 : Int32))]))
        refine Go.stp (fun t_ k_ => XS.ifNo X39.here hx rfl (hb hby at_203) rfl ((if0 _ _).trans (feq (by decide : ¬ ((1 : Int32) = (0 : Int32)))).1) k_) ?_
        show Go p.tables e below G (T39.setTop (mkF m 206 #[lv q0, sd, lv q1, sd, lv q2, sd, iv p3, rv b1, iv base, iv base, iv r1', iv r2', lv d1, sd, lv d2, sd, iv (1 : Int32), iv (1 : Int32), iv (1 : Int32), iv (1 : Int32)] []))
        refine Go.stp (fun t_ k_ => XS.lload X39.here hx rfl (hb hby at_206) rfl k_) ?_
        show Go p.tables e below G (T39.setTop (mkF m 208 #[lv q0, sd, lv q1, sd, lv q2, sd, iv p3, rv b1, iv base, iv base, iv r1', iv r2', lv d1, sd, lv d2, sd, iv (1 : Int32), iv (1 : Int32), iv (1 : Int32), iv (1 : Int32)] [(.long d2)]))
        refine Go.stp (fun t_ k_ => XS.lload X39.here hx rfl (hb hby at_208) rfl k_) ?_
        show Go p.tables e below G (T39.setTop (mkF m 210 #[lv q0, sd, lv q1, sd, lv q2, sd, iv p3, rv b1, iv base, iv base, iv r1', iv r2', lv d1, sd, lv d2, sd, iv (1 : Int32), iv (1 : Int32), iv (1 : Int32), iv (1 : Int32)] [(.long d1), (.long d2)]))
        refine Go.stp (fun t_ k_ => XS.lcmp X39.here hx rfl (hb hby at_210) rfl k_) ?_
        show Go p.tables e below G (T39.setTop (mkF m 211 #[lv q0, sd, lv q1, sd, lv q2, sd, iv p3, rv b1, iv base, iv base, iv r1', iv r2', lv d1, sd, lv d2, sd, iv (1 : Int32), iv (1 : Int32), iv (1 : Int32), iv (1 : Int32)] [(.int (lcmpW d2 d1))]))
        have hd211 : ¬ (d2 = d1) := hC
        refine Go.stp (fun t_ k_ => XS.ifNo X39.here hx rfl (hb hby at_211) rfl ((if0 _ _).trans (feq (fun q => hd211 ((lw_eq d2 d1).mp q))).1) k_) ?_
        show Go p.tables e below G (T39.setTop (mkF m 214 #[lv q0, sd, lv q1, sd, lv q2, sd, iv p3, rv b1, iv base, iv base, iv r1', iv r2', lv d1, sd, lv d2, sd, iv (1 : Int32), iv (1 : Int32), iv (1 : Int32), iv (1 : Int32)] []))
        refine Go.stp (fun t_ k_ => XS.aload X39.here hx rfl (hb hby at_214) rfl rfl k_) ?_
        show Go p.tables e below G (T39.setTop (mkF m 216 #[lv q0, sd, lv q1, sd, lv q2, sd, iv p3, rv b1, iv base, iv base, iv r1', iv r2', lv d1, sd, lv d2, sd, iv (1 : Int32), iv (1 : Int32), iv (1 : Int32), iv (1 : Int32)] [(.ref b1)]))
        refine Go.stp (fun t_ k_ => XS.iload X39.here hx rfl (hb hby at_216) rfl k_) ?_
        show Go p.tables e below G (T39.setTop (mkF m 218 #[lv q0, sd, lv q1, sd, lv q2, sd, iv p3, rv b1, iv base, iv base, iv r1', iv r2', lv d1, sd, lv d2, sd, iv (1 : Int32), iv (1 : Int32), iv (1 : Int32), iv (1 : Int32)] [(.int r2'), (.ref b1)]))
        obtain ⟨cq40, kq40, q40a, q40b, q40c⟩ := isOf hZ e39 f27
        obtain ⟨_, _, ⟨T40, L40, k40, n40⟩, -, X40, ⟨Lc40, hQ40, l40, y40, z40⟩, st40⟩ := X39.virtualBack hx (y := (⟨"com/example/chatterbench/chatterbench/data/IdIndex", "id", "(I)J"⟩ : MethodName)) (z := (⟨"com/example/chatterbench/chatterbench/data/IdIndex", "id", "(I)J"⟩ : MethodName)) hown (mvT hZ (hw _ (List.mem_of_getElem? (i := 48) rfl))) (mvT hZ (hw _ (List.mem_of_getElem? (i := 49) rfl))) (notFace_of_selects (args := #[]) (mvT hZ (hw _ (List.mem_of_getElem? (i := 51) rfl)))) (mvT hZ (hw _ (List.mem_of_getElem? (i := 51) rfl))) (mvT hZ (hw _ (List.mem_of_getElem? (i := 50) rfl))) (by decide) (backOf (W := 0) (rm8_8 l Z a0 hw [] b1 r2' ra ia R26 I26 m26 F26 d2 T26.heap n0 Z26 f28 f29 Ja26 Jb26 rp26 hir2 hor2 k2) hZ (hw _ (List.mem_of_getElem? (i := 52) rfl)) (hw _ (List.mem_of_getElem? (i := 2) rfl)) (by decide) (by decide)) q40a q40c (g := (mkF m 218 #[lv q0, sd, lv q1, sd, lv q2, sd, iv p3, rv b1, iv base, iv base, iv r1', iv r2', lv d1, sd, lv d2, sd, iv (1 : Int32), iv (1 : Int32), iv (1 : Int32), iv (1 : Int32)] [(.int r2'), (.ref b1)])) rfl (by rw [hml]; rfl) (Steps.refl _) (argsL := [(.int r2')]) (rest := []) (lenOf pd_6 rfl) rfl (by show 2 * 0 + _ ≤ _; exact Nat.le_of_eq rfl) (hb hby at_218) (fun _ _ => ⟨rfl, e39, (by decide : 3 + 0 ≤ _), (by decide : 20 + 0 ≤ _)⟩)
        dsimp only [Pt.U, Pt.locs, Pt.cells, Pt.slots] at X40 l40 y40 z40 st40 hQ40
        subst l40 y40 z40
        obtain ⟨rfl, Nq40, e40⟩ := hQ40
        have N40 := Fr.app N39 Nq40
        refine Go.stp (fun t_ k_ => st40.trans k_) ?_
        show Go p.tables e below G (T40.setTop (mkF m 221 #[lv q0, sd, lv q1, sd, lv q2, sd, iv p3, rv b1, iv base, iv base, iv r1', iv r2', lv d1, sd, lv d2, sd, iv (1 : Int32), iv (1 : Int32), iv (1 : Int32), iv (1 : Int32)] [(.long d2)]))
        refine Go.stp (fun t_ k_ => XS.lload X40.here hx rfl (hb hby at_221) rfl k_) ?_
        show Go p.tables e below G (T40.setTop (mkF m 223 #[lv q0, sd, lv q1, sd, lv q2, sd, iv p3, rv b1, iv base, iv base, iv r1', iv r2', lv d1, sd, lv d2, sd, iv (1 : Int32), iv (1 : Int32), iv (1 : Int32), iv (1 : Int32)] [(.long d2), (.long d2)]))
        refine Go.stp (fun t_ k_ => XS.lcmp X40.here hx rfl (hb hby at_223) rfl k_) ?_
        show Go p.tables e below G (T40.setTop (mkF m 224 #[lv q0, sd, lv q1, sd, lv q2, sd, iv p3, rv b1, iv base, iv base, iv r1', iv r2', lv d1, sd, lv d2, sd, iv (1 : Int32), iv (1 : Int32), iv (1 : Int32), iv (1 : Int32)] [(.int (lcmpW d2 d2))]))
        refine Go.stp (fun t_ k_ => XS.ifNo X40.here hx rfl (hb hby at_224) rfl ((if0 _ _).trans (teq ((lw_eq d2 d2).mpr (rfl : d2 = d2))).2) k_) ?_
        show Go p.tables e below G (T40.setTop (mkF m 227 #[lv q0, sd, lv q1, sd, lv q2, sd, iv p3, rv b1, iv base, iv base, iv r1', iv r2', lv d1, sd, lv d2, sd, iv (1 : Int32), iv (1 : Int32), iv (1 : Int32), iv (1 : Int32)] []))
        refine Go.stp (fun t_ k_ => XS.iconst X40.here hx rfl (hb hby at_227) k_) ?_
        show Go p.tables e below G (T40.setTop (mkF m 228 #[lv q0, sd, lv q1, sd, lv q2, sd, iv p3, rv b1, iv base, iv base, iv r1', iv r2', lv d1, sd, lv d2, sd, iv (1 : Int32), iv (1 : Int32), iv (1 : Int32), iv (1 : Int32)] [(.int (1 : Int32))]))
        refine Go.stp (fun t_ k_ => XS.goto X40.here hx rfl (pc0 := 228) (pc' := 232) rfl (hb hby at_228) (by decide) (by decide) k_) ?_
        show Go p.tables e below G (T40.setTop (mkF m 232 #[lv q0, sd, lv q1, sd, lv q2, sd, iv p3, rv b1, iv base, iv base, iv r1', iv r2', lv d1, sd, lv d2, sd, iv (1 : Int32), iv (1 : Int32), iv (1 : Int32), iv (1 : Int32)] [(.int (1 : Int32))]))
        refine Go.stp (fun t_ k_ => XS.istore X40.here hx rfl (hb hby at_232) rfl (l' := #[lv q0, sd, lv q1, sd, lv q2, sd, iv p3, rv b1, iv base, iv base, iv r1', iv r2', lv d1, sd, lv d2, sd, iv (1 : Int32), iv (1 : Int32), iv (1 : Int32), iv (1 : Int32)]) rfl k_) ?_
        show Go p.tables e below G (T40.setTop (mkF m 234 #[lv q0, sd, lv q1, sd, lv q2, sd, iv p3, rv b1, iv base, iv base, iv r1', iv r2', lv d1, sd, lv d2, sd, iv (1 : Int32), iv (1 : Int32), iv (1 : Int32), iv (1 : Int32)] []))
        refine Go.stp (fun t_ k_ => XS.goto X40.here hx rfl (pc0 := 234) (pc' := 269) rfl (hb hby at_234) (by decide) (by decide) k_) ?_
        show Go p.tables e below G (T40.setTop (mkF m 269 #[lv q0, sd, lv q1, sd, lv q2, sd, iv p3, rv b1, iv base, iv base, iv r1', iv r2', lv d1, sd, lv d2, sd, iv (1 : Int32), iv (1 : Int32), iv (1 : Int32), iv (1 : Int32)] []))
        refine Go.stp (fun t_ k_ => XS.iload X40.here hx rfl (hb hby at_269) rfl k_) ?_
        show Go p.tables e below G (T40.setTop (mkF m 271 #[lv q0, sd, lv q1, sd, lv q2, sd, iv p3, rv b1, iv base, iv base, iv r1', iv r2', lv d1, sd, lv d2, sd, iv (1 : Int32), iv (1 : Int32), iv (1 : Int32), iv (1 : Int32)] [(.int (1 : Int32))]))
        obtain ⟨fs, hr, hrun, hended, hW, hsame⟩ := X40.leave (v := some (.int (1 : Int32))) (fun h => by rw [Bd.returns] at h; cases h)
        refine ⟨_, _, retN X40 hx (t := .boolean) Bd.returns (by simp) (hb hby at_271) hr, hrun, hended, hG _ _ _ ?_ ⟨⟨_, rfl⟩, hW, hsame.mono (by decide) (by decide)⟩⟩
        show Q0 Z q0 q1 q2 p3 aP h0 n0 _ T40.heap _
        rw [e40]
        exact ⟨rfl, N40⟩
set_option maxRecDepth 65536 in
set_option maxHeartbeats 40000000 in
theorem comes_1 {Post : Tables → Env → Array Value → State → Outcome → State → Prop} (hpost : ∀ tb e args s v u, (limb_1_1.after args s (.returned v) u = true ∧ limb_1_2.after args s (.returned v) u = true ∧ True) → FrameEnd s (.returned v) u (Jvm.fieldLocs frame_1_writes args s ++ Jvm.arrayLocs frame_1_arrays args s ++ Jvm.staticLocs frame_1_statics s) 16 128 → Post tb e args s (.returned v) u) :
    ArmFor flags0 classFile x code maxLocals ret World_1 tables_1 room_1 Calls_1 rest_1 Pre_1 Post := by
  intro l hfl _ _ p e ha hc hk s m args below hf hA hF happ hP
  obtain ⟨hcalls, hrest, hpre⟩ := hP
  obtain ⟨-, -, -, hnamed, -, -, -, hat⟩ := (Spec.applies_iff hf).mp happ
  obtain ⟨hg, hn⟩ := and_e (Cond.before_iff.mp (show (Jvm.Cond.and given_1 narrow_1).before args s = true from hpre))
  obtain ⟨g1a, g1b⟩ := and_e hg
  obtain ⟨g2a, g2b⟩ := and_e g1b
  obtain ⟨g3a, g3b⟩ := and_e g2b
  obtain ⟨g4a, g4b⟩ := and_e g3b
  obtain ⟨w0, w1, w2, w3, rfl⟩ : ∃ w0 w1 w2 w3 : Value, args = #[w0, w1, w2, w3] := by
    have hs : args.size = 4 := by simpa [Cond.value, given_1] using g1a
    obtain ⟨L⟩ := args
    match L, hs with
    | [w0, w1, w2, w3], _ => exact ⟨w0, w1, w2, w3, rfl⟩
  have hw := fun d (hd : d ∈ tables_1) => atoms_spec (ws := Jvm.Cond.code x code maxLocals ret :: tables_1) hat d (List.mem_cons_of_mem _ hd)
  have hfit : Fit s := fun {y c} hc i hi => by
    obtain ⟨ha, rfl⟩ := Array.getElem?_eq_some_iff.mp hc
    have q := List.all_eq_true.mp ((Array.all_eq_true_iff_forall_mem.mp hF) _ (Array.getElem_mem ha)) i (List.mem_range.mpr hi)
    simpa [Array.getElem?_eq_getElem hi] using q
  obtain ⟨i0, ei0⟩ := isL_v g2a
  obtain rfl : w0 = (.long i0) := Option.some.inj ei0
  obtain ⟨i1, ei1⟩ := isL_v g3a
  obtain rfl : w1 = (.long i1) := Option.some.inj ei1
  obtain ⟨i2, ei2⟩ := isL_v g4a
  obtain rfl : w2 = (.long i2) := Option.some.inj ei2
  obtain ⟨i3, ei3⟩ := is_v g4b
  obtain rfl : w3 = (.int i3) := Option.some.inj ei3
  obtain ⟨aP, evP⟩ := exa_v hn
  have S_aP : Sta s s.heap "com/example/chatterbench/chatterbench/data/Entity" "PERSON" "Lcom/example/chatterbench/chatterbench/data/Entity;" (.ref aP) := Sta.start evP (Or.inr ⟨(hw _ (List.mem_of_getElem? (i := 4) rfl)), (hw _ (List.mem_of_getElem? (i := 5) rfl))⟩)
  obtain ⟨n, o, h1, h2, h3, _, L, rfl, ⟨rfl, N⟩, hq⟩ := rm0 l s _ hw tables_1 i0 i1 i2 i3 aP s.heap s.heap.size (Nat.le_refl _) S_aP p e ha hc hk s m _ below hf ((Spec.applies_iff_loose hf).mp happ).1 ⟨rfl, State.Warmed39.refl s, rfl⟩ trivial
  refine ⟨n, _, h1, h2, h3, hpost _ _ _ _ _ _ ⟨Cond.after_iff.mpr rfl, Cond.after_iff.mpr (eq_i res_at (Term.int_eval (1)) rfl), trivial⟩ ⟨hq.1, hq.2.1, (hq.2.2.sift fun y hy => Or.inr (N y hy)).mono (by decide) (by decide)⟩⟩
theorem main_1_1 : Claimed_1_1 := comes_1 fun _ _ _ _ _ _ h hF => ⟨h.1, hF⟩
theorem main_1_2 : Claimed_1_2 := comes_1 fun _ _ _ _ _ _ h hF => ⟨h.2.1, hF⟩
end Jvm.Pilot.@@N@@
namespace Jvm.Pilot.@@N@@
open Jvm Jvm.ClassFile Sem Op Lib Jvm.Free Jvm.Stand Jvm.Pilot.@@N@@.Jvm.D
/-! MADE BY PROGRAM (witnessworld.py) out of the Statement's table words and the real class files: 20 classes; the members and pool entries that the words name. The judged class is class 1, her method 1. -/
namespace start1
open Jvm.ClassFile
def u (s : String) : CpInfo := .utf8 (stringToUtf16 s)
/-- a pool by its gaps: so many unusable entries, then the entry; so many at the end -/
def gap : Nat → List CpInfo → List CpInfo
  | 0, r => r
  | n + 1, r => .unusable :: gap n r
def poolList (es : List (Nat × CpInfo)) (last : Nat) : List CpInfo := es.foldr (fun e r => gap e.1 (e.2 :: r)) (gap last [])
def pool (es : List (Nat × CpInfo)) (last : Nat) : Array CpInfo := ⟨poolList es last⟩
def fileOf (pool : Array CpInfo) (this : Nat) (attrs : Array Attribute := #[]) (ms : Array MethodInfo := #[]) (fl : Nat := 33) (sup : Nat := 0) (ifs : Array Nat := #[]) (fds : Array FieldInfo := #[]) : ClassFile where
  minorVersion := 0
  majorVersion := 65
  constantPool := pool
  accessFlags := fl
  thisClass := this
  superClass := sup
  interfaces := ifs
  fields := fds
  methods := ms
  attributes := attrs
def plain (name : String) (sup : Option ClassId) : Class where
  name := name
  kind := .ordinary
  loader := none
  accessFlags := 33
  super := sup
  interfaces := #[]
  cf := none
  fields := #[]
  methods := #[]
  instanceTypes := #[]
  staticTypes := #[]
  resolved := #[]
  callSites := []
  init := .initialized
  statics := none
  mirror := none

def pool0 : Array CpInfo := pool [(5, u "<init>"), (0, u "()V"), (1, .class_ 10), (1, u "java/lang/Object")] 113

def k0c0 : Code := { maxStack := 0, maxLocals := 1, code := object_method_1_code, exceptionTable := #[], attributes := #[] }
def k0m0 : Method := { name := "<init>", desc := "()V", sig := { parameters := [], returnType := none }, accessFlags := 1, code := some k0c0 }
/-- java/lang/Object -/
def k0 : Class := { plain "java/lang/Object" none with
  accessFlags := 33
  interfaces := #[]
  cf := some (fileOf pool0 8 #[] #[{ accessFlags := 1, nameIndex := 5, descriptorIndex := 6, attributes := #[] }] 33 0 #[] #[])
  fields := #[]
  methods := #[k0m0]
  instanceTypes := #[]
  staticTypes := #[]
  resolved := Array.replicate 124 none
  statics := none }

def pool1 : Array CpInfo := pool [(2, .class_ 4), (1, u "java/lang/Object"), (0, u "<init>"), (0, u "()V"), (0, .class_ 8), (0, u "com/example/chatterbench/chatterbench/data/IdIndex"), (0, .fieldref 10 11), (0, .class_ 12), (0, .nameAndType 13 14), (0, u "com/example/chatterbench/chatterbench/data/Entity"), (0, u "PERSON"), (0, u "Lcom/example/chatterbench/chatterbench/data/Entity;"), (0, .methodref 7 16), (0, .nameAndType 5 17), (0, u "(Lcom/example/chatterbench/chatterbench/data/Entity;I)V"), (0, .integer 536870911), (0, .integer 536870912), (0, .integer 1073741824), (0, .methodref 7 22), (0, .nameAndType 23 24), (0, u "add"), (0, u "(JI)Z"), (0, .methodref 7 26), (0, .nameAndType 27 28), (0, u "id"), (0, u "(I)J"), (0, .class_ 30), (0, u "com/example/chatterbench/chatterbench/data/IdIndexIdPinLaw"), (2, u "law"), (0, u "(JJJI)Z")] 3

def k1m0 : Method := { name := "<init>", desc := "()V", sig := { parameters := [], returnType := none }, accessFlags := 1, code := none }
def k1c1 : Code := { maxStack := 4, maxLocals := 20, code := code, exceptionTable := #[], attributes := #[] }
def k1m1 : Method := { name := "law", desc := "(JJJI)Z", sig := { parameters := [.long, .long, .long, .int], returnType := some .boolean }, accessFlags := 9, code := some k1c1 }
/-- com/example/chatterbench/chatterbench/data/IdIndexIdPinLaw -/
def k1 : Class := { plain "com/example/chatterbench/chatterbench/data/IdIndexIdPinLaw" (some 0) with
  accessFlags := 49
  interfaces := #[]
  cf := some (fileOf pool1 29 #[] #[{ accessFlags := 1, nameIndex := 5, descriptorIndex := 6, attributes := #[] }, { accessFlags := 9, nameIndex := 33, descriptorIndex := 34, attributes := #[] }] 49 2 #[] #[])
  fields := #[]
  methods := #[k1m0, k1m1]
  instanceTypes := #[]
  staticTypes := #[]
  resolved := Array.replicate 38 none
  statics := none }

def pool2 : Array CpInfo := pool [(1, .methodref 2 3), (0, .class_ 4), (0, .nameAndType 5 6), (0, u "java/lang/Object"), (0, u "<init>"), (0, u "()V"), (0, .fieldref 8 9), (0, .class_ 10), (0, .nameAndType 11 12), (0, u "com/example/chatterbench/chatterbench/data/IdIndex"), (0, u "entity"), (0, u "Lcom/example/chatterbench/chatterbench/data/Entity;"), (0, .class_ 14), (0, u "java/lang/Integer"), (0, .methodref 16 17), (0, .class_ 18), (0, .nameAndType 19 20), (0, u "java/lang/Math"), (0, u "max"), (0, u "(II)I"), (0, .methodref 13 22), (0, .nameAndType 23 24), (0, u "numberOfLeadingZeros"), (0, u "(I)I"), (0, .fieldref 8 26), (0, .nameAndType 27 28), (0, u "ids"), (0, u "[J"), (0, .fieldref 8 30), (0, .nameAndType 31 32), (0, u "rows"), (0, u "[I"), (0, .methodref 34 35), (0, .class_ 36), (0, .nameAndType 37 38), (0, u "java/util/Arrays"), (0, u "fill"), (0, u "([II)V"), (2, .fieldref 8 42), (0, .nameAndType 43 44), (0, u "shift"), (0, u "I"), (8, u "(Lcom/example/chatterbench/chatterbench/data/Entity;I)V"), (3, u "(I)J"), (2, u "add"), (0, u "(JI)Z"), (1, u "id"), (10, .methodref 8 75), (0, .nameAndType 76 77), (0, u "slot"), (0, u "(J)I"), (22, .long 11400714819323198485), (1, u "NO_ROW"), (2, u "SPREAD"), (0, u "J")] 32

def k2c0 : Code := { maxStack := 4, maxLocals := 4, code := prog_10_method_1_code, exceptionTable := #[], attributes := #[] }
def k2m0 : Method := { name := "<init>", desc := "(Lcom/example/chatterbench/chatterbench/data/Entity;I)V", sig := { parameters := [(.object "com/example/chatterbench/chatterbench/data/Entity"), .int], returnType := none }, accessFlags := 0, code := some k2c0 }
def k2c1 : Code := { maxStack := 4, maxLocals := 6, code := prog_10_method_3_code, exceptionTable := #[], attributes := #[] }
def k2m1 : Method := { name := "add", desc := "(JI)Z", sig := { parameters := [.long, .int], returnType := some .boolean }, accessFlags := 0, code := some k2c1 }
def k2c2 : Code := { maxStack := 4, maxLocals := 3, code := prog_10_method_5_code, exceptionTable := #[], attributes := #[] }
def k2m2 : Method := { name := "id", desc := "(I)J", sig := { parameters := [.int], returnType := some .long }, accessFlags := 0, code := some k2c2 }
def k2c3 : Code := { maxStack := 4, maxLocals := 4, code := prog_10_method_7_code, exceptionTable := #[], attributes := #[] }
def k2m3 : Method := { name := "slot", desc := "(J)I", sig := { parameters := [.long], returnType := some .int }, accessFlags := 2, code := some k2c3 }
/-- com/example/chatterbench/chatterbench/data/IdIndex -/
def k2 : Class := { plain "com/example/chatterbench/chatterbench/data/IdIndex" (some 0) with
  accessFlags := 49
  interfaces := #[]
  cf := some (fileOf pool2 8 #[] #[{ accessFlags := 0, nameIndex := 5, descriptorIndex := 53, attributes := #[] }, { accessFlags := 0, nameIndex := 60, descriptorIndex := 61, attributes := #[] }, { accessFlags := 0, nameIndex := 63, descriptorIndex := 57, attributes := #[] }, { accessFlags := 2, nameIndex := 76, descriptorIndex := 77, attributes := #[] }] 49 2 #[] #[{ accessFlags := 25, nameIndex := 102, descriptorIndex := 44, attributes := #[] }, { accessFlags := 26, nameIndex := 105, descriptorIndex := 106, attributes := #[] }, { accessFlags := 18, nameIndex := 11, descriptorIndex := 12, attributes := #[] }, { accessFlags := 18, nameIndex := 27, descriptorIndex := 28, attributes := #[] }, { accessFlags := 18, nameIndex := 31, descriptorIndex := 32, attributes := #[] }, { accessFlags := 18, nameIndex := 43, descriptorIndex := 44, attributes := #[] }])
  fields := #[{ name := "NO_ROW", type := .int, accessFlags := 25, slot := 0, constantValue := 0 }, { name := "SPREAD", type := .long, accessFlags := 26, slot := 1, constantValue := 0 }, { name := "entity", type := (.object "com/example/chatterbench/chatterbench/data/Entity"), accessFlags := 18, slot := 0, constantValue := 0 }, { name := "ids", type := (.array .long), accessFlags := 18, slot := 1, constantValue := 0 }, { name := "rows", type := (.array .int), accessFlags := 18, slot := 2, constantValue := 0 }, { name := "shift", type := .int, accessFlags := 18, slot := 3, constantValue := 0 }]
  methods := #[k2m0, k2m1, k2m2, k2m3]
  instanceTypes := #[(.object "com/example/chatterbench/chatterbench/data/Entity"), (.array .long), (.array .int), .int]
  staticTypes := #[.int, .long]
  resolved := Array.replicate 139 none
  statics := none }

def pool3 : Array CpInfo := pool [(1, .class_ 2), (0, u "java/lang/constant/Constable"), (0, .class_ 4), (0, u "java/lang/Object")] 6

/-- java/lang/constant/Constable -/
def k3 : Class := { plain "java/lang/constant/Constable" (some 0) with
  accessFlags := 1537
  interfaces := #[]
  cf := some (fileOf pool3 1 #[] #[] 1537 3 #[] #[])
  fields := #[]
  methods := #[]
  instanceTypes := #[]
  staticTypes := #[]
  resolved := Array.replicate 11 none
  statics := none }

def pool4 : Array CpInfo := pool [(1, .class_ 2), (0, u "java/lang/Comparable"), (0, .class_ 4), (0, u "java/lang/Object")] 7

/-- java/lang/Comparable -/
def k4 : Class := { plain "java/lang/Comparable" (some 0) with
  accessFlags := 1537
  interfaces := #[]
  cf := some (fileOf pool4 1 #[] #[] 1537 3 #[] #[])
  fields := #[]
  methods := #[]
  instanceTypes := #[]
  staticTypes := #[]
  resolved := Array.replicate 12 none
  statics := none }

def pool5 : Array CpInfo := pool [(1, .class_ 2), (0, u "java/io/Serializable"), (0, .class_ 4), (0, u "java/lang/Object")] 2

/-- java/io/Serializable -/
def k5 : Class := { plain "java/io/Serializable" (some 0) with
  accessFlags := 1537
  interfaces := #[]
  cf := some (fileOf pool5 1 #[] #[] 1537 3 #[] #[])
  fields := #[]
  methods := #[]
  instanceTypes := #[]
  staticTypes := #[]
  resolved := Array.replicate 7 none
  statics := none }

def pool6 : Array CpInfo := pool [(2, .class_ 4), (1, u "java/lang/Enum"), (0, u "name"), (0, u "Ljava/lang/String;"), (2, u "ordinal"), (0, u "I"), (1, .class_ 14), (1, u "java/lang/Object"), (4, u "hash"), (86, .class_ 108), (1, u "java/lang/Enum$EnumDesc"), (2, .class_ 112), (0, u "java/lang/constant/Constable"), (0, .class_ 114), (0, u "java/lang/Comparable"), (0, .class_ 116), (0, u "java/io/Serializable")] 87

/-- java/lang/Enum -/
def k6 : Class := { plain "java/lang/Enum" (some 0) with
  accessFlags := 1057
  interfaces := #[3, 4, 5]
  cf := some (fileOf pool6 2 #[.nestMembers #[106]] #[] 1057 12 #[111, 113, 115] #[{ accessFlags := 18, nameIndex := 5, descriptorIndex := 6, attributes := #[] }, { accessFlags := 18, nameIndex := 9, descriptorIndex := 10, attributes := #[] }, { accessFlags := 2, nameIndex := 19, descriptorIndex := 10, attributes := #[] }])
  fields := #[{ name := "name", type := (.object "java/lang/String"), accessFlags := 18, slot := 0, constantValue := 0 }, { name := "ordinal", type := .int, accessFlags := 18, slot := 1, constantValue := 0 }, { name := "hash", type := .int, accessFlags := 2, slot := 2, constantValue := 0 }]
  methods := #[]
  instanceTypes := #[(.object "java/lang/String"), .int, .int]
  staticTypes := #[]
  resolved := Array.replicate 204 none
  statics := none }

def pool7 : Array CpInfo := pool [(1, .class_ 2), (0, u "com/example/chatterbench/chatterbench/data/Entity"), (2, u "ORGANISATION"), (0, u "Lcom/example/chatterbench/chatterbench/data/Entity;"), (2, u "PLACE"), (2, u "TAG"), (2, u "TAG_CLASS"), (2, u "COMMENT"), (2, u "COMMENT_HAS_TAG_TAG"), (2, u "FORUM"), (2, u "FORUM_HAS_MEMBER_PERSON"), (2, u "FORUM_HAS_TAG_TAG"), (2, u "PERSON"), (2, u "PERSON_HAS_INTEREST_TAG"), (2, u "PERSON_KNOWS_PERSON"), (2, u "PERSON_LIKES_COMMENT"), (2, u "PERSON_LIKES_POST"), (2, u "PERSON_STUDY_AT_UNIVERSITY"), (2, u "PERSON_WORK_AT_COMPANY"), (2, u "POST"), (2, u "POST_HAS_TAG_TAG"), (2, u "$VALUES"), (0, u "[Lcom/example/chatterbench/chatterbench/data/Entity;"), (6, .class_ 70), (1, u "java/lang/Enum"), (8, u "part"), (0, u "Lcom/example/chatterbench/chatterbench/data/Entity$Part;"), (2, u "folderName"), (0, u "Ljava/lang/String;"), (1, .class_ 88), (1, u "com/example/chatterbench/chatterbench/data/Entity$Part"), (7, u "relativePath"), (8, u "columns"), (0, u "Ljava/util/List;"), (234, u "SNAPSHOT_FOLDER")] 52

/-- com/example/chatterbench/chatterbench/data/Entity -/
def k7 : Class := { plain "com/example/chatterbench/chatterbench/data/Entity" (some 6) with
  accessFlags := 16433
  interfaces := #[]
  cf := some (fileOf pool7 1 #[.nestMembers #[86]] #[] 16433 68 #[] #[{ accessFlags := 16409, nameIndex := 5, descriptorIndex := 6, attributes := #[] }, { accessFlags := 16409, nameIndex := 9, descriptorIndex := 6, attributes := #[] }, { accessFlags := 16409, nameIndex := 12, descriptorIndex := 6, attributes := #[] }, { accessFlags := 16409, nameIndex := 15, descriptorIndex := 6, attributes := #[] }, { accessFlags := 16409, nameIndex := 18, descriptorIndex := 6, attributes := #[] }, { accessFlags := 16409, nameIndex := 21, descriptorIndex := 6, attributes := #[] }, { accessFlags := 16409, nameIndex := 24, descriptorIndex := 6, attributes := #[] }, { accessFlags := 16409, nameIndex := 27, descriptorIndex := 6, attributes := #[] }, { accessFlags := 16409, nameIndex := 30, descriptorIndex := 6, attributes := #[] }, { accessFlags := 16409, nameIndex := 33, descriptorIndex := 6, attributes := #[] }, { accessFlags := 16409, nameIndex := 36, descriptorIndex := 6, attributes := #[] }, { accessFlags := 16409, nameIndex := 39, descriptorIndex := 6, attributes := #[] }, { accessFlags := 16409, nameIndex := 42, descriptorIndex := 6, attributes := #[] }, { accessFlags := 16409, nameIndex := 45, descriptorIndex := 6, attributes := #[] }, { accessFlags := 16409, nameIndex := 48, descriptorIndex := 6, attributes := #[] }, { accessFlags := 16409, nameIndex := 51, descriptorIndex := 6, attributes := #[] }, { accessFlags := 16409, nameIndex := 54, descriptorIndex := 6, attributes := #[] }, { accessFlags := 16409, nameIndex := 57, descriptorIndex := 6, attributes := #[] }, { accessFlags := 24, nameIndex := 341, descriptorIndex := 84, attributes := #[] }, { accessFlags := 18, nameIndex := 79, descriptorIndex := 80, attributes := #[] }, { accessFlags := 18, nameIndex := 83, descriptorIndex := 84, attributes := #[] }, { accessFlags := 18, nameIndex := 96, descriptorIndex := 84, attributes := #[] }, { accessFlags := 18, nameIndex := 105, descriptorIndex := 106, attributes := #[] }, { accessFlags := 4122, nameIndex := 60, descriptorIndex := 61, attributes := #[] }])
  fields := #[{ name := "ORGANISATION", type := (.object "com/example/chatterbench/chatterbench/data/Entity"), accessFlags := 16409, slot := 0, constantValue := 0 }, { name := "PLACE", type := (.object "com/example/chatterbench/chatterbench/data/Entity"), accessFlags := 16409, slot := 1, constantValue := 0 }, { name := "TAG", type := (.object "com/example/chatterbench/chatterbench/data/Entity"), accessFlags := 16409, slot := 2, constantValue := 0 }, { name := "TAG_CLASS", type := (.object "com/example/chatterbench/chatterbench/data/Entity"), accessFlags := 16409, slot := 3, constantValue := 0 }, { name := "COMMENT", type := (.object "com/example/chatterbench/chatterbench/data/Entity"), accessFlags := 16409, slot := 4, constantValue := 0 }, { name := "COMMENT_HAS_TAG_TAG", type := (.object "com/example/chatterbench/chatterbench/data/Entity"), accessFlags := 16409, slot := 5, constantValue := 0 }, { name := "FORUM", type := (.object "com/example/chatterbench/chatterbench/data/Entity"), accessFlags := 16409, slot := 6, constantValue := 0 }, { name := "FORUM_HAS_MEMBER_PERSON", type := (.object "com/example/chatterbench/chatterbench/data/Entity"), accessFlags := 16409, slot := 7, constantValue := 0 }, { name := "FORUM_HAS_TAG_TAG", type := (.object "com/example/chatterbench/chatterbench/data/Entity"), accessFlags := 16409, slot := 8, constantValue := 0 }, { name := "PERSON", type := (.object "com/example/chatterbench/chatterbench/data/Entity"), accessFlags := 16409, slot := 9, constantValue := 0 }, { name := "PERSON_HAS_INTEREST_TAG", type := (.object "com/example/chatterbench/chatterbench/data/Entity"), accessFlags := 16409, slot := 10, constantValue := 0 }, { name := "PERSON_KNOWS_PERSON", type := (.object "com/example/chatterbench/chatterbench/data/Entity"), accessFlags := 16409, slot := 11, constantValue := 0 }, { name := "PERSON_LIKES_COMMENT", type := (.object "com/example/chatterbench/chatterbench/data/Entity"), accessFlags := 16409, slot := 12, constantValue := 0 }, { name := "PERSON_LIKES_POST", type := (.object "com/example/chatterbench/chatterbench/data/Entity"), accessFlags := 16409, slot := 13, constantValue := 0 }, { name := "PERSON_STUDY_AT_UNIVERSITY", type := (.object "com/example/chatterbench/chatterbench/data/Entity"), accessFlags := 16409, slot := 14, constantValue := 0 }, { name := "PERSON_WORK_AT_COMPANY", type := (.object "com/example/chatterbench/chatterbench/data/Entity"), accessFlags := 16409, slot := 15, constantValue := 0 }, { name := "POST", type := (.object "com/example/chatterbench/chatterbench/data/Entity"), accessFlags := 16409, slot := 16, constantValue := 0 }, { name := "POST_HAS_TAG_TAG", type := (.object "com/example/chatterbench/chatterbench/data/Entity"), accessFlags := 16409, slot := 17, constantValue := 0 }, { name := "SNAPSHOT_FOLDER", type := (.object "java/lang/String"), accessFlags := 24, slot := 18, constantValue := 0 }, { name := "part", type := (.object "com/example/chatterbench/chatterbench/data/Entity$Part"), accessFlags := 18, slot := 3, constantValue := 0 }, { name := "folderName", type := (.object "java/lang/String"), accessFlags := 18, slot := 4, constantValue := 0 }, { name := "relativePath", type := (.object "java/lang/String"), accessFlags := 18, slot := 5, constantValue := 0 }, { name := "columns", type := (.object "java/util/List"), accessFlags := 18, slot := 6, constantValue := 0 }, { name := "$VALUES", type := (.array (.object "com/example/chatterbench/chatterbench/data/Entity")), accessFlags := 4122, slot := 19, constantValue := 0 }]
  methods := #[]
  instanceTypes := #[(.object "java/lang/String"), .int, .int, (.object "com/example/chatterbench/chatterbench/data/Entity$Part"), (.object "java/lang/String"), (.object "java/lang/String"), (.object "java/util/List")]
  staticTypes := #[(.object "com/example/chatterbench/chatterbench/data/Entity"), (.object "com/example/chatterbench/chatterbench/data/Entity"), (.object "com/example/chatterbench/chatterbench/data/Entity"), (.object "com/example/chatterbench/chatterbench/data/Entity"), (.object "com/example/chatterbench/chatterbench/data/Entity"), (.object "com/example/chatterbench/chatterbench/data/Entity"), (.object "com/example/chatterbench/chatterbench/data/Entity"), (.object "com/example/chatterbench/chatterbench/data/Entity"), (.object "com/example/chatterbench/chatterbench/data/Entity"), (.object "com/example/chatterbench/chatterbench/data/Entity"), (.object "com/example/chatterbench/chatterbench/data/Entity"), (.object "com/example/chatterbench/chatterbench/data/Entity"), (.object "com/example/chatterbench/chatterbench/data/Entity"), (.object "com/example/chatterbench/chatterbench/data/Entity"), (.object "com/example/chatterbench/chatterbench/data/Entity"), (.object "com/example/chatterbench/chatterbench/data/Entity"), (.object "com/example/chatterbench/chatterbench/data/Entity"), (.object "com/example/chatterbench/chatterbench/data/Entity"), (.object "java/lang/String"), (.array (.object "com/example/chatterbench/chatterbench/data/Entity"))]
  resolved := Array.replicate 394 none
  statics := some 0 }

def pool8 : Array CpInfo := pool [(1, .class_ 2), (0, u "java/lang/Math"), (1, .class_ 6), (1, u "java/lang/Object"), (0, u "<init>"), (0, u "()V"), (89, .class_ 100), (1, u "java/lang/Math$RandomNumberGeneratorHolder"), (71, u "negativeZeroFloatBits"), (0, u "J"), (2, u "negativeZeroDoubleBits"), (21, u "max"), (46, u "$assertionsDisabled"), (0, u "Z"), (88, u "(II)I"), (2, u "twoToTheDoubleScaleDown"), (0, u "D"), (4, u "twoToTheDoubleScaleUp"), (9, u "E"), (3, u "PI"), (2, u "TAU"), (2, u "DEGREES_TO_RADIANS"), (0, u "RADIANS_TO_DEGREES")] 94

def k8m0 : Method := { name := "<init>", desc := "()V", sig := { parameters := [], returnType := none }, accessFlags := 2, code := none }
def k8c1 : Code := { maxStack := 2, maxLocals := 2, code := jdk_29_method_65_code, exceptionTable := #[], attributes := #[] }
def k8m1 : Method := { name := "max", desc := "(II)I", sig := { parameters := [.int, .int], returnType := some .int }, accessFlags := 9, code := some k8c1 }
/-- java/lang/Math -/
def k8 : Class := { plain "java/lang/Math" (some 0) with
  accessFlags := 49
  interfaces := #[]
  cf := some (fileOf pool8 1 #[.nestMembers #[98]] #[{ accessFlags := 2, nameIndex := 7, descriptorIndex := 8, attributes := #[] }, { accessFlags := 9, nameIndex := 198, descriptorIndex := 335, attributes := #[] }] 49 4 #[] #[{ accessFlags := 25, nameIndex := 354, descriptorIndex := 339, attributes := #[] }, { accessFlags := 25, nameIndex := 358, descriptorIndex := 339, attributes := #[] }, { accessFlags := 25, nameIndex := 361, descriptorIndex := 339, attributes := #[] }, { accessFlags := 26, nameIndex := 364, descriptorIndex := 339, attributes := #[] }, { accessFlags := 26, nameIndex := 365, descriptorIndex := 339, attributes := #[] }, { accessFlags := 26, nameIndex := 172, descriptorIndex := 173, attributes := #[] }, { accessFlags := 26, nameIndex := 176, descriptorIndex := 173, attributes := #[] }, { accessFlags := 8, nameIndex := 344, descriptorIndex := 339, attributes := #[] }, { accessFlags := 8, nameIndex := 338, descriptorIndex := 339, attributes := #[] }, { accessFlags := 4120, nameIndex := 245, descriptorIndex := 246, attributes := #[] }])
  fields := #[{ name := "E", type := .double, accessFlags := 25, slot := 0, constantValue := 0 }, { name := "PI", type := .double, accessFlags := 25, slot := 1, constantValue := 0 }, { name := "TAU", type := .double, accessFlags := 25, slot := 2, constantValue := 0 }, { name := "DEGREES_TO_RADIANS", type := .double, accessFlags := 26, slot := 3, constantValue := 0 }, { name := "RADIANS_TO_DEGREES", type := .double, accessFlags := 26, slot := 4, constantValue := 0 }, { name := "negativeZeroFloatBits", type := .long, accessFlags := 26, slot := 5, constantValue := 0 }, { name := "negativeZeroDoubleBits", type := .long, accessFlags := 26, slot := 6, constantValue := 0 }, { name := "twoToTheDoubleScaleUp", type := .double, accessFlags := 8, slot := 7, constantValue := 0 }, { name := "twoToTheDoubleScaleDown", type := .double, accessFlags := 8, slot := 8, constantValue := 0 }, { name := "$assertionsDisabled", type := .boolean, accessFlags := 4120, slot := 9, constantValue := 0 }]
  methods := #[k8m0, k8m1]
  instanceTypes := #[]
  staticTypes := #[.double, .double, .double, .double, .double, .long, .long, .double, .double, .boolean]
  resolved := Array.replicate 460 none
  statics := none }

def pool9 : Array CpInfo := pool [(2, .class_ 4), (1, u "java/lang/Object"), (0, u "<init>"), (0, u "()V"), (1, .class_ 10), (1, u "java/lang/Number"), (2, .class_ 14), (0, u "java/io/Serializable"), (0, u "serialVersionUID"), (0, u "J")] 20

def k9m0 : Method := { name := "<init>", desc := "()V", sig := { parameters := [], returnType := none }, accessFlags := 1, code := none }
/-- java/lang/Number -/
def k9 : Class := { plain "java/lang/Number" (some 0) with
  accessFlags := 1057
  interfaces := #[5]
  cf := some (fileOf pool9 8 #[] #[{ accessFlags := 1, nameIndex := 5, descriptorIndex := 6, attributes := #[] }] 1057 2 #[13] #[{ accessFlags := 26, nameIndex := 15, descriptorIndex := 16, attributes := #[] }])
  fields := #[{ name := "serialVersionUID", type := .long, accessFlags := 26, slot := 0, constantValue := 0 }]
  methods := #[k9m0]
  instanceTypes := #[]
  staticTypes := #[.long]
  resolved := Array.replicate 37 none
  statics := none }

def pool10 : Array CpInfo := pool [(1, .class_ 2), (0, u "java/lang/constant/ConstantDesc"), (0, .class_ 4), (0, u "java/lang/Object")] 32

/-- java/lang/constant/ConstantDesc -/
def k10 : Class := { plain "java/lang/constant/ConstantDesc" (some 0) with
  accessFlags := 1537
  interfaces := #[]
  cf := some (fileOf pool10 1 #[] #[] 1537 3 #[] #[])
  fields := #[]
  methods := #[]
  instanceTypes := #[]
  staticTypes := #[]
  resolved := Array.replicate 37 none
  statics := none }

def pool11 : Array CpInfo := pool [(1, .class_ 2), (0, u "java/lang/Integer"), (16, u "digits"), (0, u "[C"), (32, u "numberOfLeadingZeros"), (0, u "(I)I"), (30, u "DigitOnes"), (0, u "[B"), (2, u "DigitTens"), (99, .class_ 190), (0, u "java/lang/Integer$IntegerCache"), (3, u "I"), (8, .class_ 204), (0, u "java/lang/Number"), (2, u "value"), (56, .integer 65536), (37, u "TYPE"), (0, u "Ljava/lang/Class;"), (0, .class_ 305), (0, u "java/lang/Comparable"), (0, .class_ 307), (0, u "java/lang/constant/Constable"), (0, .class_ 309), (0, u "java/lang/constant/ConstantDesc"), (0, u "MIN_VALUE"), (1, u "MAX_VALUE"), (3, u "SIZE"), (1, u "BYTES"), (1, u "serialVersionUID"), (0, u "J")] 131

def k11c0 : Code := { maxStack := 3, maxLocals := 2, code := jdk_33_method_47_code, exceptionTable := #[], attributes := #[] }
def k11m0 : Method := { name := "numberOfLeadingZeros", desc := "(I)I", sig := { parameters := [.int], returnType := some .int }, accessFlags := 9, code := some k11c0 }
/-- java/lang/Integer -/
def k11 : Class := { plain "java/lang/Integer" (some 9) with
  accessFlags := 49
  interfaces := #[4, 3, 10]
  cf := some (fileOf pool11 1 #[.nestMembers #[189]] #[{ accessFlags := 9, nameIndex := 53, descriptorIndex := 54, attributes := #[] }] 49 203 #[304, 306, 308] #[{ accessFlags := 25, nameIndex := 310, descriptorIndex := 194, attributes := #[] }, { accessFlags := 25, nameIndex := 312, descriptorIndex := 194, attributes := #[] }, { accessFlags := 25, nameIndex := 302, descriptorIndex := 303, attributes := #[] }, { accessFlags := 24, nameIndex := 19, descriptorIndex := 20, attributes := #[] }, { accessFlags := 24, nameIndex := 89, descriptorIndex := 86, attributes := #[] }, { accessFlags := 24, nameIndex := 85, descriptorIndex := 86, attributes := #[] }, { accessFlags := 18, nameIndex := 207, descriptorIndex := 194, attributes := #[] }, { accessFlags := 25, nameIndex := 316, descriptorIndex := 194, attributes := #[] }, { accessFlags := 25, nameIndex := 318, descriptorIndex := 194, attributes := #[] }, { accessFlags := 26, nameIndex := 320, descriptorIndex := 321, attributes := #[] }])
  fields := #[{ name := "MIN_VALUE", type := .int, accessFlags := 25, slot := 0, constantValue := 0 }, { name := "MAX_VALUE", type := .int, accessFlags := 25, slot := 1, constantValue := 0 }, { name := "TYPE", type := (.object "java/lang/Class"), accessFlags := 25, slot := 2, constantValue := 0 }, { name := "digits", type := (.array .char), accessFlags := 24, slot := 3, constantValue := 0 }, { name := "DigitTens", type := (.array .byte), accessFlags := 24, slot := 4, constantValue := 0 }, { name := "DigitOnes", type := (.array .byte), accessFlags := 24, slot := 5, constantValue := 0 }, { name := "value", type := .int, accessFlags := 18, slot := 0, constantValue := 0 }, { name := "SIZE", type := .int, accessFlags := 25, slot := 6, constantValue := 0 }, { name := "BYTES", type := .int, accessFlags := 25, slot := 7, constantValue := 0 }, { name := "serialVersionUID", type := .long, accessFlags := 26, slot := 8, constantValue := 0 }]
  methods := #[k11m0]
  instanceTypes := #[.int]
  staticTypes := #[.int, .int, (.object "java/lang/Class"), (.array .char), (.array .byte), (.array .byte), .int, .int, .long]
  resolved := Array.replicate 453 none
  statics := none }

def pool12 : Array CpInfo := pool [(2, .class_ 4), (1, u "java/lang/Object"), (0, u "<init>"), (0, u "()V"), (7, .class_ 16), (1, u "java/util/Arrays"), (57, .class_ 76), (1, u "java/util/Arrays$NaturalOrder"), (36, .class_ 115), (1, u "java/util/Arrays$LegacyMergeSort"), (1, u "Z"), (257, .class_ 376), (0, u "java/util/Arrays$ArrayList"), (68, u "$assertionsDisabled"), (269, u "MIN_ARRAY_SORT_GRAN"), (0, u "I"), (2, u "INSERTIONSORT_THRESHOLD"), (120, u "fill"), (4, u "([II)V"), (129, .class_ 976), (0, u "java/util/Arrays$ArrayItr")] 52

def k12m0 : Method := { name := "<init>", desc := "()V", sig := { parameters := [], returnType := none }, accessFlags := 2, code := none }
def k12c1 : Code := { maxStack := 3, maxLocals := 4, code := jdk_65_method_103_code, exceptionTable := #[], attributes := #[] }
def k12m1 : Method := { name := "fill", desc := "([II)V", sig := { parameters := [(.array .int), .int], returnType := none }, accessFlags := 9, code := some k12c1 }
/-- java/util/Arrays -/
def k12 : Class := { plain "java/util/Arrays" (some 0) with
  accessFlags := 49
  interfaces := #[]
  cf := some (fileOf pool12 14 #[.nestMembers #[975, 375, 113, 74]] #[{ accessFlags := 2, nameIndex := 5, descriptorIndex := 6, attributes := #[] }, { accessFlags := 9, nameIndex := 840, descriptorIndex := 845, attributes := #[] }] 49 2 #[] #[{ accessFlags := 26, nameIndex := 715, descriptorIndex := 716, attributes := #[] }, { accessFlags := 26, nameIndex := 719, descriptorIndex := 716, attributes := #[] }, { accessFlags := 4120, nameIndex := 445, descriptorIndex := 117, attributes := #[] }])
  fields := #[{ name := "MIN_ARRAY_SORT_GRAN", type := .int, accessFlags := 26, slot := 0, constantValue := 0 }, { name := "INSERTIONSORT_THRESHOLD", type := .int, accessFlags := 26, slot := 1, constantValue := 0 }, { name := "$assertionsDisabled", type := .boolean, accessFlags := 4120, slot := 2, constantValue := 0 }]
  methods := #[k12m0, k12m1]
  instanceTypes := #[]
  staticTypes := #[.int, .int, .boolean]
  resolved := Array.replicate 1029 none
  statics := none }

def pool13 : Array CpInfo := pool [(1, u "java/lang/Cloneable"), (0, .class_ 1), (0, u "java/lang/Object"), (0, .class_ 3)] 3

/-- java/lang/Cloneable -/
def k13 : Class := { plain "java/lang/Cloneable" (some 0) with
  accessFlags := 1537
  interfaces := #[]
  cf := some (fileOf pool13 2 #[] #[] 1537 4 #[] #[])
  fields := #[]
  methods := #[]
  instanceTypes := #[]
  staticTypes := #[]
  resolved := Array.replicate 8 none
  statics := none }

/-- the primitive byte -/
def k14 : Class := { plain "byte" none with kind := .primitive 'B', accessFlags := 0x411 }
/-- [B -/
def k15 : Class := { plain "[B" (some 0) with kind := .array 14 .byte, interfaces := #[13, 5], accessFlags := 1041 }

/-- the primitive int -/
def k16 : Class := { plain "int" none with kind := .primitive 'I', accessFlags := 0x411 }
/-- [I -/
def k17 : Class := { plain "[I" (some 0) with kind := .array 16 .int, interfaces := #[13, 5], accessFlags := 1041 }

/-- the primitive long -/
def k18 : Class := { plain "long" none with kind := .primitive 'J', accessFlags := 0x411 }
/-- [J -/
def k19 : Class := { plain "[J" (some 0) with kind := .array 18 .long, interfaces := #[13, 5], accessFlags := 1041 }

def heap : Heap := #[{ cls := 7, slots := #[.null, .null, .null, .null, .null, .null, .null, .null, .null, .ref 1, .null, .null, .null, .null, .null, .null, .null, .null, .null, .null], vm := .statics 7 },
  { cls := 7, slots := #[.null, .int 0, .int 0, .null, .null, .null, .null], vm := .none }]
def classes : Array Class := #[k0, k1, k2, k3, k4, k5, k6, k7, k8, k9, k10, k11, k12, k13, k14, k15, k16, k17, k18, k19]
def interned : List (Array UInt16 × Addr) := []
def slotsUsed : Nat := 27
def theMethod : MethodId := ⟨1, 1⟩
def args0 : Array Value := #[.long 5, .long 7, .long 9, .int 3]
def aboutOver (below : List Frame) : State where
  vm := { classes := classes, interned := interned.toArray }
  heap := heap
  slotsUsed := slotsUsed
  threads := #[{ frames := .invoking theMethod args0 :: below }]
def below0 : List Frame := [.native { method := ⟨0, 0⟩, args := #[] }]
def about1 : State := aboutOver below0
def p0 : Program := .bare "" "" ""
def e0 : Env := launch0.env 0 0 0
theorem w_frames : about1.frames = Frame.invoking theMethod args0 :: below0 := rfl
set_option maxRecDepth 65536 in
theorem w_args : argsFit about1.vm theMethod args0 = true := by decide +kernel
set_option maxRecDepth 65536 in
theorem w_heap : heapFits about1 = true := by decide +kernel
set_option maxRecDepth 65536 in
theorem w_runnable : about1.curStatus? = some .runnable := by decide +kernel
set_option maxRecDepth 65536 in
theorem w_alone : about1.alone = true := by decide +kernel
set_option maxRecDepth 65536 in
theorem w_named : about1.methodNamed? x = some theMethod := by decide +kernel
set_option maxRecDepth 65536 in
theorem w_hears : about1.hears theMethod below0 = true := by decide +kernel
set_option maxRecDepth 65536 in
theorem w_ripe : about1.ripe theMethod args0 below0 = true := by decide +kernel
theorem w_running : about1.status = .running := rfl
set_option maxRecDepth 65536 in
theorem w_room : about1.hasRoom e0.platform room_1 = true :=
  launch0.hasRoom_least _ room_1 (by decide +kernel) (by decide +kernel) (by decide +kernel) (by decide +kernel) (by decide +kernel) (by decide +kernel)
theorem allAtoms_all (ts : List Jvm.Cond) (a : Array Jvm.Value) (st : Jvm.State) : (allAtoms ts).before a st = ts.all (fun c => c.before a st) := by
  induction ts with
  | nil => rfl
  | cons c t ih =>
    show (Jvm.Cond.and c (allAtoms t)).before a st = _
    rw [Jvm.Cond.before_and, ih, List.all_cons]
def words1 : List Jvm.Cond := Jvm.Cond.code x code maxLocals ret :: tables_1
/-- a 'code' word, met by the world's own term for the bytes: nothing is compared byte by byte -/
theorem code_word {y : MethodName} {bytes : ByteArray} {mx : Nat} {rt : Option FieldType} {a : Array Value} {s : State} {m : MethodId} {meth : Method} {c : Code} (h1 : s.methodNamed? y = some m) (h2 : s.vm.method? m = some meth) (h3 : meth.code = some c) (h4 : c.code = bytes)
    (h5 : (c.maxLocals == mx && c.exceptionTable.isEmpty && decide (c.maxStack ≤ mostOperands) && decide (meth.sig.returnType = rt) && !meth.locks && decide (parseMethodDescriptor y.desc = some meth.sig)) = true) : (Jvm.Cond.code y bytes mx rt).before a s = true := by
  simp only [Bool.and_eq_true, beq_iff_eq, Bool.not_eq_true', decide_eq_true_eq] at h5
  obtain ⟨⟨⟨⟨⟨g1, g2⟩, g3⟩, g4⟩, g5⟩, g6⟩ := h5
  simp [Cond.before, Cond.holds, Cond.value, h1, h2, h3, h4, g1, g2, g3, g4, g5, g6]
def isCode : Jvm.Cond → Bool
  | .code _ _ _ _ => true
  | _ => false
theorem all_split {L : List Jvm.Cond} {P : Jvm.Cond → Bool} (h1 : L.all (fun c => isCode c || P c) = true) (h2 : ∀ c ∈ L.filter isCode, P c = true) : L.all P = true := by
  refine List.all_eq_true.mpr fun c hc => ?_
  have h := List.all_eq_true.mp h1 c hc
  rcases Bool.eq_false_or_eq_true (isCode c) with hi | hi
  · exact h2 c (List.mem_filter.mpr ⟨hc, hi⟩)
  · simpa [hi] using h
set_option maxRecDepth 65536 in
theorem w_c0 : (Jvm.Cond.code x code maxLocals ret).before args0 about1 = true := code_word (m := ⟨1, 1⟩) (meth := k1m1) (c := k1c1) (by decide +kernel) rfl rfl rfl (by decide +kernel)
set_option maxRecDepth 65536 in
theorem w_c1 : (Jvm.Cond.code ({ cls := "com/example/chatterbench/chatterbench/data/IdIndex", name := "<init>", desc := "(Lcom/example/chatterbench/chatterbench/data/Entity;I)V" } : Jvm.MethodName) prog_10_method_1_code (4 : Nat) (Option.none : Option Jvm.ClassFile.FieldType)).before args0 about1 = true := code_word (m := ⟨2, 0⟩) (meth := k2m0) (c := k2c0) (by decide +kernel) rfl rfl rfl (by decide +kernel)
set_option maxRecDepth 65536 in
theorem w_c2 : (Jvm.Cond.code ({ cls := "java/lang/Object", name := "<init>", desc := "()V" } : Jvm.MethodName) object_method_1_code (1 : Nat) (Option.none : Option Jvm.ClassFile.FieldType)).before args0 about1 = true := code_word (m := ⟨0, 0⟩) (meth := k0m0) (c := k0c0) (by decide +kernel) rfl rfl rfl (by decide +kernel)
set_option maxRecDepth 65536 in
theorem w_c3 : (Jvm.Cond.code ({ cls := "java/lang/Math", name := "max", desc := "(II)I" } : Jvm.MethodName) jdk_29_method_65_code (2 : Nat) (Option.some Jvm.ClassFile.FieldType.int)).before args0 about1 = true := code_word (m := ⟨8, 1⟩) (meth := k8m1) (c := k8c1) (by decide +kernel) rfl rfl rfl (by decide +kernel)
set_option maxRecDepth 65536 in
theorem w_c4 : (Jvm.Cond.code ({ cls := "java/lang/Integer", name := "numberOfLeadingZeros", desc := "(I)I" } : Jvm.MethodName) jdk_33_method_47_code (2 : Nat) (Option.some Jvm.ClassFile.FieldType.int)).before args0 about1 = true := code_word (m := ⟨11, 0⟩) (meth := k11m0) (c := k11c0) (by decide +kernel) rfl rfl rfl (by decide +kernel)
set_option maxRecDepth 65536 in
theorem w_c5 : (Jvm.Cond.code ({ cls := "java/util/Arrays", name := "fill", desc := "([II)V" } : Jvm.MethodName) jdk_65_method_103_code (4 : Nat) (Option.none : Option Jvm.ClassFile.FieldType)).before args0 about1 = true := code_word (m := ⟨12, 1⟩) (meth := k12m1) (c := k12c1) (by decide +kernel) rfl rfl rfl (by decide +kernel)
set_option maxRecDepth 65536 in
theorem w_c6 : (Jvm.Cond.code ({ cls := "com/example/chatterbench/chatterbench/data/IdIndex", name := "add", desc := "(JI)Z" } : Jvm.MethodName) prog_10_method_3_code (6 : Nat) (Option.some Jvm.ClassFile.FieldType.boolean)).before args0 about1 = true := code_word (m := ⟨2, 1⟩) (meth := k2m1) (c := k2c1) (by decide +kernel) rfl rfl rfl (by decide +kernel)
set_option maxRecDepth 65536 in
theorem w_c7 : (Jvm.Cond.code ({ cls := "com/example/chatterbench/chatterbench/data/IdIndex", name := "slot", desc := "(J)I" } : Jvm.MethodName) prog_10_method_7_code (4 : Nat) (Option.some Jvm.ClassFile.FieldType.int)).before args0 about1 = true := code_word (m := ⟨2, 3⟩) (meth := k2m3) (c := k2c3) (by decide +kernel) rfl rfl rfl (by decide +kernel)
set_option maxRecDepth 65536 in
theorem w_c8 : (Jvm.Cond.code ({ cls := "com/example/chatterbench/chatterbench/data/IdIndex", name := "id", desc := "(I)J" } : Jvm.MethodName) prog_10_method_5_code (3 : Nat) (Option.some Jvm.ClassFile.FieldType.long)).before args0 about1 = true := code_word (m := ⟨2, 2⟩) (meth := k2m2) (c := k2c2) (by decide +kernel) rfl rfl rfl (by decide +kernel)
def codes1 : List Jvm.Cond := [Jvm.Cond.code x code maxLocals ret, Jvm.Cond.code ({ cls := "com/example/chatterbench/chatterbench/data/IdIndex", name := "<init>", desc := "(Lcom/example/chatterbench/chatterbench/data/Entity;I)V" } : Jvm.MethodName) prog_10_method_1_code (4 : Nat) (Option.none : Option Jvm.ClassFile.FieldType), Jvm.Cond.code ({ cls := "java/lang/Object", name := "<init>", desc := "()V" } : Jvm.MethodName) object_method_1_code (1 : Nat) (Option.none : Option Jvm.ClassFile.FieldType), Jvm.Cond.code ({ cls := "java/lang/Math", name := "max", desc := "(II)I" } : Jvm.MethodName) jdk_29_method_65_code (2 : Nat) (Option.some Jvm.ClassFile.FieldType.int), Jvm.Cond.code ({ cls := "java/lang/Integer", name := "numberOfLeadingZeros", desc := "(I)I" } : Jvm.MethodName) jdk_33_method_47_code (2 : Nat) (Option.some Jvm.ClassFile.FieldType.int), Jvm.Cond.code ({ cls := "java/util/Arrays", name := "fill", desc := "([II)V" } : Jvm.MethodName) jdk_65_method_103_code (4 : Nat) (Option.none : Option Jvm.ClassFile.FieldType), Jvm.Cond.code ({ cls := "com/example/chatterbench/chatterbench/data/IdIndex", name := "add", desc := "(JI)Z" } : Jvm.MethodName) prog_10_method_3_code (6 : Nat) (Option.some Jvm.ClassFile.FieldType.boolean), Jvm.Cond.code ({ cls := "com/example/chatterbench/chatterbench/data/IdIndex", name := "slot", desc := "(J)I" } : Jvm.MethodName) prog_10_method_7_code (4 : Nat) (Option.some Jvm.ClassFile.FieldType.int), Jvm.Cond.code ({ cls := "com/example/chatterbench/chatterbench/data/IdIndex", name := "id", desc := "(I)J" } : Jvm.MethodName) prog_10_method_5_code (3 : Nat) (Option.some Jvm.ClassFile.FieldType.long)]
set_option maxRecDepth 65536 in
theorem codes_eq : words1.filter isCode = codes1 := rfl
theorem w_codes : ∀ c ∈ words1.filter isCode, c.before args0 about1 = true := by
  rw [codes_eq]
  intro c hc
  simp only [codes1, List.mem_cons, List.not_mem_nil, or_false] at hc
  rcases hc with rfl | rfl | rfl | rfl | rfl | rfl | rfl | rfl | rfl
  · exact w_c0
  · exact w_c1
  · exact w_c2
  · exact w_c3
  · exact w_c4
  · exact w_c5
  · exact w_c6
  · exact w_c7
  · exact w_c8
set_option maxRecDepth 65536 in
theorem w_t1 : (words1.take 24).all (fun c => isCode c || c.before args0 about1) = true := by decide +kernel
set_option maxRecDepth 65536 in
theorem w_t2 : ((words1.drop 24).take 24).all (fun c => isCode c || c.before args0 about1) = true := by decide +kernel
set_option maxRecDepth 65536 in
theorem w_t3 : ((words1.drop 24).drop 24).all (fun c => isCode c || c.before args0 about1) = true := by decide +kernel
theorem w_tables : (allAtoms (Jvm.Cond.code x code maxLocals ret :: tables_1)).before args0 about1 = true := by
  rw [allAtoms_all]
  show words1.all (fun c => c.before args0 about1) = true
  refine all_split ?_ w_codes
  rw [← List.take_append_drop 24 words1, List.all_append, w_t1, ← List.take_append_drop 24 (words1.drop 24), List.all_append, w_t2, w_t3]
  rfl
set_option maxRecDepth 65536 in
theorem w_case : (Jvm.Cond.and given_1 narrow_1).before args0 about1 = true := by decide +kernel
theorem w_applies : (headSpec (Jvm.Cond.code x code maxLocals ret :: tables_1) room_1).applies x e0.platform about1 = true :=
  (Spec.applies_iff w_frames).mpr ⟨w_running, w_runnable, w_alone, w_named, w_hears, w_ripe, w_room, w_tables⟩
theorem atStart : AtStart classFile x code maxLocals ret World_1 tables_1 room_1 Calls_1 rest_1 Pre_1 launch0 p0 e0 about1 theMethod args0 below0 :=
  ⟨lists_1, trivial, launch0.admits_env _ _ _, launch0.least_env, fairChoices_fair.cas, fairChoices_fair.clock, w_frames, w_args, w_heap, w_applies, trivial, trivial, w_case⟩
end start1
theorem witness_1 : WitnessClaimed_1 := ⟨start1.p0, start1.e0, start1.about1, start1.theMethod, start1.args0, start1.below0, start1.atStart⟩
end Jvm.Pilot.@@N@@
