import PyProof.Rows.All
import Wide.All
import OpenK.AllK
import Wide.FinOn
import PySem.Challenge.RW_nq0159_01
open PySem PySem.W PyProof.Rows
set_option Elab.async false
set_option linter.all false
set_option genSizeOf false

section
open PySem PySem.W PyProof.Rows PySem.Calls
namespace Mine

/-! abstract values: frozen data are trees, what may change is a reference -/
inductive AV where
  | none
  | bool (b : Bool)
  | int (i : Int)
  | str (x : Str)
  | ref (a : Addr)
  | tup (l : List AV)
  | lst (l : List AV)
deriving Inhabited

noncomputable abbrev lstObj (vs : List Value) (n : Nat) : Obj := { cls := .type "list", data := .seq vs.toArray n }
noncomputable abbrev tupObj (vs : List Value) (n : Nat) : Obj := { cls := .type "tuple", data := .seq vs.toArray n }
noncomputable abbrev dctObj (es : List DictEntry) (n : Nat) : Obj := { cls := .type "dict", data := .dict es.toArray n }

mutual
inductive VR (h : Heap) : AV → Value → Prop
  | none : VR h .none .none
  | bool (b : Bool) : VR h (.bool b) (.bool b)
  | int (i : Int) (t : Tok) : VR h (.int i) (.int i t)
  | str (x : Str) (t : Tok) : VR h (.str x) (.str x t)
  | ref (a : Addr) : VR h (.ref a) (.ref a)
  | tup {l : List AV} {a : Addr} {vs : List Value} {n : Nat} : h.get? a = some (tupObj vs n) → VRs h l vs → VR h (.tup l) (.ref a)
  | lst {l : List AV} {a : Addr} {vs : List Value} {n : Nat} : h.get? a = some (lstObj vs n) → VRs h l vs → VR h (.lst l) (.ref a)
inductive VRs (h : Heap) : List AV → List Value → Prop
  | nil : VRs h [] []
  | cons {a : AV} {l : List AV} {v : Value} {vs : List Value} : VR h a v → VRs h l vs → VRs h (a :: l) (v :: vs)
end

noncomputable def Sub (h h' : Heap) : Prop := ∀ b o, h.get? b = some o → h'.get? b = some o
theorem Sub.refl (h : Heap) : Sub h h := fun _ _ e => e
theorem Sub.trans {a b c : Heap} (x : Sub a b) (y : Sub b c) : Sub a c := fun q o e => y q o (x q o e)
theorem Sub.push (h : Heap) (o : Obj) : Sub h (h.push o) := fun _ _ e => Heap.get?_push_of_some o e

mutual
theorem VR.mono {h h' : Heap} (k : Sub h h') : ∀ {a : AV} {v : Value}, VR h a v → VR h' a v
  | _, _, .none => .none
  | _, _, .bool b => .bool b
  | _, _, .int i t => .int i t
  | _, _, .str x t => .str x t
  | _, _, .ref a => .ref a
  | _, _, .tup e r => .tup (k _ _ e) (VRs.mono k r)
  | _, _, .lst e r => .lst (k _ _ e) (VRs.mono k r)
theorem VRs.mono {h h' : Heap} (k : Sub h h') : ∀ {l : List AV} {vs : List Value}, VRs h l vs → VRs h' l vs
  | _, _, .nil => .nil
  | _, _, .cons a r => .cons (VR.mono k a) (VRs.mono k r)
end

theorem VRs.length {h : Heap} {l : List AV} {vs : List Value} (x : VRs h l vs) : vs.length = l.length := by
  induction l generalizing vs with
  | nil => cases x; rfl
  | cons a l ih => cases x with | cons p q => simp [ih q]
theorem VRs.append {h : Heap} {l l' : List AV} {vs vs' : List Value} (x : VRs h l vs) (y : VRs h l' vs') : VRs h (l ++ l') (vs ++ vs') := by
  induction l generalizing vs with
  | nil => cases x; exact y
  | cons a l ih => cases x with | cons p q => exact .cons p (ih q)
theorem VRs.get {h : Heap} {l : List AV} {vs : List Value} (x : VRs h l vs) {k : Nat} {a : AV} (e : l[k]? = some a) : ∃ v, vs[k]? = some v ∧ VR h a v := by
  induction l generalizing vs k with
  | nil => simp at e
  | cons b l ih =>
    cases x with | cons p q =>
    cases k with
    | zero => simp at e; subst e; exact ⟨_, rfl, p⟩
    | succ k => simp at e; simpa using ih q e
theorem VRs.take {h : Heap} {l : List AV} {vs : List Value} (x : VRs h l vs) (k : Nat) : VRs h (l.take k) (vs.take k) := by
  induction l generalizing vs k with
  | nil => cases x; simp; exact .nil
  | cons b l ih =>
    cases x with | cons p q =>
    cases k with
    | zero => simp; exact .nil
    | succ k => simp; exact .cons p (ih q k)
theorem VRs.drop {h : Heap} {l : List AV} {vs : List Value} (x : VRs h l vs) (k : Nat) : VRs h (l.drop k) (vs.drop k) := by
  induction l generalizing vs k with
  | nil => cases x; simp; exact .nil
  | cons b l ih =>
    cases x with | cons p q =>
    cases k with
    | zero => simp; exact .cons p q
    | succ k => simp; exact ih q k

/-- a dict with text keys -/
inductive DRs (h : Heap) : List (Str × AV) → List (Str × Value) → Prop
  | nil : DRs h [] []
  | cons {k : Str} {a : AV} {v : Value} {l : List (Str × AV)} {ds : List (Str × Value)} : VR h a v → DRs h l ds → DRs h ((k, a) :: l) ((k, v) :: ds)
theorem DRs.mono {h h' : Heap} (k : Sub h h') {l : List (Str × AV)} {ds : List (Str × Value)} (x : DRs h l ds) : DRs h' l ds := by
  induction x with
  | nil => exact .nil
  | cons p _ ih => exact .cons (p.mono k) ih
theorem DRs.length {h : Heap} {l : List (Str × AV)} {ds : List (Str × Value)} (x : DRs h l ds) : ds.length = l.length := by
  induction x with
  | nil => rfl
  | cons _ _ ih => simp [ih]

structure PC where
  prog : Program
  w : World
  K : Frag
  base : Heap
  view : Program
  loose : List Str
  mg : Str → Option Value
  mb : Str → Option Value
  os : OsState
  gp : Array GenState → Prop
  hK : K.In base
  hT : TopRead view loose mg mb base

/-- what may change -/
inductive AObj where
  | list (l : List AV)
  | dict (es : List (Str × AV)) (ep : Nat)
  | inst (C dx : Addr)
  | slots (C : Addr) (vs : List (Option AV))
  | set (S : Str → Bool) (n : Nat)
  | raw (o : Obj)

noncomputable def SlotR (h : Heap) : Option AV → Option Value → Prop
  | some a, some v => VR h a v
  | .none, .none => True
  | _, _ => False
inductive SlotRs (h : Heap) : List (Option AV) → List (Option Value) → Prop
  | nil : SlotRs h [] []
  | cons {a : Option AV} {l : List (Option AV)} {v : Option Value} {vs : List (Option Value)} : SlotR h a v → SlotRs h l vs → SlotRs h (a :: l) (v :: vs)
theorem SlotR.mono {h h' : Heap} (k : Sub h h') : ∀ {a : Option AV} {v : Option Value}, SlotR h a v → SlotR h' a v
  | some _, some _, x => VR.mono k x
  | .none, .none, _ => trivial
theorem SlotRs.mono {h h' : Heap} (k : Sub h h') {l : List (Option AV)} {vs : List (Option Value)} (x : SlotRs h l vs) : SlotRs h' l vs := by
  induction x with
  | nil => exact .nil
  | cons p _ ih => exact .cons (p.mono k) ih

noncomputable def OOK (p : PC) (h₀ h : Heap) (a : Addr) : AObj → Prop
  | .list l => ∃ vs n, h.get? a = some (lstObj vs n) ∧ VRs h₀ l vs
  | .dict es ep => ∃ ds, h.DictAt (strKind p.prog p.w) a ds ep ∧ DRs h₀ es ds ∧ (a == sysModules) = false
  | .inst C dx => h.get? a = some (instObj C dx)
  | .slots C vs => ∃ sl dx, h.get? a = some { cls := .ref C, dict := some dx, data := .plain, slots := sl.toArray } ∧ SlotRs h₀ vs sl ∧ h₀.get? dx = some emptyDict
  | .set S n => h.SetOf (strKind p.prog p.w) a S n
  | .raw o => h.get? a = some o
theorem OOK.mono₀ {p : PC} {h₀ h₀' h : Heap} (k : Sub h₀ h₀') {a : Addr} {o : AObj} (x : OOK p h₀ h a o) : OOK p h₀' h a o := by
  cases o with
  | list _ => obtain ⟨vs, n, e, r⟩ := x; exact ⟨vs, n, e, r.mono k⟩
  | dict _ _ => obtain ⟨ds, e, r, z⟩ := x; exact ⟨ds, e, r.mono k, z⟩
  | slots _ _ => obtain ⟨sl, dx, e, r, z⟩ := x; exact ⟨sl, dx, e, r.mono k, k _ _ z⟩
  | _ => exact x
theorem OOK.there {p : PC} {h₀ h : Heap} {a : Addr} {o : AObj} (x : OOK p h₀ h a o) : ∃ ob, h.get? a = some ob := by
  cases o with
  | list _ => obtain ⟨_, _, e, _⟩ := x; exact ⟨_, e⟩
  | dict _ _ => obtain ⟨_, ⟨_, _, e, _⟩, _⟩ := x; exact ⟨_, e⟩
  | slots _ _ => obtain ⟨_, _, e, _⟩ := x; exact ⟨_, e⟩
  | set _ _ => obtain ⟨_, _, _, _, e, _⟩ := x; exact ⟨_, e⟩
  | inst _ _ => exact ⟨_, x⟩
  | raw _ => exact ⟨_, x⟩
theorem OOK.same {p : PC} {h₀ h h' : Heap} {a : Addr} (q : h'.get? a = h.get? a) {o : AObj} (x : OOK p h₀ h a o) : OOK p h₀ h' a o := by
  cases o with
  | list _ => obtain ⟨vs, n, e, r⟩ := x; exact ⟨vs, n, q.trans e, r⟩
  | dict _ _ => obtain ⟨ds, ⟨o, es, e, z⟩, r⟩ := x; exact ⟨ds, ⟨o, es, q.trans e, z⟩, r⟩
  | slots _ _ => obtain ⟨sl, dx, e, r⟩ := x; exact ⟨sl, dx, q.trans e, r⟩
  | set _ _ => obtain ⟨o, es, ep, t, e, r⟩ := x; exact ⟨o, es, ep, t, q.trans e, r⟩
  | inst _ _ => exact q.trans x
  | raw _ => exact q.trans x

/-- hidden cells: an object to the sign, or a frame's names -/
inductive HC where
  | raw (o : Obj)
  | frame (m : Str → Option Value)
noncomputable def HOK (h : Heap) (a : Addr) : HC → Prop
  | .raw o => h.get? a = some o
  | .frame m => h.Ns a m
theorem HOK.there {h : Heap} {a : Addr} : ∀ {c : HC}, HOK h a c → ∃ ob, h.get? a = some ob
  | .raw _, e => ⟨_, e⟩
  | .frame _, ⟨_, _, _, e, _⟩ => ⟨_, e⟩
theorem HOK.same {h h' : Heap} {a : Addr} (q : h'.get? a = h.get? a) : ∀ {c : HC}, HOK h a c → HOK h' a c
  | .raw _, e => q.trans e
  | .frame _, ⟨o, es, ep, e, r⟩ => ⟨o, es, ep, q.trans e, r⟩

structure St where
  ρ : String → Option AV
  σ : Addr → Option AObj

noncomputable def upd {α β : Type} [DecidableEq α] (f : α → Option β) (x : α) (v : β) : α → Option β := fun y => if y = x then some v else f y
noncomputable def era {α β : Type} [DecidableEq α] (f : α → Option β) (x : α) : α → Option β := fun y => if y = x then none else f y
theorem upd_same {α β : Type} [DecidableEq α] (f : α → Option β) (x : α) (v : β) : upd f x v x = some v := by simp [upd]
theorem upd_ne {α β : Type} [DecidableEq α] (f : α → Option β) {x y : α} (v : β) (h : y ≠ x) : upd f x v y = f y := by simp [upd, h]
theorem era_same {α β : Type} [DecidableEq α] (f : α → Option β) (x : α) : era f x x = none := by simp [era]
theorem era_ne {α β : Type} [DecidableEq α] (f : α → Option β) {x y : α} (h : y ≠ x) : era f x y = f y := by simp [era, h]
noncomputable def St.set (st : St) (x : String) (v : AV) : St := { st with ρ := upd st.ρ x v }
noncomputable def St.put (st : St) (a : Addr) (o : AObj) : St := { st with σ := upd st.σ a o }
noncomputable def St.del (st : St) (a : Addr) : St := { st with σ := era st.σ a }

noncomputable abbrev Hid := Addr → Option HC

structure Sat (p : PC) (L : Addr) (outer : List Env) (h₀ : Heap) (s : Shared) (st : St) (hid : Hid) : Prop where
  base : Sub p.base h₀
  sub : Sub h₀ s.heap
  loc : ∃ m, s.heap.Ns L m ∧ ∀ x av, st.ρ x = some av → ∃ v, m (Str.ofString x) = some v ∧ VR h₀ av v
  locF : h₀.get? L = none
  locS : st.σ L = none
  locH : hid L = none
  obj : ∀ a o, st.σ a = some o → OOK p h₀ s.heap a o ∧ h₀.get? a = none ∧ hid a = none
  hidd : ∀ a c, hid a = some c → HOK s.heap a c ∧ h₀.get? a = none
  out : ∀ e ∈ outer, e.scope.kind ≠ .module ∧ ∃ L' m, e.frame = some L' ∧ hid L' = some (.frame m)
  os : s.os = p.os
  gens : p.gp s.gens

/-- the part of a heap that stands outside a set of addresses -/
noncomputable def mask (h : Heap) (P : Addr → Bool) : Heap := ⟨h.objs.mapIdx fun i o => if P i then { cls := .none, data := .freed } else o, h.life⟩
theorem mask_get (h : Heap) (P : Addr → Bool) (a : Addr) : (mask h P).get? a = if P a then none else h.get? a := by
  unfold mask Heap.get?
  simp only [Array.getElem?_mapIdx]
  cases e : h.objs[a]? with
  | none => simp
  | some o =>
    simp only [Option.map_some]
    by_cases q : P a = true
    · simp [q]
    · simp [q]

noncomputable def priv (L : Addr) (st : St) (hid : Hid) : Addr → Bool := fun a => a == L || (st.σ a).isSome || (hid a).isSome
theorem priv_false {L : Addr} {st : St} {hid : Hid} {a : Addr} : priv L st hid a = false ↔ a ≠ L ∧ st.σ a = none ∧ hid a = none := by
  unfold priv
  simp [Bool.or_eq_false_iff, and_assoc]
theorem priv_self (L : Addr) (st : St) (hid : Hid) : priv L st hid L = true := by simp [priv]
theorem priv_obj {L : Addr} {st : St} {hid : Hid} {a : Addr} {o : AObj} (e : st.σ a = some o) : priv L st hid a = true := by simp [priv, e]
theorem priv_hid {L : Addr} {st : St} {hid : Hid} {a : Addr} {c : HC} (e : hid a = some c) : priv L st hid a = true := by simp [priv, e]

section
variable {p : PC} {L : Addr} {outer : List Env} {h₀ : Heap} {s s' : Shared} {st : St} {hid : Hid}

theorem Sat.of_eq (S : Sat p L outer h₀ s st hid) (hh : s'.heap = s.heap) (ho : s'.os = s.os) (hg : s'.gens = s.gens) : Sat p L outer h₀ s' st hid :=
  ⟨S.base, hh ▸ S.sub, hh ▸ S.loc, S.locF, S.locS, S.locH, hh ▸ S.obj, hh ▸ S.hidd, S.out, ho.trans S.os, hg ▸ S.gens⟩

theorem Sat.notPriv (S : Sat p L outer h₀ s st hid) {b : Addr} {o : Obj} (e : h₀.get? b = some o) : priv L st hid b = false := by
  refine priv_false.mpr ⟨fun q => ?_, ?_, ?_⟩
  · rw [q, S.locF] at e; cases e
  · cases q : st.σ b with
    | none => rfl
    | some x => have := (S.obj b x q).2.1; rw [e] at this; cases this
  · cases q : hid b with
    | none => rfl
    | some x => have := (S.hidd b x q).2; rw [e] at this; cases this

theorem Sat.privLt (S : Sat p L outer h₀ s st hid) {b : Addr} (e : priv L st hid b = true) : b < s.heap.objs.size := by
  unfold priv at e
  simp only [Bool.or_eq_true, beq_iff_eq] at e
  rcases e with (rfl | e) | e
  · obtain ⟨m, hn, _⟩ := S.loc; exact hn.lt
  · obtain ⟨o, q⟩ := Option.isSome_iff_exists.mp e
    obtain ⟨ob, h⟩ := (S.obj b o q).1.there
    exact Heap.lt_size h
  · obtain ⟨o, q⟩ := Option.isSome_iff_exists.mp e
    obtain ⟨ob, h⟩ := (S.hidd b o q).1.there
    exact Heap.lt_size h

/-- all that is not private is frozen -/
theorem Sat.refreeze (S : Sat p L outer h₀ s st hid) :
    Sub h₀ (mask s.heap (priv L st hid)) ∧ Sat p L outer (mask s.heap (priv L st hid)) s st hid := by
  have k : Sub h₀ (mask s.heap (priv L st hid)) := fun b o e => by
    rw [mask_get, S.notPriv e]; exact S.sub b o e
  refine ⟨k, ⟨S.base.trans k, fun b o e => ?_, ?_, ?_, S.locS, S.locH, fun a o e => ⟨(S.obj a o e).1.mono₀ k, ?_, (S.obj a o e).2.2⟩, fun a c e => ⟨(S.hidd a c e).1, ?_⟩, S.out, S.os, S.gens⟩⟩
  · rw [mask_get] at e
    split at e
    · cases e
    · exact e
  · obtain ⟨m, hn, hv⟩ := S.loc
    exact ⟨m, hn, fun x av e => let ⟨v, e1, e2⟩ := hv x av e; ⟨v, e1, e2.mono k⟩⟩
  · rw [mask_get, priv_self]; rfl
  · rw [mask_get, priv_obj e]; rfl
  · rw [mask_get, priv_hid e]; rfl

/-- the heap has grown: all that was there stands as it stood -/
theorem Sat.grow (S : Sat p L outer h₀ s st hid) (k : Sub s.heap s'.heap) (ho : s'.os = s.os) (hg : p.gp s'.gens) : Sat p L outer h₀ s' st hid := by
  have same : ∀ {a ob}, s.heap.get? a = some ob → s'.heap.get? a = s.heap.get? a := fun e => (k _ _ e).trans e.symm
  refine ⟨S.base, S.sub.trans k, ?_, S.locF, S.locS, S.locH, fun a o e => ⟨?_, (S.obj a o e).2⟩, fun a c e => ⟨?_, (S.hidd a c e).2⟩, S.out, ho.trans S.os, hg⟩
  · obtain ⟨m, hn, hv⟩ := S.loc
    exact ⟨m, hn.keeps k, hv⟩
  · obtain ⟨ob, q⟩ := (S.obj a o e).1.there; exact (S.obj a o e).1.same (same q)
  · obtain ⟨ob, q⟩ := (S.hidd a c e).1.there; exact (S.hidd a c e).1.same (same q)

/-- a new object is frozen at once -/
theorem Sat.pushF (S : Sat p L outer h₀ s st hid) (o : Obj) (hf : o.isFreed = false) (hh : s'.heap = s.heap.push o) (ho : s'.os = s.os) (hg : s'.gens = s.gens) :
    ∃ h₁, Sub h₀ h₁ ∧ Sat p L outer h₁ s' st hid ∧ h₁.get? s.heap.objs.size = some o := by
  have S' := S.grow (s' := s') (hh ▸ Sub.push _ o) ho (hg ▸ S.gens)
  obtain ⟨k, S''⟩ := S'.refreeze
  refine ⟨_, k, S'', ?_⟩
  rw [mask_get]
  have : priv L st hid s.heap.objs.size = false := by
    cases q : priv L st hid s.heap.objs.size with
    | false => rfl
    | true => exact absurd (S.privLt q) (Nat.lt_irrefl _)
  rw [this, hh]
  exact Heap.get?_push_size _ hf

theorem Sat.freshPriv (S : Sat p L outer h₀ s st hid) : priv L st hid s.heap.objs.size = false := by
  cases q : priv L st hid s.heap.objs.size with
  | false => rfl
  | true => exact absurd (S.privLt q) (Nat.lt_irrefl _)
theorem Sat.fresh₀ (S : Sat p L outer h₀ s st hid) : h₀.get? s.heap.objs.size = none := by
  cases q : h₀.get? s.heap.objs.size with
  | none => rfl
  | some o => exact absurd (Heap.lt_size (S.sub _ _ q)) (Nat.lt_irrefl _)

/-- a new object that may change -/
theorem Sat.pushO (S : Sat p L outer h₀ s st hid) (ao : AObj) {o : Obj} (hh : s'.heap = s.heap.push o) (ho : s'.os = s.os) (hg : s'.gens = s.gens) (hok : OOK p h₀ s'.heap s.heap.objs.size ao) :
    st.σ s.heap.objs.size = none ∧ Sat p L outer h₀ s' (st.put s.heap.objs.size ao) hid := by
  have S' := S.grow (s' := s') (hh ▸ Sub.push _ o) ho (hg ▸ S.gens)
  have np := priv_false.mp S.freshPriv
  refine ⟨np.2.1, ⟨S'.base, S'.sub, S'.loc, S'.locF, ?_, S'.locH, fun a x e => ?_, S'.hidd, S'.out, S'.os, S'.gens⟩⟩
  · show upd st.σ _ _ L = none
    rw [upd_ne _ _ (Ne.symm np.1)]; exact S.locS
  · by_cases q : a = s.heap.objs.size
    · subst q
      have e' : upd st.σ s.heap.objs.size ao s.heap.objs.size = some x := e
      rw [upd_same] at e'
      cases e'
      exact ⟨hok, S.fresh₀, np.2.2⟩
    · have e' : upd st.σ s.heap.objs.size ao a = some x := e
      rw [upd_ne _ _ q] at e'
      exact S'.obj a x e'

/-- an object that may change has changed -/
theorem Sat.setO (S : Sat p L outer h₀ s st hid) {a : Addr} {ao ao' : AObj} (e : st.σ a = some ao) (hs : Heap.SameBut a s.heap s'.heap) (ho : s'.os = s.os) (hg : s'.gens = s.gens) (hok : OOK p h₀ s'.heap a ao') :
    Sat p L outer h₀ s' (st.put a ao') hid := by
  have ha := S.obj a ao e
  have nL : L ≠ a := fun q => by rw [← q, S.locS] at e; cases e
  refine ⟨S.base, fun b o q => (hs.2 b fun z => ?_).trans (S.sub b o q), ?_, S.locF, ?_, S.locH, fun b x q => ?_, fun b c q => ⟨(S.hidd b c q).1.same (hs.2 b fun z => ?_), (S.hidd b c q).2⟩, S.out, ho.trans S.os, hg ▸ S.gens⟩
  · rw [z, ha.2.1] at q; cases q
  · obtain ⟨m, hn, hv⟩ := S.loc
    exact ⟨m, hn.sameBut hs nL, hv⟩
  · show upd st.σ a ao' L = none
    rw [upd_ne _ _ nL]; exact S.locS
  · have q' : upd st.σ a ao' b = some x := q
    by_cases z : b = a
    · subst z
      rw [upd_same] at q'
      cases q'
      exact ⟨hok, ha.2⟩
    · rw [upd_ne _ _ z] at q'
      exact ⟨(S.obj b x q').1.same (hs.2 b z), (S.obj b x q').2⟩
  · rw [z, ha.2.2] at q; cases q

theorem ofString_inj {x y : String} (h : Str.ofString x = Str.ofString y) : x = y := by
  rw [Str.ofString_eq_toList, Str.ofString_eq_toList] at h
  injection h with h
  have h' : x.toList.map Char.toNat = y.toList.map Char.toNat := by simpa using congrArg Array.toList h
  have inj : ∀ {a b : List Char}, a.map Char.toNat = b.map Char.toNat → a = b := by
    intro a
    induction a with
    | nil => intro b e; cases b with | nil => rfl | cons c r => simp at e
    | cons c r ih =>
      intro b e
      cases b with
      | nil => simp at e
      | cons d t =>
        simp only [List.map_cons, List.cons.injEq] at e
        rw [ih e.2, Char.ext (UInt32.toNat_inj.mp e.1)]
  have := inj h'
  exact String.toList_inj.mp this

/-- a name of the frame was stored -/
theorem Sat.setL (S : Sat p L outer h₀ s st hid) {x : String} {av : AV} {v : Value} {m : Str → Option Value} (hv : VR h₀ av v) (hm : s.heap.Ns L m) (hm' : ∀ x av, st.ρ x = some av → ∃ v, m (Str.ofString x) = some v ∧ VR h₀ av v)
    (hn : s'.heap.Ns L (fun y => if y = Str.ofString x then some v else m y)) (hs : Heap.SameBut L s.heap s'.heap) (ho : s'.os = s.os) (hg : s'.gens = s.gens) :
    Sat p L outer h₀ s' (st.set x av) hid := by
  refine ⟨S.base, fun b o q => (hs.2 b fun z => ?_).trans (S.sub b o q), ⟨_, hn, fun y av' e => ?_⟩, S.locF, S.locS, S.locH, fun b o q => ⟨(S.obj b o q).1.same (hs.2 b fun z => ?_), (S.obj b o q).2⟩, fun b c q => ⟨(S.hidd b c q).1.same (hs.2 b fun z => ?_), (S.hidd b c q).2⟩, S.out, ho.trans S.os, hg ▸ S.gens⟩
  · rw [z, S.locF] at q; cases q
  · have e' : upd st.ρ x av y = some av' := e
    by_cases z : y = x
    · subst z
      rw [upd_same] at e'
      cases e'
      exact ⟨v, by simp, hv⟩
    · rw [upd_ne _ _ z] at e'
      obtain ⟨u, e1, e2⟩ := hm' y av' e'
      exact ⟨u, by rw [if_neg fun q => z (ofString_inj q)]; exact e1, e2⟩
  · have q' : st.σ b = some o := q
    rw [z, S.locS] at q'; cases q'
  · rw [z, S.locH] at q; cases q
end

end Mine

end

section
open PySem PySem.W PyProof.Rows PySem.Calls
namespace Mine

/-- where a tree stands: in a def's body, in an except clause, in a comprehension -/
inductive Mode where
  | body | handler | comp
deriving DecidableEq

structure AOK (n : Nat) (b : Mode) (A : Around) (env : Env) (outer : List Env) : Prop where
  frames : A.frames = some (if b = .comp then outer else env :: outer)
  handled : b ≠ .handler → A.handled = none
  depth : A.depth + 20 * n ≤ 900
  units : A.units + 100 * n ≤ 9000
  kind : env.scope.kind = .function
  frame : b ≠ .comp → env.frame = some env.locals
  glob : env.globals = mainGlobals
  bi : env.builtins = builtinsNs

/-- untold: neither frozen nor named by the state -/
noncomputable def Unt (h₀ : Heap) (L : Addr) (st : St) (hid : Hid) (a : Addr) : Prop := h₀.get? a = none ∧ priv L st hid a = false

/-- an exception on its way; y: what its newest entry says of the frame -/
noncomputable def XOK (Y : Value → Prop) (h₀ : Heap) (L : Addr) (st : St) (hid : Hid) (h : Heap) (x cls : Value) (fresh : Prop) : Prop :=
  ∃ e oe vs, x = .ref e ∧ Unt h₀ L st hid e ∧ h.get? e = some oe ∧ oe.cls = cls ∧ oe.data = .fields vs ∧
    ((fresh ∧ vs[1]? = some .none) ∨ ∃ T oT ts y, vs[1]? = some (.ref T) ∧ T ≠ e ∧ Unt h₀ L st hid T ∧ h.get? T = some oT ∧ oT.data = .fields ts ∧ ts[3]? = some y ∧ Y y)

noncomputable abbrev XFree (L : Addr) : Value → Prop := fun y => y = .none ∨ y = rawInt L

section
variable {p : PC} {L : Addr} {outer : List Env} {h₀ : Heap} {s s' : Shared} {st : St} {hid : Hid}

/-- only what is untold has changed -/
theorem Sat.agree (S : Sat p L outer h₀ s st hid) (k : ∀ b o, s.heap.get? b = some o → ¬ Unt h₀ L st hid b → s'.heap.get? b = some o) (ho : s'.os = s.os) (hg : s'.gens = s.gens) : Sat p L outer h₀ s' st hid := by
  have k0 : ∀ b o, h₀.get? b = some o → s'.heap.get? b = some o := fun b o e => k b o (S.sub b o e) fun q => by rw [q.1] at e; cases e
  have kp : ∀ b o, s.heap.get? b = some o → priv L st hid b = true → s'.heap.get? b = s.heap.get? b := fun b o e q => (k b o e fun z => by rw [z.2] at q; cases q).trans e.symm
  refine ⟨S.base, k0, ?_, S.locF, S.locS, S.locH, fun a o e => ⟨?_, (S.obj a o e).2⟩, fun a c e => ⟨?_, (S.hidd a c e).2⟩, S.out, ho.trans S.os, hg ▸ S.gens⟩
  · obtain ⟨m, ⟨o, es, ep, e, r⟩, hv⟩ := S.loc
    exact ⟨m, ⟨o, es, ep, (kp L o e (priv_self ..)).trans e, r⟩, hv⟩
  · obtain ⟨ob, q⟩ := (S.obj a o e).1.there; exact (S.obj a o e).1.same (kp a ob q (priv_obj e))
  · obtain ⟨ob, q⟩ := (S.hidd a c e).1.there; exact (S.hidd a c e).1.same (kp a ob q (priv_hid e))

theorem Sat.frameAt (S : Sat p L outer h₀ s st hid) {env : Env} (hL : env.frame = some L) {b : Addr} (hb : b ∈ (env :: outer).filterMap (·.frame)) : b = L ∨ ∃ m, hid b = some (.frame m) := by
  obtain ⟨e, he, hf⟩ := List.mem_filterMap.mp hb
  rcases List.mem_cons.mp he with rfl | he
  · exact .inl (Option.some.inj (hf.symm.trans hL))
  · obtain ⟨_, L', m, e1, e2⟩ := S.out e he
    exact .inr ⟨m, by rw [← Option.some.inj (e1.symm.trans hf)]; exact e2⟩

theorem ns_data {h h' : Heap} {a : Addr} {m : Str → Option Value} (hn : h.Ns a m) (k : ∀ o, h.get? a = some o → ∃ sl, h'.get? a = some { o with slots := sl }) : h'.Ns a m := by
  obtain ⟨o, es, ep, e, hd, r⟩ := hn
  obtain ⟨sl, e'⟩ := k o e
  exact ⟨_, es, ep, e', hd, r⟩

/-- the frames' slots have changed, and nothing else -/
theorem Sat.slots (S : Sat p L outer h₀ s st hid) {env : Env} (hL : env.frame = some L) (k : Heap.SlotsOnly ((env :: outer).filterMap (·.frame)) s.heap s'.heap) (ho : s'.os = s.os) (hg : s'.gens = s.gens) : Sat p L outer h₀ s' st hid := by
  have nf : ∀ {b}, (b ∈ (env :: outer).filterMap (·.frame)) → (b = L ∨ ∃ m, hid b = some (.frame m)) := fun hb => S.frameAt hL hb
  refine ⟨S.base, fun b o e => (k.2.1 b fun hb => ?_).trans (S.sub b o e), ?_, S.locF, S.locS, S.locH, fun a o e => ⟨(S.obj a o e).1.same (k.2.1 a fun hb => ?_), (S.obj a o e).2⟩, fun a c e => ⟨?_, (S.hidd a c e).2⟩, S.out, ho.trans S.os, hg ▸ S.gens⟩
  · rcases nf hb with rfl | ⟨m, q⟩
    · rw [S.locF] at e; cases e
    · rw [(S.hidd b _ q).2] at e; cases e
  · obtain ⟨m, hn, hv⟩ := S.loc
    exact ⟨m, ns_data hn fun o e => k.2.2 _ _ e, hv⟩
  · rcases nf hb with rfl | ⟨m, q⟩
    · rw [S.locS] at e; cases e
    · rw [(S.obj a o e).2.2] at q; cases q
  · by_cases hb : a ∈ (env :: outer).filterMap (·.frame)
    · rcases nf hb with rfl | ⟨m, q⟩
      · rw [S.locH] at e; cases e
      · rw [q] at e; cases e
        exact ns_data (S.hidd a _ q).1 fun o e => k.2.2 _ _ e
    · exact (S.hidd a c e).1.same (k.2.1 a hb)

theorem Sat.funFrames (S : Sat p L outer h₀ s st hid) {env : Env} (hL : env.frame = some L) (hk : env.scope.kind = .function) : s.heap.FunFrames h₀ (env :: outer) := by
  have nsd : ∀ {a m}, s.heap.Ns a m → ∃ o, s.heap.get? a = some o ∧ ∀ vs, o.data ≠ .fields vs := fun ⟨o, es, ep, e, hd, _⟩ => ⟨o, e, fun vs q => by rw [hd] at q; cases q⟩
  have go : ∀ l : List Env, (∀ e ∈ l, e.scope.kind ≠ .module ∧ ∃ L' m, e.frame = some L' ∧ hid L' = some (.frame m)) → s.heap.FunFrames h₀ l := by
    intro l
    induction l with
    | nil => intro _; trivial
    | cons e r ih =>
      intro hh
      obtain ⟨h1, L', m, h2, h3⟩ := hh e (.head _)
      obtain ⟨o, e1, e2⟩ := nsd (S.hidd L' _ h3).1
      exact ⟨h1, ⟨L', o, h2, (S.hidd L' _ h3).2, e1, e2⟩, ih fun e' he' => hh e' (.tail _ he')⟩
  obtain ⟨m, hn, _⟩ := S.loc
  obtain ⟨o, e1, e2⟩ := nsd hn
  exact ⟨by rw [hk]; decide, ⟨L, o, hL, S.locF, e1, e2⟩, go outer S.out⟩
end

section
variable {p : PC} {n : Nat} {b : Mode} {A : Around} {env : Env} {outer : List Env} {h₀ : Heap} {s : Shared} {st : St} {hid : Hid} {M : Model} {E : Value → Shared → Prop} {x cls : Value}

theorem unt_fresh {h₁ : Heap} (S : Sat p L outer h₀ s st hid) (hz : h₁.objs.size = s.heap.objs.size) : Unt h₀ L st hid h₁.objs.size := by
  rw [hz]; exact ⟨S.fresh₀, S.freshPriv⟩

theorem unt_frame {env : Env} {L : Addr} (S : Sat p L outer h₀ s st hid) (hL : env.frame = some L) {a : Addr} (u : Unt h₀ L st hid a) : a ∉ (env :: outer).filterMap (·.frame) := fun hb => by
  rcases S.frameAt hL hb with rfl | ⟨m, q⟩
  · have := u.2; rw [priv_self] at this; cases this
  · have := u.2; rw [priv_hid q] at this; cases this

theorem note_entry {e : Addr} {oe : Obj} {vs : Array Value} {head : Value} {hadNext : Bool} {Q : Unit → Shared → Prop} (hA : AOK n b A env outer) (hb : b ≠ .comp) (S : Sat p env.locals outer h₀ s st hid)
    (hu : Unt h₀ env.locals st hid e) (he : s.heap.get? e = some oe) (hc : oe.cls = cls) (hd : oe.data = .fields vs) (hz : 1 < vs.size)
    (h : ∀ h', Sat p env.locals outer h₀ { s with heap := h' } st hid → XOK (· = rawInt env.locals) h₀ env.locals st hid h' (.ref e) cls False → Q () { s with heap := h' }) :
    wpAny M A (do let a ← frameOf env; let pl ← entryPlaceOf env.locals hadNext; let b ← EntryCells.newEntry head a .none (rawInt env.locals) .none pl; setField (.ref e) 1 b) Q E s := by
  refine wpAny_bind (wpAny_frameOf_fun (by rw [hA.frames, if_neg hb]) (S.funFrames (hA.frame hb) hA.kind) (hA.frame hb) fun h₁ hs₁ => ?_)
  have S₁ : Sat p env.locals outer h₀ { s with heap := h₁ } st hid := S.slots (hA.frame hb) hs₁ rfl rfl
  refine wpAny_bind (wpAny_entryPlaceOf fun pl hpl => ?_)
  unfold EntryCells.newEntry newFields
  refine wpAny_bind (wpAny_newObj_type ?_ (hpl.sizeOk5 _ _ _ _ _))
  have he₁ : h₁.get? e = some oe := (hs₁.2.1 e (unt_frame S (hA.frame hb) hu)).trans he
  have he₂ := Heap.get?_push_of_some (h := h₁) { cls := .type "traceback", dict := none, data := .fields ([head, .ref env.locals, .none, rawInt env.locals, .none] ++ (if pl.isEmpty then List.replicate 6 Value.none else pl)).toArray } he₁
  refine wpAny_setField he₂ hd hz ?_
  have hTe : h₁.objs.size ≠ e := Nat.ne_of_gt (Heap.lt_size he₁)
  have hd₃ := Obj.data_mapFields hd (·.setIfInBounds 1 (Value.ref h₁.objs.size))
  have he₃ := Heap.get?_update_self (Obj.mapFields (·.setIfInBounds 1 (Value.ref h₁.objs.size))) he₂ (Obj.isFreed_of_fields hd₃)
  have hT₃ := (Heap.get?_update_other (h₁.push { cls := .type "traceback", dict := none, data := .fields ([head, .ref env.locals, .none, rawInt env.locals, .none] ++ (if pl.isEmpty then List.replicate 6 Value.none else pl)).toArray })
    (Obj.mapFields (·.setIfInBounds 1 (Value.ref h₁.objs.size))) (Ne.symm hTe)).trans (Heap.get?_push_size h₁ rfl)
  refine h _ ((S₁.agree fun a o q nu => ?_) rfl rfl) ⟨e, _, _, rfl, hu, he₃, (Obj.cls_mapFields _ _).trans hc, hd₃, .inr ⟨h₁.objs.size, _, _, rawInt env.locals, by simp [hz], hTe, unt_fresh S hs₁.1, hT₃, rfl, by simp, rfl⟩⟩
  have hae : e ≠ a := fun z => nu (z ▸ hu)
  rw [Heap.get?_update_other _ _ hae]
  exact Heap.get?_push_of_some _ q

theorem note_X {Q : Unit → Shared → Prop} {F : Prop} (hA : AOK n b A env outer) (hb : b ≠ .comp) (S : Sat p env.locals outer h₀ s st hid) (hx : XOK (XFree env.locals) h₀ env.locals st hid s.heap x cls F)
    (h : ∀ h', Sat p env.locals outer h₀ { s with heap := h' } st hid → XOK (· = rawInt env.locals) h₀ env.locals st hid h' x cls False → Q () { s with heap := h' }) :
    wpAny M A (noteFrame x env) Q E s := by
  obtain ⟨e, oe, vs, rfl, hu, he, hc, hd, hcase⟩ := hx
  unfold noteFrame
  simp only [hA.frame hb]
  rcases hcase with ⟨_, h1⟩ | ⟨T, oT, ts, y, h1, hTe, huT, hT, hdT, h3, hy⟩
  · refine wpAny_bind (wpAny_field he hd h1 ?_)
    rw [if_neg (by decide)]
    exact note_entry (hadNext := _) hA hb S hu he hc hd (Array.getElem?_eq_some_iff.mp h1).1 h
  · refine wpAny_bind (wpAny_field he hd h1 ?_)
    rw [if_pos (show (Value.ref T != Value.none) = true from by simp)]
    refine wpAny_bind (wpAny_field hT hdT h3 ?_)
    rcases hy with rfl | rfl
    · rw [if_neg (show ¬ ((Value.none == rawInt env.locals) = true) from by simp [rawInt])]
      refine wpAny_bind (wpAny_setField hT hdT (Array.getElem?_eq_some_iff.mp h3).1 ?_)
      have other : ∀ a, a ≠ T → (s.heap.update T (Obj.mapFields (·.setIfInBounds 3 Value.none))).get? a = s.heap.get? a := fun a ha => Heap.get?_update_other _ _ (Ne.symm ha)
      have S' : Sat p env.locals outer h₀ { s with heap := s.heap.update T (Obj.mapFields (·.setIfInBounds 3 Value.none)) } st hid :=
        S.agree (fun a o q nu => (other a fun z => nu (z ▸ huT)).trans q) rfl rfl
      exact note_entry (hadNext := _) hA hb S' hu ((other e (Ne.symm hTe)).trans he) hc hd (Array.getElem?_eq_some_iff.mp h1).1 h
    · rw [if_pos (show (rawInt env.locals == rawInt env.locals) = true from by simp)]
      exact wpAny_pure (h s.heap S ⟨e, oe, vs, rfl, hu, he, hc, hd, .inr ⟨T, oT, ts, _, h1, hTe, huT, hT, hdT, h3, rfl⟩⟩)

theorem flight_X {Q : Unit → Shared → Prop} {Y : Value → Prop} {fr : Option Addr} {F : Prop} (S : Sat p env.locals outer h₀ s st hid) (hx : XOK Y h₀ env.locals st hid s.heap x cls F)
    (h : ∀ h', Sat p env.locals outer h₀ { s with heap := h' } st hid → XOK (· = fr.elim .none fun f => rawInt f) h₀ env.locals st hid h' x cls F → Q () { s with heap := h' }) :
    wpAny M A (setFlight x fr) Q E s := by
  obtain ⟨e, oe, vs, rfl, hu, he, hc, hd, hcase⟩ := hx
  unfold setFlight
  rcases hcase with ⟨hF, h1⟩ | ⟨T, oT, ts, y, h1, hTe, huT, hT, hdT, h3, hy⟩
  · refine wpAny_bind (wpAny_field he hd h1 ?_)
    rw [if_neg (by decide)]
    exact wpAny_pure (h s.heap S ⟨e, oe, vs, rfl, hu, he, hc, hd, .inl ⟨hF, h1⟩⟩)
  · refine wpAny_bind (wpAny_field he hd h1 ?_)
    rw [if_pos (show (Value.ref T != Value.none) = true from by simp)]
    have hz := (Array.getElem?_eq_some_iff.mp h3).1
    refine wpAny_setField hT hdT hz ?_
    have other : ∀ a, a ≠ T → (s.heap.update T (Obj.mapFields (·.setIfInBounds 3 (fr.elim .none fun f => rawInt f)))).get? a = s.heap.get? a := fun a ha => Heap.get?_update_other _ _ (Ne.symm ha)
    have hd₃ := Obj.data_mapFields hdT (·.setIfInBounds 3 (fr.elim Value.none fun f => rawInt f))
    refine h _ (S.agree (fun a o q nu => (other a fun z => nu (z ▸ huT)).trans q) rfl rfl)
      ⟨e, oe, vs, rfl, hu, (other e (Ne.symm hTe)).trans he, hc, hd, .inr ⟨T, _, _, _, h1, hTe, huT, Heap.get?_update_self _ hT (Obj.isFreed_of_fields hd₃), hd₃, by simp [hz], rfl⟩⟩

theorem XOK.weaken {Y Y' : Value → Prop} {h : Heap} {L : Addr} {F F' : Prop} (hx : XOK Y h₀ L st hid h x cls F) (k : ∀ y, Y y → Y' y) (kF : F → F') : XOK Y' h₀ L st hid h x cls F' := by
  obtain ⟨e, oe, vs, rfl, hu, he, hc, hd, hcase⟩ := hx
  exact ⟨e, oe, vs, rfl, hu, he, hc, hd, hcase.imp (fun z => ⟨kF z.1, z.2⟩) fun ⟨T, oT, ts, y, h1, hTe, huT, hT, hdT, h3, hy⟩ => ⟨T, oT, ts, y, h1, hTe, huT, hT, hdT, h3, k y hy⟩⟩

/-- the exceptional end -/
noncomputable def EP (p : PC) (L : Addr) (outer : List Env) (h₀ : Heap) (hid : Hid) (X : Value → St → Prop) : Value → Shared → Prop :=
  fun x s' => ∃ h₁ cls st', Sub h₀ h₁ ∧ Sat p L outer h₁ s' st' hid ∧ XOK (XFree L) h₁ L st' hid s'.heap x cls True ∧ X cls st'

theorem passes_EP {A₁ A₂ : Around} {b₁ : Mode} {X : Value → St → Prop} (hA : AOK n b₁ A₁ env outer) (hb : b₁ ≠ .comp) : PassesOwnAt M A₁ A₂ env (EP p env.locals outer h₀ hid X) := by
  rintro x s' ⟨h₁, cls, st', k, S, hx, hX⟩
  unfold notedBy
  refine note_X hA hb S hx fun h' S' hx' => ?_
  unfold cameBackBy
  obtain ⟨e, oe, vs, hxe, hu, he, hc, hd, hcase⟩ := id hx'
  rcases hcase with ⟨hF, _⟩ | ⟨T, oT, ts, y, h1, hTe, huT, hT, hdT, h3, hy⟩
  · exact hF.elim
  · subst hxe
    refine wpAny_bind (wpAny_field he hd h1 ?_)
    simp only [show (Value.ref T == Value.none) = false from by simp, Bool.false_eq_true, if_false]
    refine flight_X S' hx' fun h'' S'' hx'' => ⟨h₁, cls, st', k, S'', hx''.weaken (fun y hy => ?_) False.elim, hX⟩
    subst hy
    rw [hA.frame hb]
    exact .inr rfl

theorem passes_EP' {X : Value → St → Prop} (hA : AOK n b A env outer) (hb : b ≠ .comp) : PassesOwn M A env (EP p env.locals outer h₀ hid X) := passes_EP hA hb

theorem EP.mono {L : Addr} {X X' : Value → St → Prop} (k : Sub h₀ h₁) (hX : ∀ c st, X c st → X' c st) {s' : Shared} (h : EP p L outer h₁ hid X x s') : EP p L outer h₀ hid X' x s' :=
  let ⟨h₂, cls, st', k', S, hx, q⟩ := h
  ⟨h₂, cls, st', k.trans k', S, hx, hX _ _ q⟩
end

end Mine

end

section
open PySem PySem.W PyProof.Rows PySem.Calls
namespace Mine

noncomputable def NP {α β : Type} (p : PC) (L : Addr) (outer : List Env) (h₀ : Heap) (hid : Hid) (R : Heap → β → α → Prop) (Q : β → St → Prop) : α → Shared → Prop :=
  fun v s' => ∃ h₁ y st', Sub h₀ h₁ ∧ Sat p L outer h₁ s' st' hid ∧ R h₁ y v ∧ Q y st'
theorem NP.elim {α β : Type} {p : PC} {L : Addr} {outer : List Env} {h₀ : Heap} {hid : Hid} {R : Heap → β → α → Prop} {Q : β → St → Prop} {v : α} {s : Shared} {C : Prop} (z : NP p L outer h₀ hid R Q v s)
    (k : ∀ h₁ y st', Sub h₀ h₁ → Sat p L outer h₁ s st' hid → R h₁ y v → Q y st' → C) : C := by
  obtain ⟨h₁, y, st', a, b, c, d⟩ := z
  exact k h₁ y st' a b c d

structure GW {α β : Type} (p : PC) (n : Nat) (b : Mode) (env : Env) (R : Heap → β → α → Prop) (t : Sem α) (Q : β → St → Prop) (X : Value → St → Prop) (st : St) : Prop where
  run : ∀ A outer h₀ s hid, AOK n b A env outer → Sat p env.locals outer h₀ s st hid →
    wpAny (model p.prog p.w) A t (NP p env.locals outer h₀ hid R Q) (EP p env.locals outer h₀ hid X) s

/-- a tree behind a value -/
structure GF {α β γ δ : Type} (p : PC) (n : Nat) (b : Mode) (env : Env) (R : Heap → β → α → Prop) (y : β) (R' : Heap → δ → γ → Prop) (f : α → Sem γ) (Q : δ → St → Prop) (X : Value → St → Prop) (st : St) : Prop where
  run : ∀ A outer h₀ s hid v, AOK n b A env outer → Sat p env.locals outer h₀ s st hid → R h₀ y v →
    wpAny (model p.prog p.w) A (f v) (NP p env.locals outer h₀ hid R' Q) (EP p env.locals outer h₀ hid X) s
/-- behind two values -/
structure GV2 {γ δ : Type} (p : PC) (n : Nat) (b : Mode) (env : Env) (a c : AV) (R' : Heap → δ → γ → Prop) (f : Value → Value → Sem γ) (Q : δ → St → Prop) (X : Value → St → Prop) (st : St) : Prop where
  run : ∀ A outer h₀ s hid v u, AOK n b A env outer → Sat p env.locals outer h₀ s st hid → VR h₀ a v → VR h₀ c u →
    wpAny (model p.prog p.w) A (f v u) (NP p env.locals outer h₀ hid R' Q) (EP p env.locals outer h₀ hid X) s
noncomputable instance {α β : Type} {p : PC} {n : Nat} {b : Mode} {env : Env} {R : Heap → β → α → Prop} {t : Sem α} {Q : β → St → Prop} {X : Value → St → Prop} {st : St} : CoeFun (GW p n b env R t Q X st) (fun _ => ∀ A outer h₀ s hid, AOK n b A env outer → Sat p env.locals outer h₀ s st hid →
    wpAny (model p.prog p.w) A t (NP p env.locals outer h₀ hid R Q) (EP p env.locals outer h₀ hid X) s) := ⟨GW.run⟩
noncomputable instance {α β γ δ : Type} {p : PC} {n : Nat} {b : Mode} {env : Env} {R : Heap → β → α → Prop} {y : β} {R' : Heap → δ → γ → Prop} {f : α → Sem γ} {Q : δ → St → Prop} {X : Value → St → Prop} {st : St} : CoeFun (GF p n b env R y R' f Q X st) (fun _ => ∀ A outer h₀ s hid v, AOK n b A env outer → Sat p env.locals outer h₀ s st hid → R h₀ y v →
    wpAny (model p.prog p.w) A (f v) (NP p env.locals outer h₀ hid R' Q) (EP p env.locals outer h₀ hid X) s) := ⟨GF.run⟩
noncomputable instance {γ δ : Type} {p : PC} {n : Nat} {b : Mode} {env : Env} {a c : AV} {R' : Heap → δ → γ → Prop} {f : Value → Value → Sem γ} {Q : δ → St → Prop} {X : Value → St → Prop} {st : St} : CoeFun (GV2 p n b env a c R' f Q X st) (fun _ => ∀ A outer h₀ s hid v u, AOK n b A env outer → Sat p env.locals outer h₀ s st hid → VR h₀ a v → VR h₀ c u →
    wpAny (model p.prog p.w) A (f v u) (NP p env.locals outer h₀ hid R' Q) (EP p env.locals outer h₀ hid X) s) := ⟨GV2.run⟩

noncomputable abbrev BR : Heap → Bool → Bool → Prop := fun _ a b => a = b
noncomputable abbrev UR : Heap → Unit → Unit → Prop := fun _ _ _ => True

inductive AF where
  | next | brk | cont
  | ret (v : AV)
inductive FR (h : Heap) : AF → Flow → Prop
  | next : FR h .next .next
  | brk : FR h .brk .brk
  | cont : FR h .cont .cont
  | ret {a : AV} {v : Value} : VR h a v → FR h (.ret a) (.ret v)

section
variable {p : PC} {n : Nat} {b : Mode} {env : Env} {α β γ δ : Type} {R : Heap → β → α → Prop} {R' : Heap → δ → γ → Prop} {t : Sem α} {X : Value → St → Prop} {st : St}
  {A : Around} {outer : List Env} {h₀ h₁ : Heap} {s : Shared} {hid : Hid}

theorem GW.use {Q : β → St → Prop} {P : α → Shared → Prop} (H : GW p n b env R t Q X st) (hA : AOK n b A env outer) (S : Sat p env.locals outer h₁ s st hid) (k : Sub h₀ h₁)
    (kk : ∀ v s' h₂ y st', Sub h₀ h₂ → Sub h₁ h₂ → Sat p env.locals outer h₂ s' st' hid → R h₂ y v → Q y st' → P v s') :
    wpAny (model p.prog p.w) A t P (EP p env.locals outer h₀ hid X) s :=
  wpAny_mono (H A outer h₁ s hid hA S) (fun v s' z_ => z_.elim fun h₂ y st' k2 S2 r q => kk v s' h₂ y st' (k.trans k2) k2 S2 r q) fun _ _ e => EP.mono k (fun _ _ z => z) e
theorem GW.at {Q : β → St → Prop} (H : GW p n b env R t Q X st) (hA : AOK n b A env outer) (S : Sat p env.locals outer h₁ s st hid) (k : Sub h₀ h₁) :
    wpAny (model p.prog p.w) A t (NP p env.locals outer h₀ hid R Q) (EP p env.locals outer h₀ hid X) s :=
  H.use hA S k fun _ _ h₂ y st' k2 _ S2 r q => ⟨h₂, y, st', k2, S2, r, q⟩
theorem GF.at {y : β} {f : α → Sem γ} {Q : δ → St → Prop} {v : α} (H : GF p n b env R y R' f Q X st) (hA : AOK n b A env outer) (S : Sat p env.locals outer h₁ s st hid) (hv : R h₁ y v) (k : Sub h₀ h₁) :
    wpAny (model p.prog p.w) A (f v) (NP p env.locals outer h₀ hid R' Q) (EP p env.locals outer h₀ hid X) s :=
  wpAny_mono (H A outer h₁ s hid v hA S hv) (fun _ _ z_ => z_.elim fun h₂ y st' k2 S2 r q => ⟨h₂, y, st', k.trans k2, S2, r, q⟩) fun _ _ e => EP.mono k (fun _ _ z => z) e
theorem GV2.at {a c : AV} {f : Value → Value → Sem γ} {Q : δ → St → Prop} {v u : Value} (H : GV2 p n b env a c R' f Q X st) (hA : AOK n b A env outer) (S : Sat p env.locals outer h₁ s st hid) (hv : VR h₁ a v) (hu : VR h₁ c u) (k : Sub h₀ h₁) :
    wpAny (model p.prog p.w) A (f v u) (NP p env.locals outer h₀ hid R' Q) (EP p env.locals outer h₀ hid X) s :=
  wpAny_mono (H A outer h₁ s hid v u hA S hv hu) (fun _ _ z_ => z_.elim fun h₂ y st' k2 S2 r q => ⟨h₂, y, st', k.trans k2, S2, r, q⟩) fun _ _ e => EP.mono k (fun _ _ z => z) e
theorem GW.mono {Q Q' : β → St → Prop} {X' : Value → St → Prop} (H : GW p n b env R t Q X st) (hq : ∀ y st, Q y st → Q' y st) (hx : ∀ c st, X c st → X' c st) : GW p n b env R t Q' X' st :=
  GW.mk fun A outer h₀ s hid hA S => wpAny_mono (H A outer h₀ s hid hA S) (fun _ _ z_ => z_.elim fun h₂ y st' k2 S2 r q => ⟨h₂, y, st', k2, S2, r, hq _ _ q⟩) fun _ _ e => EP.mono (.refl _) hx e
theorem GW.bind {f : α → Sem γ} {Q : δ → St → Prop} (H : GW p n b env R t (fun y st1 => GF p n b env R y R' f Q X st1) X st) : GW p n b env R' (t >>= f) Q X st :=
  GW.mk fun _ _ _ _ _ hA S => wpAny_bind (H.use hA S (.refl _) fun _ _ _ _ _ k _ S1 r q => q.at hA S1 r k)
theorem NP.mk {Q : β → St → Prop} {v : α} {y : β} (S : Sat p L outer h₁ s st hid) (k : Sub h₀ h₁) (r : R h₁ y v) (q : Q y st) : NP p L outer h₀ hid R Q v s := ⟨h₁, y, st, k, S, r, q⟩
end

section
variable {p : PC} {n : Nat} {b : Mode} {env : Env} {X : Value → St → Prop} {st : St}

noncomputable abbrev EW (p : PC) (n : Nat) (b : Mode) (env : Env) (e : Expr) (Q : AV → St → Prop) (X : Value → St → Prop) (st : St) : Prop := GW p n b env VR (eval e env) Q X st
noncomputable abbrev TW (p : PC) (n : Nat) (b : Mode) (env : Env) (e : Expr) (Q : Bool → St → Prop) (X : Value → St → Prop) (st : St) : Prop := GW p n b env BR (isTrue e env (eval e env)) Q X st
noncomputable abbrev SW (p : PC) (n : Nat) (b : Mode) (env : Env) (l : List Stmt) (Q : AF → St → Prop) (X : Value → St → Prop) (st : St) : Prop := GW p n b env FR (execs l env) Q X st
noncomputable abbrev XW (p : PC) (n : Nat) (b : Mode) (env : Env) (x : Stmt) (Q : AF → St → Prop) (X : Value → St → Prop) (st : St) : Prop := GW p n b env FR (exec x env) Q X st

/-! constants and names -/
theorem EW.int {i : Int} {k : Nat} {pos : Pos} {Q : AV → St → Prop} (h : Q (.int i) st) : EW p n b env (.Constant (.int i) k pos) Q X st :=
  GW.mk fun _ _ _ _ _ _ S => wpAny_Constant_int (NP.mk (S.of_eq rfl rfl rfl) (.refl _) (.int ..) h)
theorem EW.str {x : Str} {k : Nat} {pos : Pos} {Q : AV → St → Prop} (h : Q (.str x) st) : EW p n b env (.Constant (.str x) k pos) Q X st :=
  GW.mk fun _ _ _ _ _ _ S => Constant_str (NP.mk (S.of_eq rfl rfl rfl) (.refl _) (.str ..) h)
theorem EW.bool {c : Bool} {k : Nat} {pos : Pos} {Q : AV → St → Prop} (h : Q (.bool c) st) : EW p n b env (.Constant (.bool c) k pos) Q X st :=
  GW.mk fun _ _ _ _ _ _ S => Constant_bool (NP.mk S (.refl _) (.bool ..) h)
theorem EW.noneC {k : Nat} {pos : Pos} {Q : AV → St → Prop} (h : Q .none st) : EW p n b env (.Constant .none k pos) Q X st :=
  GW.mk fun _ _ _ _ _ _ S => Constant_none (NP.mk S (.refl _) .none h)
theorem EW.var {x : String} {pos : Pos} {v : AV} {Q : AV → St → Prop} (hv : st.ρ x = some v) (h : Q v st)
    (hl : env.kindOf (Str.ofString x) = some .local := by rfl) (hd : (Str.ofString x == ("__debug__" : Str)) = false := by decide +kernel) : EW p n b env (.Name (Str.ofString x) pos) Q X st :=
  GW.mk fun _ _ _ _ _ hA S => by
    obtain ⟨m, hn, hm⟩ := S.loc
    obtain ⟨u, e1, e2⟩ := hm x v hv
    exact wpAny_Name (wpAny_loadName_local hA.kind hl hn e1 (NP.mk S (.refl _) e2 h)) hd
/-- a name of the top whose value K tells -/
theorem EW.glob {x : Str} {pos : Pos} {v : Value} {av : AV} {Q : AV → St → Prop} (e : nsIn p.K mainGlobals x = some (some v)) (hv : VR p.base av v) (h : Q av st)
    (hx : env.kindOf x = some .globalImplicit := by rfl) (hd : (x == ("__debug__" : Str)) = false := by decide +kernel) : EW p n b env (.Name x pos) Q X st :=
  GW.mk fun _ _ _ _ _ hA S => Name_function_global hA.kind hx (loadGlobal_global (hA.glob ▸ p.hT.g.keeps (S.base.trans S.sub)) (mg_of p.hK p.hT.g e) (NP.mk S (.refl _) (hv.mono S.base) h)) hd

/-! control of expressions -/
theorem EW.binop {l r : Expr} {op : Operator} {pos : Pos} {Q : AV → St → Prop}
    (H : EW p n b env l (fun a st1 => EW p n b env r (fun c st2 => GV2 p n b env a c VR (binaryOp op) Q X st2) X st1) X st) : EW p n b env (.BinOp l op r pos) Q X st :=
  GW.mk fun _ _ _ _ _ hA S => wpAny_BinOp (H.use hA S (.refl _) fun _ _ _ _ _ k1 _ S1 hv H1 => H1.use hA S1 k1 fun _ _ _ _ _ k2 k12 S2 hu H2 => H2.at hA S2 (hv.mono k12) hu k2)
theorem EW.cmp {l r : Expr} {op : CmpOp} {pos : Pos} {Q : AV → St → Prop}
    (H : EW p n b env l (fun a st1 => EW p n b env r (fun c st2 => GV2 p n b env a c VR (compareOp op) Q X st2) X st1) X st)
    (hm : behindInMarks op r = false := by with_unfolding_all rfl) : EW p n b env (.Compare l [op] [r] pos) Q X st :=
  GW.mk fun _ _ _ _ _ hA S => wpAny_Compare1 (H.use hA S (.refl _) fun _ _ _ _ _ k1 _ S1 hv H1 => H1.use hA S1 k1 fun _ _ _ _ _ k2 k12 S2 hu H2 => H2.at hA S2 (hv.mono k12) hu k2) hm
theorem EW.unop {x : Expr} {op : UnaryOp} {pos : Pos} {Q : AV → St → Prop}
    (H : EW p n b env x (fun a st1 => GF p n b env VR a VR (unaryOp op) Q X st1) X st) : EW p n b env (.UnaryOp op x pos) Q X st :=
  GW.mk fun _ _ _ _ _ hA S => UnaryOp_ (H.use hA S (.refl _) fun _ _ _ _ _ k1 _ S1 hv H1 => H1.at hA S1 hv k1)
theorem EW.ifexp {t x y : Expr} {pos : Pos} {Q : AV → St → Prop}
    (H : TW p n b env t (fun c st1 => if c then EW p n b env x Q X st1 else EW p n b env y Q X st1) X st) : EW p n b env (.IfExp t x y pos) Q X st :=
  GW.mk fun _ _ _ _ _ hA S => IfExp_ (H.use hA S (.refl _) fun c _ _ y _ k1 _ S1 hv H1 => by
    obtain rfl : y = c := hv
    cases y
    · exact GW.at H1 hA S1 k1
    · exact GW.at H1 hA S1 k1)

/-! truth -/
theorem TW.cmp {l r : Expr} {op : CmpOp} {pos : Pos} {Q : Bool → St → Prop}
    (H : EW p n b env l (fun a st1 => EW p n b env r (fun c st2 => GV2 p n b env a c VR (compareOp op) (fun d st3 => GF p n b env VR d BR truthy Q X st3) X st2) X st1) X st)
    (hm : behindInMarks op r = false := by with_unfolding_all rfl) : TW p n b env (.Compare l [op] [r] pos) Q X st :=
  GW.mk fun _ _ _ _ _ hA S => wpAny_isTrue_Compare1 (H.use hA S (.refl _) fun _ _ _ _ _ k1 _ S1 hv H1 => H1.use hA S1 k1 fun _ _ _ _ _ k2 k12 S2 hu H2 =>
    wpAny_mono (H2 _ _ _ _ _ _ _ hA S2 (hv.mono k12) hu) (fun _ _ z_ => z_.elim fun _ _ _ k3 S3 r3 H3 => H3.at hA S3 r3 (k2.trans k3)) fun _ _ e => EP.mono k2 (fun _ _ z => z) e) hm
theorem TW.not {x : Expr} {pos : Pos} {Q : Bool → St → Prop} (H : TW p n b env x (fun c st1 => Q (!c) st1) X st) : TW p n b env (.UnaryOp .Not x pos) Q X st :=
  GW.mk fun _ _ _ _ _ hA S => isTrue_not (H.use hA S (.refl _) fun c _ _ y _ k1 _ S1 hv H1 => by obtain rfl : y = c := hv; exact NP.mk S1 k1 rfl H1)
theorem TW.and {x : Expr} {rest : List Expr} {pos : Pos} {Q : Bool → St → Prop} (H : TW p n b env x (fun c st1 => if c then TW p n b env (.BoolOp .And rest pos) Q X st1 else Q false st1) X st) : TW p n b env (.BoolOp .And (x :: rest) pos) Q X st :=
  GW.mk fun _ _ _ _ _ hA S => isTrue_and (H.use hA S (.refl _) fun c _ _ y _ k1 _ S1 hv H1 => by
    obtain rfl : y = c := hv
    cases y
    · exact NP.mk S1 k1 rfl H1
    · exact GW.at H1 hA S1 k1)
theorem TW.or {x : Expr} {rest : List Expr} {pos : Pos} {Q : Bool → St → Prop} (H : TW p n b env x (fun c st1 => if c then Q true st1 else TW p n b env (.BoolOp .Or rest pos) Q X st1) X st) : TW p n b env (.BoolOp .Or (x :: rest) pos) Q X st :=
  GW.mk fun _ _ _ _ _ hA S => isTrue_or (H.use hA S (.refl _) fun c _ _ y _ k1 _ S1 hv H1 => by
    obtain rfl : y = c := hv
    cases y
    · exact GW.at H1 hA S1 k1
    · exact NP.mk S1 k1 rfl H1)
theorem TW.and_nil {pos : Pos} {Q : Bool → St → Prop} (H : Q true st) : TW p n b env (.BoolOp .And [] pos) Q X st := GW.mk fun _ _ _ _ _ _ S => isTrue_and_nil (NP.mk S (.refl _) rfl H)
theorem TW.or_nil {pos : Pos} {Q : Bool → St → Prop} (H : Q false st) : TW p n b env (.BoolOp .Or [] pos) Q X st := GW.mk fun _ _ _ _ _ _ S => isTrue_or_nil (NP.mk S (.refl _) rfl H)
theorem TW.plain {e : Expr} {Q : Bool → St → Prop} (H : EW p n b env e (fun d st1 => GF p n b env VR d BR truthy Q X st1) X st)
    (he : isTrue e env (eval e env) = (do let v ← eval e env; standAt e.pos; holding [v] (truthy v)) := by rfl) : TW p n b env e Q X st :=
  GW.mk fun _ _ _ _ _ hA S => isTrue_plain (H.use hA S (.refl _) fun _ _ _ _ _ k1 _ S1 hv H1 => H1.at hA S1 hv k1) he

theorem truthy_bool {c : Bool} {Q : Bool → St → Prop} (h : Q c st) : GF p n b env VR (.bool c) BR truthy Q X st :=
  GF.mk fun _ _ _ _ _ _ _ S hv => by cases hv; exact wpAny_truthy_bool (NP.mk S (.refl _) rfl h)

/-! statements -/
theorem SW.nil {Q : AF → St → Prop} (h : Q .next st) : SW p n b env [] Q X st := GW.mk fun _ _ _ _ _ _ S => wpAny_execs_nil (NP.mk S (.refl _) .next h)
theorem SW.cons {x : Stmt} {rest : List Stmt} {Q : AF → St → Prop} (H : XW p n b env x (fun f st1 => match f with | .next => SW p n b env rest Q X st1 | f => Q f st1) X st) : SW p n b env (x :: rest) Q X st :=
  GW.mk fun _ _ _ _ _ hA S => wpAny_execs_cons (H.use hA S (.refl _) fun f _ _ y _ k1 _ S1 hv H1 => by
    cases hv with
    | next => exact GW.at H1 hA S1 k1
    | brk => exact NP.mk S1 k1 .brk H1
    | cont => exact NP.mk S1 k1 .cont H1
    | ret hv => exact NP.mk S1 k1 (.ret hv) H1)
theorem storeW {x : String} {a : AV} {Q : Unit → St → Prop} (h : Q () (st.set x a)) (hl : env.kindOf (Str.ofString x) = some .local := by rfl) :
    GF p n b env VR a UR (fun v => storeName env (Str.ofString x) v) Q X st :=
  GF.mk fun _ _ _ _ _ _ hA S hv => by
    obtain ⟨m, hn, hm⟩ := S.loc
    refine wpAny_storeName_local hl hn (fun h' hn' hs => ?_) (by rw [hA.kind]; rfl)
    exact NP.mk (S.setL hv hn hm hn' hs rfl rfl) (.refl _) trivial h
theorem XW.assign {x : String} {e : Expr} {pos' pos : Pos} {Q : AF → St → Prop} (H : EW p n b env e (fun a st1 => Q .next (st1.set x a)) X st)
    (hl : env.kindOf (Str.ofString x) = some .local := by rfl) (hs : swapsWith e (some (.Name (Str.ofString x) pos')) pos.line env = pure false := by rfl) : XW p n b env (.Assign [.Name (Str.ofString x) pos'] e pos) Q X st :=
  GW.mk fun _ _ _ _ _ hA S => wpAny_Assign_Name (H.use hA S (.refl _) fun _ _ _ _ _ k1 _ S1 hv H1 =>
    wpAny_mono (GF.at (storeW (Q := fun _ st => Q .next st) H1 hl) hA S1 hv k1) (fun _ _ z_ => z_.elim fun h2 _ st2 k2 S2 _ q => NP.mk S2 k2 .next q) fun _ _ e => e) hs
theorem XW.aug {x : String} {e : Expr} {op : Operator} {pos' pos : Pos} {old : AV} {Q : AF → St → Prop} (ho : st.ρ x = some old)
    (H : EW p n b env e (fun a st1 => GV2 p n b env old a VR (inplaceOp op) (fun c st2 => Q .next (st2.set x c)) X st1) X st)
    (hl : env.kindOf (Str.ofString x) = some .local := by rfl) : XW p n b env (.AugAssign (.Name (Str.ofString x) pos') op e pos) Q X st :=
  GW.mk fun _ _ _ _ _ hA S => by
    obtain ⟨m, hn, hm⟩ := S.loc
    obtain ⟨u, e1, e2⟩ := hm x old ho
    refine wpAny_AugAssign_Name (wpAny_loadName_local hA.kind hl hn e1 (H.use hA S (.refl _) fun v s1 h1 a st1 k1 _ S1 hv H1 => ?_))
    refine wpAny_mono (H1 _ _ _ _ _ _ _ hA S1 (e2.mono k1) hv) (fun w s2 z_ => z_.elim fun h2 c st2 k2 S2 hw H2 => ?_) fun _ _ e => EP.mono k1 (fun _ _ z => z) e
    exact wpAny_mono (GF.at (storeW (Q := fun _ st => Q .next st) H2 hl) hA S2 hw (k1.trans k2)) (fun _ _ z_ => z_.elim fun h2 _ st2 k2 S2 _ q => NP.mk S2 k2 .next q) fun _ _ e => e
theorem XW.iff {t : Expr} {x y : List Stmt} {pos : Pos} {Q : AF → St → Prop} (H : TW p n b env t (fun c st1 => if c then SW p n b env x Q X st1 else SW p n b env y Q X st1) X st) : XW p n b env (.If t x y pos) Q X st :=
  GW.mk fun _ _ _ _ _ hA S => wpAny_If (H.use hA S (.refl _) fun c _ _ y _ k1 _ S1 hv H1 => by
    obtain rfl : y = c := hv
    cases y
    · exact GW.at H1 hA S1 k1
    · exact GW.at H1 hA S1 k1)
theorem XW.ret {e : Expr} {pos : Pos} {Q : AF → St → Prop} (H : EW p n b env e (fun a st1 => Q (.ret a) st1) X st) : XW p n b env (.Return (some e) pos) Q X st :=
  GW.mk fun _ _ _ _ _ hA S => wpAny_Return_some (H.use hA S (.refl _) fun _ _ _ _ _ k1 _ S1 hv H1 => NP.mk S1 k1 (.ret hv) H1)
theorem XW.pass {pos : Pos} {Q : AF → St → Prop} (h : Q .next st) : XW p n b env (.Pass pos) Q X st := GW.mk fun _ _ _ _ _ _ S => wpAny_Pass (NP.mk S (.refl _) .next h)
theorem XW.brk {pos : Pos} {Q : AF → St → Prop} (h : Q .brk st) : XW p n b env (.Break pos) Q X st := GW.mk fun _ _ _ _ _ _ S => by
  rw [arm_exec_Break]; exact wpAny_bind (wpAny_standAt (wpAny_pure (NP.mk S (.refl _) .brk h)))
theorem XW.cont {pos : Pos} {Q : AF → St → Prop} (h : Q .cont st) : XW p n b env (.Continue pos) Q X st := GW.mk fun _ _ _ _ _ _ S => by
  rw [arm_exec_Continue]; exact wpAny_bind (wpAny_standAt (wpAny_pure (NP.mk S (.refl _) .cont h)))
theorem XW.expr {e : Expr} {pos : Pos} {Q : AF → St → Prop} (H : EW p n b env e (fun _ st1 => Q .next st1) X st) (hi : interactive env = false := by rfl) (hs : swapsWith e none pos.line env = pure false := by rfl) : XW p n b env (.Expr e pos) Q X st :=
  GW.mk fun _ _ _ _ _ hA S => wpAny_Expr_any (H.use hA S (.refl _) fun _ _ _ _ _ k1 _ S1 _ H1 => NP.mk S1 k1 .next H1) hi hs
end

end Mine

end

section
open PySem PySem.W PyProof.Rows PySem.Calls
namespace Mine

section
variable {p : PC} {n : Nat} {b : Mode} {env : Env} {X : Value → St → Prop} {st : St}

theorem sizeLine_val : sizeLine = 16777216 := by decide

/-! displays -/
noncomputable abbrev LW (p : PC) (n : Nat) (b : Mode) (env : Env) (pos : Pos) (l : List Expr) (Q : List AV → St → Prop) (X : Value → St → Prop) (st : St) : Prop := GW p n b env VRs (spliced (backTo pos (starEach l env))) Q X st
theorem LW.nil {pos : Pos} {Q : List AV → St → Prop} (h : Q [] st) : LW p n b env pos [] Q X st := GW.mk fun _ _ _ _ _ _ S => spliced_nil (NP.mk S (.refl _) .nil h)
theorem LW.cons {pos : Pos} {e : Expr} {l : List Expr} {Q : List AV → St → Prop} (H : EW p n b env e (fun a st1 => LW p n b env pos l (fun r st2 => Q (a :: r) st2) X st1) X st)
    (hs : backTo pos (starEach (e :: l) env) = (false, eval e env) :: backTo pos (starEach l env) := by rfl) : LW p n b env pos (e :: l) Q X st :=
  GW.mk fun _ _ _ _ _ hA S => by
    rw [hs]
    exact spliced_cons (H.use hA S (.refl _) fun _ _ _ _ _ k1 _ S1 hv H1 => H1.use hA S1 k1 fun _ _ _ _ _ k2 k12 S2 hu q => NP.mk S2 k2 (.cons (hv.mono k12) hu) q)

theorem newTupleW {as : List AV} {Q : AV → St → Prop} (h : Q (.tup as) st) (hz : as.length ≤ 16777216 := by simp) : GF p n b env VRs as VR newTuple Q X st :=
  GF.mk fun _ _ _ s _ vs _ S hv => by
    unfold newTuple
    refine wpAny_newObj_type ?_ (by show vs.toArray.size ≤ sizeLine; rw [List.size_toArray, hv.length, sizeLine_val]; exact hz)
    obtain ⟨h₁, k, S', e⟩ := S.pushF (s' := { s with heap := s.heap.push (tupObj vs 0) }) (tupObj vs 0) rfl rfl rfl rfl
    exact NP.mk S' k (.tup e (hv.mono k)) h
theorem newListW {as : List AV} {Q : AV → St → Prop} (h : Q (.lst as) st) (hz : as.length ≤ 16777216 := by simp) : GF p n b env VRs as VR newList Q X st :=
  GF.mk fun _ _ _ s _ vs _ S hv => by
    unfold newList
    refine wpAny_newObj_type ?_ (by show vs.toArray.size ≤ sizeLine; rw [List.size_toArray, hv.length, sizeLine_val]; exact hz)
    obtain ⟨h₁, k, S', e⟩ := S.pushF (s' := { s with heap := s.heap.push (lstObj vs 0) }) (lstObj vs 0) rfl rfl rfl rfl
    exact NP.mk S' k (.lst e (hv.mono k)) h
theorem newListM {as : List AV} {Q : AV → St → Prop} (h : ∀ a, st.σ a = none → Q (.ref a) (st.put a (.list as))) (hz : as.length ≤ 16777216 := by simp) : GF p n b env VRs as VR newList Q X st :=
  GF.mk fun _ _ _ s _ vs _ S hv => by
    unfold newList
    refine wpAny_newObj_type ?_ (by show vs.toArray.size ≤ sizeLine; rw [List.size_toArray, hv.length, sizeLine_val]; exact hz)
    obtain ⟨f, S'⟩ := S.pushO (s' := { s with heap := s.heap.push (lstObj vs 0) }) (.list as) rfl rfl rfl ⟨vs, 0, Heap.get?_push_size _ rfl, hv⟩
    exact NP.mk S' (.refl _) (.ref _) (h _ f)
theorem EW.tup {l : List Expr} {k : Nat} {pos : Pos} {Q : AV → St → Prop} (H : LW p n b env pos l (fun as st1 => Q (.tup as) st1 ∧ as.length ≤ 16777216) X st) : EW p n b env (.Tuple l k pos) Q X st :=
  GW.mk fun _ _ _ _ _ hA S => Tuple_ (H.use hA S (.refl _) fun _ _ _ _ _ k1 _ S1 hv q => GF.at (newTupleW q.1 q.2) hA S1 hv k1)
theorem EW.list {l : List Expr} {pos : Pos} {Q : AV → St → Prop} (H : LW p n b env pos l (fun as st1 => Q (.lst as) st1 ∧ as.length ≤ 16777216) X st) : EW p n b env (.List l pos) Q X st :=
  GW.mk fun _ _ _ _ _ hA S => List_ (H.use hA S (.refl _) fun _ _ _ _ _ k1 _ S1 hv q => GF.at (newListW q.1 q.2) hA S1 hv k1)
theorem EW.listM {l : List Expr} {pos : Pos} {Q : AV → St → Prop} (H : LW p n b env pos l (fun as st1 => (∀ a, st1.σ a = none → Q (.ref a) (st1.put a (.list as))) ∧ as.length ≤ 16777216) X st) : EW p n b env (.List l pos) Q X st :=
  GW.mk fun _ _ _ _ _ hA S => List_ (H.use hA S (.refl _) fun _ _ _ _ _ k1 _ S1 hv q => GF.at (newListM q.1 q.2) hA S1 hv k1)

/-! a list, frozen or not -/
noncomputable def IsL (σ : Addr → Option AObj) (a : AV) (l : List AV) : Prop := a = .lst l ∨ ∃ x, a = .ref x ∧ σ x = some (.list l)
theorem IsL.at {L : Addr} {outer : List Env} {h₀ : Heap} {s : Shared} {hid : Hid} {a : AV} {l : List AV} {v : Value} (h : IsL st.σ a l) (S : Sat p L outer h₀ s st hid) (hv : VR h₀ a v) :
    ∃ x vs k, v = .ref x ∧ s.heap.get? x = some (lstObj vs k) ∧ VRs h₀ l vs := by
  rcases h with rfl | ⟨x, rfl, e⟩
  · cases hv with | lst e r => exact ⟨_, _, _, rfl, S.sub _ _ e, r⟩
  · cases hv
    obtain ⟨vs, k, e1, r⟩ := (S.obj _ _ e).1
    exact ⟨_, vs, k, rfl, e1, r⟩
theorem lst_is {h : Heap} {x : Addr} {vs : List Value} {k : Nat} (e : h.get? x = some (lstObj vs k)) : h.IsList x vs.toArray := ⟨_, e, rfl, k, rfl⟩
theorem tup_is {h : Heap} {x : Addr} {vs : List Value} {k : Nat} (e : h.get? x = some (tupObj vs k)) : IsTup h x vs.toArray := ⟨_, e, rfl, k, rfl⟩

/-! subscripts -/
noncomputable def isSlice : Expr → Bool
  | .Slice .. => true
  | _ => false
theorem subscripted_plain {slice : Expr} {o i : Value} (h : isSlice slice = false) : subscripted slice false o i = operate [o, i] (getItem o i) := by
  unfold subscripted
  cases slice <;> first | rfl | cases h
theorem EW.sub {value slice : Expr} {pos : Pos} {Q : AV → St → Prop} (H : EW p n b env value (fun a st1 => EW p n b env slice (fun c st2 => GV2 p n b env a c VR (subscriptTail value slice) Q X st2) X st1) X st) : EW p n b env (.Subscript value slice pos) Q X st :=
  GW.mk fun _ _ _ _ _ hA S => Subscript_ (H.use hA S (.refl _) fun _ _ _ _ _ k1 _ S1 hv H1 => H1.use hA S1 k1 fun _ _ _ _ _ k2 k12 S2 hu H2 => H2.at hA S2 (hv.mono k12) hu k2)
theorem idx_list {value slice : Expr} {a x : AV} {l : List AV} {i : Int} {Q : AV → St → Prop} (hl : IsL st.σ a l) (h0 : 0 ≤ i) (hx : l[i.toNat]? = some x) (h : Q x st) (hs : isSlice slice = false := by rfl) (hi : i < 2 ^ 63 := by (first | lia | omega)) :
    GV2 p n b env a (.int i) VR (subscriptTail value slice) Q X st :=
  GV2.mk fun _ _ _ _ _ _ _ _ S hv hu => by
    cases hu
    obtain ⟨y, vs, k, rfl, e, r⟩ := hl.at S hv
    obtain ⟨v, e1, e2⟩ := r.get hx
    exact tail_any (lst_is e).typeIs slot_list_getitem.lookup (wpAny_getItem_list (lst_is e) h0 hi (by simpa using e1) (NP.mk S (.refl _) e2 h)) (subscripted_plain hs)
theorem idx_tup {value slice : Expr} {x : AV} {l : List AV} {i : Int} {j : Nat} {Q : AV → St → Prop} (hj : seqIndex? i l.length = some j) (hx : l[j]? = some x) (h : Q x st) (hs : isSlice slice = false := by rfl) (h0 : -(2 ^ 63) ≤ i := by (first | lia | omega)) (hi : i < 2 ^ 63 := by (first | lia | omega)) :
    GV2 p n b env (.tup l) (.int i) VR (subscriptTail value slice) Q X st :=
  GV2.mk fun _ _ _ _ _ _ _ _ S hv hu => by
    cases hu
    cases hv with | tup e r =>
    obtain ⟨v, e1, e2⟩ := r.get hx
    have e := S.sub _ _ e
    exact tail_any (tup_is e).typeIs slot_tuple_getitem.lookup (getItem_tuple (tup_is e) h0 hi (by simpa [r.length] using hj) (by simpa using e1) (NP.mk S (.refl _) e2 h)) (subscripted_plain hs)

/-! slices -/
inductive PartA : AV → Option Int → Prop
  | none : PartA .none none
  | int (i : Int) : PartA (.int i) (some i)
theorem PartA.is {h : Heap} {a : AV} {o : Option Int} {v : Value} (x : PartA a o) (hv : VR h a v) : IsPart v o := by
  cases x <;> cases hv <;> constructor
noncomputable abbrev OW (p : PC) (n : Nat) (b : Mode) (env : Env) (o : Option Expr) (Q : AV → St → Prop) (X : Value → St → Prop) (st : St) : Prop := GW p n b env VR (valueOrNone (evalOpt o env)) Q X st
theorem OW.no {Q : AV → St → Prop} (h : Q .none st) : OW p n b env none Q X st := GW.mk fun _ _ _ _ _ _ S => wpAny_pure (NP.mk S (.refl _) .none h)
theorem OW.yes {e : Expr} {Q : AV → St → Prop} (h : EW p n b env e Q X st) : OW p n b env (some e) Q X st := h
/-- the read of a slice: base, lower, upper -/
noncomputable def CutW (p : PC) (n : Nat) (b : Mode) (env : Env) (a c d : AV) (Q : AV → St → Prop) (X : Value → St → Prop) (st : St) : Prop :=
  ∀ A outer h₀ s hid v u w (value slice : Expr), AOK n b A env outer → Sat p env.locals outer h₀ s st hid → VR h₀ a v → VR h₀ c u → VR h₀ d w →
    (∀ o i : Value, subscripted slice false o i = operate [i, o] (getItem o i)) →
    wpAny (model p.prog p.w) A (subscriptTail value slice v (.ref s.heap.objs.size)) (NP p env.locals outer h₀ hid VR Q) (EP p env.locals outer h₀ hid X) { s with heap := s.heap.push { cls := .type "slice", data := .fields #[u, w, .none] } }
theorem EW.cut {value : Expr} {lo hi : Option Expr} {sp pos : Pos} {Q : AV → St → Prop}
    (H : EW p n b env value (fun a st1 => OW p n b env lo (fun c st2 => OW p n b env hi (fun d st3 => CutW p n b env a c d Q X st3) X st2) X st1) X st) : EW p n b env (.Subscript value (.Slice lo hi none sp) pos) Q X st :=
  GW.mk fun _ _ _ _ _ hA S => Subscript_ (H.use hA S (.refl _) fun v s1 h1 a st1 k1 _ S1 hv H1 => by
    rw [arm_eval_Slice]
    refine wpAny_bind (H1.use hA S1 k1 fun u s2 h2 c st2 k2 k12 S2 hu H2 => ?_)
    refine wpAny_bind (wpAny_holding (H2.use hA S2 k2 fun w s3 h3 d st3 k3 k23 S3 hw H3 => ?_))
    refine wpAny_bind (wpAny_holding (wpAny_pure (a := Value.none) ?_))
    unfold newFields
    refine wpAny_newObj_type ?_ (by show (3 : Nat) ≤ sizeLine + 2; decide)
    exact wpAny_mono (H3 _ _ _ _ _ _ _ _ value _ hA S3 ((hv.mono k12).mono k23) (hu.mono k23) hw fun _ _ => rfl)
      (fun _ _ z_ => z_.elim fun h4 y st4 k4 S4 r q => ⟨h4, y, st4, k3.trans k4, S4, r, q⟩) fun _ _ e => EP.mono k3 (fun _ _ z => z) e)

theorem pick_from {vs : List Value} {x : Int} (h : 0 ≤ x) : slicePick vs.toArray (some x) none none = (vs.drop x.toNat).toArray := by
  rw [kms_pick_eq]
  unfold kms_pick
  simp only [kms_lo, kms_hi, if_neg (Int.not_lt.mpr h), kmk_drop_min]
  rw [List.take_of_length_le (by rw [List.length_drop]; exact Nat.sub_le_sub_left (Nat.min_le_left ..) _)]
theorem pick_upto {vs : List Value} {y : Int} (h : 0 ≤ y) : slicePick vs.toArray none (some y) none = (vs.take y.toNat).toArray := by
  rw [kms_pick_eq]
  unfold kms_pick
  simp only [kms_lo, kms_hi, if_neg (Int.not_lt.mpr h), List.drop_zero, Nat.sub_zero, kmk_take_min]
theorem pick_run {vs : List Value} {x y : Int} (h : 0 ≤ x) (h2 : 0 ≤ y) : slicePick vs.toArray (some x) (some y) none = ((vs.drop x.toNat).take (y.toNat - x.toNat)).toArray := by
  rw [kms_pick_eq]
  unfold kms_pick
  simp only [kms_lo, kms_hi, if_neg (Int.not_lt.mpr h), if_neg (Int.not_lt.mpr h2), kmk_drop_min]
  congr 1
  rw [List.take_eq_take_iff, List.length_drop, Nat.sub_min_sub_right]
  rcases Nat.le_total x.toNat vs.length with q | q
  · rw [Nat.min_eq_left q, Nat.sub_min_sub_right, Nat.min_assoc, Nat.min_self]
  · rw [Nat.sub_eq_zero_of_le q, Nat.min_zero, Nat.sub_eq_zero_of_le (Nat.le_trans (Nat.min_le_right ..) q)]

theorem cut_listG {a c d : AV} {lo hi : Option Int} {l l' : List AV} {Q : AV → St → Prop} (hl : IsL st.σ a l) (pc : PartA c lo) (pd : PartA d hi)
    (hp : ∀ {h vs}, VRs h l vs → ∃ ws, slicePick vs.toArray lo hi none = ws.toArray ∧ VRs h l' ws) (h : Q (.lst l') st) (hz : l.length ≤ 16777216) : CutW p n b env a c d Q X st :=
  fun A outer h₀ s hid v u w value slice hA S hv hu hw hsub => by
    obtain ⟨y, vs, k, rfl, e, r⟩ := hl.at S hv
    obtain ⟨ws, e1, r'⟩ := hp r
    have hl' := (lst_is e).push { cls := .type "slice", data := .fields #[u, w, .none] }
    refine tail_any (Heap.IsList.typeIs (s := { s with heap := s.heap.push { cls := .type "slice", data := .fields #[u, w, .none] } }) hl') list_getitem_lookup
      (wpAny_getItem_list_slice hl' (Heap.IsSliceOf.new ..) (pc.is hu) (pd.is hw) .none (by simp) ?_ (by rw [List.size_toArray, r.length, sizeLine_val]; exact hz)) (hsub _ _)
    have S1 := S.grow (s' := { s with heap := s.heap.push { cls := .type "slice", data := .fields #[u, w, .none] } }) (Sub.push _ _) rfl S.gens
    rw [e1]
    obtain ⟨h₁, k1, S2, e2⟩ := S1.pushF (s' := { s with heap := (s.heap.push { cls := .type "slice", data := .fields #[u, w, .none] }).push (lstObj ws 0) }) (lstObj ws 0) rfl rfl rfl rfl
    exact NP.mk S2 k1 (.lst e2 (r'.mono k1)) h
theorem cut_from {a : AV} {l : List AV} {x : Int} {Q : AV → St → Prop} (hl : IsL st.σ a l) (h : Q (.lst (l.drop x.toNat)) st) (hz : l.length ≤ 16777216) (hx : 0 ≤ x := by (first | lia | omega)) : CutW p n b env a (.int x) .none Q X st :=
  cut_listG hl (.int x) .none (fun r => ⟨_, pick_from hx, r.drop _⟩) h hz
theorem cut_upto {a : AV} {l : List AV} {y : Int} {Q : AV → St → Prop} (hl : IsL st.σ a l) (h : Q (.lst (l.take y.toNat)) st) (hz : l.length ≤ 16777216) (hy : 0 ≤ y := by (first | lia | omega)) : CutW p n b env a .none (.int y) Q X st :=
  cut_listG hl .none (.int y) (fun r => ⟨_, pick_upto hy, r.take _⟩) h hz
theorem cut_run {a : AV} {l : List AV} {x y : Int} {Q : AV → St → Prop} (hl : IsL st.σ a l) (h : Q (.lst ((l.drop x.toNat).take (y.toNat - x.toNat))) st) (hz : l.length ≤ 16777216) (hx : 0 ≤ x := by (first | lia | omega)) (hy : 0 ≤ y := by (first | lia | omega)) : CutW p n b env a (.int x) (.int y) Q X st :=
  cut_listG hl (.int x) (.int y) (fun r => ⟨_, pick_run hx hy, (r.drop _).take _⟩) h hz

theorem cut_str {x : Str} {c d : AV} {lo hi : Option Int} {Q : AV → St → Prop} (pc : PartA c lo) (pd : PartA d hi) (h : Q (.str (Txt.slice x lo hi)) st) (hz : x.length ≤ 16777216) : CutW p n b env (.str x) c d Q X st :=
  fun A outer h₀ s hid v u w value slice hA S hv hu hw hsub => by
    cases hv with | str _ t =>
    have fin : ∀ h' t' k, Sub s.heap h' → NP p env.locals outer h₀ hid VR Q (.str (Txt.slice x lo hi) t') { s with heap := h', toks := k } :=
      fun h' t' k kk => NP.mk (S.grow (s' := { s with heap := h', toks := k }) kk rfl S.gens) (.refl _) (.str ..) h
    have kp : KeptH (Sub s.heap) := fun h' ob q => q.trans (Sub.push _ _)
    have hz' : x.length ≤ sizeLine := by rw [sizeLine_val]; exact hz
    have go : ItemOn (model p.prog p.w) A (EP p env.locals outer h₀ hid X) (.str x t) (.ref s.heap.objs.size) (NP p env.locals outer h₀ hid VR Q) { s with heap := s.heap.push { cls := .type "slice", data := .fields #[u, w, .none] } } := by
      cases pc <;> cases pd <;> cases hu <;> cases hw
      · exact SBH.sliceItem_nn kp (Sub.refl _) fin hz'
      · exact SBH.sliceItem_ns kp (Sub.refl _) fin hz'
      · exact SBH.sliceItem_sn kp (Sub.refl _) fin hz'
      · exact SBH.sliceItem_ss kp (Sub.refl _) fin hz'
    obtain ⟨T, id, hl, hT, hg⟩ := go
    exact tail_any hT hl hg (hsub _ _)
end

end Mine

end

section
open PySem PySem.W PyProof.Rows PySem.Calls
namespace Mine

/-! a def of the text's own is called -/
noncomputable def mkEnv (scope : Scope) (L f : Addr) (q : Str) (cd : Value) : Env :=
  { scope := scope, locals := L, globals := mainGlobals, cells := [], qual := q, func := some f, code := cd, frame := some L, builtins := builtinsNs }

structure FnOK (p : PC) (f : Addr) (params : Arguments) (body : List Stmt) (scope : Scope) (dV : Value) (fo : Obj) (fd : FuncData) : Prop where
  look : p.K.lookup f = some fo
  data : fo.data = .func fd
  params : fd.params = params
  body : fd.body = .stmts body
  scope : fd.scope = scope
  glob : fd.globals = mainGlobals
  bi : fd.builtins = builtinsNs
  clos : fd.closure = []
  dflt : fd.defaults = dV
  kwd : fd.kwdefaults = .none
  code : codeIn p.K fd.code fd.qualname = true

noncomputable def retOf : AF → AV
  | .ret v => v
  | _ => .none

/-- the arguments are bound -/
noncomputable def BindA (p : PC) (fd : FuncData) (as : List AV) (bs : List (String × AV)) : Prop :=
  ∀ A L outer h₀ s st hid vs E (Q : List (Str × Value) → Shared → Prop), Sat p L outer h₀ s st hid → VRs h₀ as vs →
    (∀ h₁ s₁ ws, Sub h₀ h₁ → Sat p L outer h₁ s₁ st hid → VRs h₁ (bs.map (·.2)) ws → Q ((bs.map fun x => Str.ofString x.1).zip ws) s₁) →
    wpAny (model p.prog p.w) A (bindArgs fd ⟨vs, []⟩) Q E s

theorem BindA.plain {p : PC} {fd : FuncData} {as : List AV} {bs : List (String × AV)} (hb : bs.map (·.2) = as) (h : ∀ vs, vs.length = as.length → bindArgs fd ⟨vs, []⟩ = pure ((bs.map fun x => Str.ofString x.1).zip vs)) : BindA p fd as bs :=
  fun _ _ _ h₀ s _ _ vs _ _ S hv k => by
    rw [h vs hv.length]
    exact wpAny_pure (k h₀ s vs (.refl _) S (hb ▸ hv))

theorem lookup_zip_rev {h : Heap} {bs : List (String × AV)} {ws : List Value} (hw : VRs h (bs.map (·.2)) ws) {x : String} {av : AV} (e : bs.reverse.lookup x = some av) :
    ∃ v, ((bs.map fun x => Str.ofString x.1).zip ws).reverse.lookup (Str.ofString x) = some v ∧ VR h av v := by
  have key : ∀ (bs : List (String × AV)) (ws : List Value), VRs h (bs.map (·.2)) ws → ∀ (acc : List (String × AV)) (acc' : List (Str × Value)),
      (∀ x av, acc.lookup x = some av → ∃ v, acc'.lookup (Str.ofString x) = some v ∧ VR h av v) → (∀ x, acc.lookup x = none → acc'.lookup (Str.ofString x) = none) →
      ∀ x av, (bs.reverse ++ acc).lookup x = some av → ∃ v, (((bs.map fun x => Str.ofString x.1).zip ws).reverse ++ acc').lookup (Str.ofString x) = some v ∧ VR h av v := by
    intro bs
    induction bs with
    | nil => intro ws hw acc acc' h1 _ x av e; cases hw; simpa using h1 x av (by simpa using e)
    | cons c r ih =>
      intro ws hw acc acc' h1 h2 x av e
      cases hw with | cons hv hr =>
      rename_i v vs
      have := ih vs hr ((c.1, c.2) :: acc) ((Str.ofString c.1, v) :: acc') ?_ ?_ x av (by simpa using e)
      · simpa using this
      · intro y ay ey
        rw [List.lookup_cons] at ey
        by_cases q : (y == c.1) = true
        · rw [q] at ey
          cases ey
          rw [List.lookup_cons]
          have : (Str.ofString y == Str.ofString c.1) = true := by rw [beq_iff_eq.mp q]; exact beq_self_eq_true _
          rw [this]
          exact ⟨v, rfl, hv⟩
        · have q' : (y == c.1) = false := by simpa using q
          rw [q'] at ey
          rw [List.lookup_cons]
          have : (Str.ofString y == Str.ofString c.1) = false := beq_eq_false_iff_ne.mpr fun z => (beq_eq_false_iff_ne.mp q') (ofString_inj z)
          rw [this]
          exact h1 y ay ey
      · intro y ey
        rw [List.lookup_cons] at ey
        by_cases q : (y == c.1) = true
        · rw [q] at ey; cases ey
        · have q' : (y == c.1) = false := by simpa using q
          rw [q'] at ey
          rw [List.lookup_cons]
          have : (Str.ofString y == Str.ofString c.1) = false := beq_eq_false_iff_ne.mpr fun z => (beq_eq_false_iff_ne.mp q') (ofString_inj z)
          rw [this]
          exact h2 y ey
  have := key bs ws hw [] [] (fun _ _ e => by cases e) (fun _ _ => rfl) x av (by simpa using e)
  simpa using this

section
variable {p : PC} {L L' : Addr} {outer outer' : List Env} {h₀ h₁ : Heap} {s s' : Shared} {st st' : St} {hid : Hid} {m : Str → Option Value}

/-- into a new frame -/
theorem Sat.enter (S : Sat p L outer h₀ s st hid) (hm : s.heap.Ns L m) {ρ' : String → Option AV} {m' : Str → Option Value} (hL' : L' = s.heap.objs.size) (hn : s'.heap.Ns L' m') (k : Sub s.heap s'.heap)
    (hv : ∀ x av, ρ' x = some av → ∃ v, m' (Str.ofString x) = some v ∧ VR h₀ av v) (ho : s'.os = s.os) (hg : s'.gens = s.gens)
    (hout : ∀ e ∈ outer', e ∈ outer ∨ (e.scope.kind ≠ .module ∧ e.frame = some L)) : Sat p L' outer' h₀ s' ⟨ρ', st.σ⟩ (upd hid L (.frame m)) := by
  have G := S.grow (s' := s') k ho (hg ▸ S.gens)
  have np := priv_false.mp S.freshPriv
  rw [← hL'] at np
  have fr : h₀.get? L' = none := hL' ▸ S.fresh₀
  refine ⟨G.base, G.sub, ⟨m', hn, hv⟩, fr, np.2.1, ?_, fun a o e => ⟨(G.obj a o e).1, (G.obj a o e).2.1, ?_⟩, fun a c e => ?_, fun e he => ?_, G.os, G.gens⟩
  · rw [upd_ne _ _ np.1]; exact np.2.2
  · have : a ≠ L := fun q => by have e' : st.σ a = some o := e; rw [q, S.locS] at e'; cases e'
    rw [upd_ne _ _ this]; exact (G.obj a o e).2.2
  · by_cases q : a = L
    · subst q
      rw [upd_same] at e
      cases e
      exact ⟨hm.keeps k, S.locF⟩
    · rw [upd_ne _ _ q] at e; exact G.hidd a c e
  · rcases hout e he with q | ⟨q1, q2⟩
    · obtain ⟨h1, L'', m'', h2, h3⟩ := S.out e q
      refine ⟨h1, L'', m'', h2, ?_⟩
      rw [upd_ne _ _ fun z => by rw [z, S.locH] at h3; cases h3]; exact h3
    · exact ⟨q1, L, m, q2, upd_same ..⟩

/-- back from it -/
theorem Sat.leave (S : Sat p L outer h₀ s st hid) (k : Sub h₀ h₁) (hv : ∀ x av, st.ρ x = some av → ∃ v, m (Str.ofString x) = some v ∧ VR h₀ av v) (S' : Sat p L' outer' h₁ s' st' (upd hid L (.frame m))) : Sat p L outer h₁ s' ⟨st.ρ, st'.σ⟩ hid := by
  have hL := S'.hidd L (.frame m) (upd_same ..)
  have hne : ∀ a c, hid a = some c → a ≠ L := fun a c e q => by rw [q, S.locH] at e; cases e
  refine ⟨S'.base, S'.sub, ⟨m, hL.1, fun x av e => let ⟨v, e1, e2⟩ := hv x av e; ⟨v, e1, e2.mono k⟩⟩, hL.2, ?_, S.locH, fun a o e => ⟨(S'.obj a o e).1, (S'.obj a o e).2.1, ?_⟩, fun a c e => S'.hidd a c (by rw [upd_ne _ _ (hne a c e)]; exact e), S.out, S'.os, S'.gens⟩
  · cases q : st'.σ L with
    | none => rfl
    | some o => have := (S'.obj L o q).2.2; rw [upd_same] at this; cases this
  · cases q : hid a with
    | none => rfl
    | some c => have := (S'.obj a o e).2.2; rw [upd_ne _ _ (hne a c q), q] at this; cases this

theorem XOK.leave {x cls : Value} {F : Prop} {h : Heap} {ρ : String → Option AV} (hx : XOK (· = Value.none) h₁ L' st' (upd hid L (.frame m)) h x cls F) : XOK (XFree L) h₁ L ⟨ρ, st'.σ⟩ hid h x cls F := by
  obtain ⟨e, oe, vs, rfl, hu, he, hc, hd, hcase⟩ := hx
  have un : ∀ {a}, Unt h₁ L' st' (upd hid L (.frame m)) a → Unt h₁ L ⟨ρ, st'.σ⟩ hid a := fun {a} u => by
    obtain ⟨u1, u2⟩ := u
    obtain ⟨v1, v2, v3⟩ := priv_false.mp u2
    have nL : a ≠ L := fun q => by rw [q, upd_same] at v3; cases v3
    exact ⟨u1, priv_false.mpr ⟨nL, v2, by rw [upd_ne _ _ nL] at v3; exact v3⟩⟩
  exact ⟨e, oe, vs, rfl, un hu, he, hc, hd, hcase.imp id fun ⟨T, oT, ts, y, h1, hTe, huT, hT, hdT, h3, hy⟩ => ⟨T, oT, ts, y, h1, hTe, un huT, hT, hdT, h3, .inl hy⟩⟩
end

section
variable {p : PC} {n : Nat} {b : Mode} {env : Env} {X : Value → St → Prop} {st : St}

noncomputable abbrev CW (p : PC) (n : Nat) (b : Mode) (env : Env) (f : Value) (as : List AV) (Q : AV → St → Prop) (X : Value → St → Prop) (st : St) : Prop := GF p n b env VRs as VR (fun vs => call f vs) Q X st

theorem callFnC {f : Addr} {params : Arguments} {body : List Stmt} {scope : Scope} {dV : Value} {fo : Obj} {fd : FuncData} {as : List AV} {bs : List (String × AV)} {Q : AV → St → Prop}
    (F : FnOK p f params body scope dV fo fd) (hbind : BindA p fd as bs) (hb : b ≠ .handler)
    (hloc : ∀ x ∈ bs, scope.names.lookup (Str.ofString x.1) = some .local) (hcell : ∀ x ∈ scope.names, x.2 ≠ .cell)
    (hco : scope.isCoroutine = false) (hgen : scope.isGenerator = false) (hk : scope.kind = .function)
    (H : ∀ L' q cd, SW p n .body (mkEnv scope L' f q cd) body (fun fl st' => Q (retOf fl) ⟨st.ρ, st'.σ⟩) (fun c st' => X c ⟨st.ρ, st'.σ⟩) ⟨fun x => bs.reverse.lookup x, st.σ⟩) :
    ∀ A outer h₀ s hid vs, AOK (n + 1) b A env outer → Sat p env.locals outer h₀ s st hid → VRs h₀ as vs →
      codeAny (model p.prog p.w) A (.call (.ref f) ⟨vs, []⟩) (wants (NP p env.locals outer h₀ hid VR Q) (EP p env.locals outer h₀ hid X)) s := by
  intro A outer h₀ s hid vs hA S hv
  obtain ⟨m, hn, hm⟩ := S.loc
  have hold : ∀ {h : Heap}, Sub p.base h → h.get? f = some fo := fun {h} k => k _ _ (p.hK _ _ F.look)
  refine codeAny_call_function (fd := fd) (by have := hA.depth; show A.depth < 1000; (first | lia | omega)) (hold (S.base.trans S.sub)) F.data (by rw [F.scope]; exact hco) (by rw [F.scope]; exact hgen) F.body
    ((codeRec_of p.hK F.code).keeps (S.base.trans S.sub)) ?_
  refine hbind _ _ _ _ _ _ _ _ _ _ S hv fun h₁ s₁ ws k₁ S₁ hw => ?_
  obtain ⟨m₁, hn₁, hm₁⟩ := S₁.loc
  refine wpAny_newFunctionEnv (by rw [F.scope]; exact hcell) (fun x hx => ?_) (fun h' hns hsb => ⟨?_, codeAny_func ?_⟩) (by rw [F.scope]; exact hk)
  · have hx1 := (List.of_mem_zip hx).1
    obtain ⟨y, hy, e⟩ := List.mem_map.mp hx1
    rw [F.scope, ← e]
    exact hloc y hy
  · exact (p.hT.nolimit.keeps (S₁.base.trans S₁.sub)).fresh _ hsb
  have kk : Sub s₁.heap h' := fun a o e => hsb.extBut a o (Nat.ne_of_lt (Heap.lt_size e)) (Heap.get?_push_of_some _ e)
  have hse : ∀ e, e ∈ (if b = .comp then outer else env :: outer) → e ∈ outer ∨ (e.scope.kind ≠ .module ∧ e.frame = some env.locals) := fun e he => by
    split at he
    · exact .inl he
    · rename_i hc
      rcases List.mem_cons.mp he with rfl | he
      · exact .inr ⟨by rw [hA.kind]; decide, hA.frame hc⟩
      · exact .inl he
  have SE := S₁.enter (s' := { s₁ with heap := h', toks := s₁.toks + ((bs.map fun x => Str.ofString x.1).zip ws).length }) (ρ' := fun x => bs.reverse.lookup x) hn₁ rfl hns kk (fun x av e => lookup_zip_rev hw e) rfl rfl hse
  have henv : newEnv fd.scope s₁.heap.objs.size fd.globals fd.closure (fd.qualname ++ Str.ofString ".<locals>.") (some f) fd.code none fd.builtins = mkEnv scope s₁.heap.objs.size f (fd.qualname ++ Str.ofString ".<locals>.") fd.code := by
    unfold newEnv mkEnv
    rw [F.scope, F.glob, F.bi, F.clos]
  rw [show newEnv fd.scope s₁.heap.objs.size fd.globals fd.closure (fd.qualname ++ ".<locals>.") (some f) fd.code none fd.builtins = mkEnv scope s₁.heap.objs.size f (fd.qualname ++ Str.ofString ".<locals>.") fd.code from henv]
  have hA' : AOK n .body (A.deeper (mkEnv scope s₁.heap.objs.size f (fd.qualname ++ Str.ofString ".<locals>.") fd.code)) (mkEnv scope s₁.heap.objs.size f (fd.qualname ++ Str.ofString ".<locals>.") fd.code) (if b = .comp then outer else env :: outer) := by
    refine ⟨?_, fun _ => hA.handled hb, ?_, ?_, hk, fun _ => rfl, rfl, rfl⟩
    · show A.frames.map _ = _
      rw [hA.frames]; rfl
    · show A.depth + 1 + 20 * n ≤ 900
      have := hA.depth; (first | lia | omega)
    · show A.units + 3 + 100 * n ≤ 9000
      have := hA.units; (first | lia | omega)
  refine wpAny_mono (H _ _ _ _ _ _ _ _ hA' SE) (fun fl s₂ z_ => z_.elim fun h₂ af st₂ k₂ S₂ r q => ?_) fun x s₂ ⟨h₂, cls, st₂, k₂, S₂, hx, q⟩ => ?_
  · have SL := S₁.leave k₂ hm₁ S₂
    have hr : VR h₂ (retOf af) (match fl with | .ret v => v | _ => .none) := by
      cases r with
      | next => exact .none
      | brk => exact .none
      | cont => exact .none
      | ret hv => exact hv
    cases r with
    | next => exact ⟨h₂, _, _, k₁.trans k₂, SL, hr, q⟩
    | brk => exact ⟨h₂, _, _, k₁.trans k₂, SL, hr, q⟩
    | cont => exact ⟨h₂, _, _, k₁.trans k₂, SL, hr, q⟩
    | ret _ => exact ⟨h₂, _, _, k₁.trans k₂, SL, hr, q⟩
  · unfold leaving
    refine wpAny_bind (note_X hA' (by decide) S₂ hx fun h₃ S₃ hx₃ => flight_X S₃ hx₃ fun h₄ S₄ hx₄ => ?_)
    exact ⟨h₂, cls, _, k₁.trans k₂, S₁.leave k₂ hm₁ S₄, (XOK.leave hx₄).weaken (fun _ z => z) False.elim, q⟩

theorem callFn {f : Addr} {params : Arguments} {body : List Stmt} {scope : Scope} {dV : Value} {fo : Obj} {fd : FuncData} {as : List AV} {bs : List (String × AV)} {Q : AV → St → Prop}
    (F : FnOK p f params body scope dV fo fd) (hbind : BindA p fd as bs) (hb : b ≠ .handler)
    (hloc : ∀ x ∈ bs, scope.names.lookup (Str.ofString x.1) = some .local) (hcell : ∀ x ∈ scope.names, x.2 ≠ .cell)
    (hco : scope.isCoroutine = false) (hgen : scope.isGenerator = false) (hk : scope.kind = .function)
    (H : ∀ L' q cd, SW p n .body (mkEnv scope L' f q cd) body (fun fl st' => Q (retOf fl) ⟨st.ρ, st'.σ⟩) (fun c st' => X c ⟨st.ρ, st'.σ⟩) ⟨fun x => bs.reverse.lookup x, st.σ⟩) :
    CW p (n + 1) b env (.ref f) as Q X st :=
  GF.mk fun A outer h₀ s hid vs hA S hv => wpAny_call (callFnC F hbind hb hloc hcell hco hgen hk H A outer h₀ s hid vs hA S hv)

/-! arguments -/
noncomputable abbrev ArgR : Heap → List AV → Args → Prop := fun h as a => VRs h as a.pos ∧ a.kw = []
noncomputable abbrev AW (p : PC) (n : Nat) (b : Mode) (env : Env) (f : Value) (pos : Pos) (l : List Expr) (Q : List AV → St → Prop) (X : Value → St → Prop) (st : St) : Prop := GW p n b env ArgR (evalArgs f true (backTo pos (starEach l env)) []) Q X st
theorem AW.nil {f : Value} {pos : Pos} {Q : List AV → St → Prop} (h : Q [] st) : AW p n b env f pos [] Q X st :=
  GW.mk fun _ _ _ _ _ _ S => PyProof.Rows.evalArgs_none (NP.mk S (.refl _) ⟨.nil, rfl⟩ h)
theorem AW.cons {f : Value} {pos : Pos} {e : Expr} {l : List Expr} {Q : List AV → St → Prop} (H : LW p n b env pos (e :: l) Q X st)
    (hs : backTo pos (starEach (e :: l) env) = (false, eval e env) :: backTo pos (starEach l env) := by rfl) : AW p n b env f pos (e :: l) Q X st :=
  GW.mk fun _ _ _ _ _ hA S => by
    have H' := H
    unfold LW at H'
    rw [hs] at H' ⊢
    exact evalArgs_plain (GW.use H' hA S (.refl _) fun _ _ _ _ _ k1 _ S1 hv q => NP.mk S1 k1 ⟨hv, rfl⟩ q)

/-- f(..), f a def of the top -/
theorem EW.callF {x : Str} {f : Addr} {fo : Obj} {fd : FuncData} {npos pos : Pos} {l : List Expr} {Q : AV → St → Prop} (e : nsIn p.K mainGlobals x = some (some (.ref f))) (hf : p.K.lookup f = some fo) (hd : fo.data = .func fd)
    (H : AW p n b env (.ref f) pos l (fun as st1 => CW p n b env (.ref f) as Q X st1) X st)
    (hx : env.kindOf x = some .globalImplicit := by rfl) (hdb : (x == ("__debug__" : Str)) = false := by decide +kernel) : EW p n b env (.Call (.Name x npos) l [] pos) Q X st :=
  GW.mk fun _ _ _ _ _ hA S => by
    refine wpAny_Call_Name_kw ?_
    have hN : EW p n b env (.Name x npos) (fun a st1 => a = .ref f ∧ st1 = st) X st := EW.glob e (.ref f) ⟨rfl, rfl⟩ hx hdb
    refine hN.use hA S (.refl _) fun v s1 h1 a st1 k1 _ S1 hv hq => ?_
    obtain ⟨rfl, rfl⟩ := hq
    cases hv
    refine callWith_function (o := fo) (fd := fd) (H.use hA S1 k1 fun ar s2 h2 as st2 k2 _ S2 ha H2 => ?_)
    obtain ⟨ap, ak⟩ := ar
    obtain ⟨ha1, ha2⟩ := ha
    obtain rfl : ak = [] := ha2
    exact ⟨⟨(S2.base.trans S2.sub) _ _ (p.hK _ _ hf), hd⟩, GF.at (f := fun vs => call (.ref f) vs) (v := ap) H2 hA S2 ha1 k2⟩
end

end Mine

end

section
open PySem PySem.W PyProof.Rows PySem.Calls
namespace Mine

/-! iterators -/
noncomputable def Ext (hid hd : Hid) : Prop := ∀ a c, hid a = some c → hd a = some c
theorem Ext.refl (hid : Hid) : Ext hid hid := fun _ _ e => e
theorem Ext.upd {hid hd : Hid} {a : Addr} {c : HC} (h : Ext hid hd) (e : hid a = none) : Ext hid (upd hd a c) := fun x y q => by
  rw [upd_ne _ _ fun z => by rw [z, e] at q; cases q]; exact h x y q

section
variable {p : PC} {L : Addr} {outer : List Env} {h₀ h₁ : Heap} {s s' : Shared} {st : St} {hid hd : Hid} {X : Value → St → Prop}

theorem priv_ext (k : Ext hid hd) {a : Addr} (h : priv L st hd a = false) : priv L st hid a = false := by
  obtain ⟨h1, h2, h3⟩ := priv_false.mp h
  refine priv_false.mpr ⟨h1, h2, ?_⟩
  cases q : hid a with
  | none => rfl
  | some c => rw [k a c q] at h3; cases h3
theorem Sat.drop (S : Sat p L outer h₀ s st hd) (k : Ext hid hd) (out : ∀ e ∈ outer, e.scope.kind ≠ .module ∧ ∃ L' m, e.frame = some L' ∧ hid L' = some (.frame m)) : Sat p L outer h₀ s st hid := by
  have no : ∀ a, hd a = none → hid a = none := fun a e => by
    cases q : hid a with
    | none => rfl
    | some c => rw [k a c q] at e; cases e
  exact ⟨S.base, S.sub, S.loc, S.locF, S.locS, no _ S.locH, fun a o e => ⟨(S.obj a o e).1, (S.obj a o e).2.1, no _ (S.obj a o e).2.2⟩, fun a c e => S.hidd a c (k a c e), out, S.os, S.gens⟩
theorem EP.drop {x : Value} (h : EP p L outer h₁ hd X x s') (k : Ext hid hd) (kk : Sub h₀ h₁) (out : ∀ e ∈ outer, e.scope.kind ≠ .module ∧ ∃ L' m, e.frame = some L' ∧ hid L' = some (.frame m)) : EP p L outer h₀ hid X x s' := by
  obtain ⟨h₂, cls, st', k', S, ⟨e, oe, vs, rfl, hu, he, hc, hdt, hcase⟩, q⟩ := h
  have un : ∀ {a}, Unt h₂ L st' hd a → Unt h₂ L st' hid a := fun u => ⟨u.1, priv_ext k u.2⟩
  exact ⟨h₂, cls, st', kk.trans k', S.drop k out, ⟨e, oe, vs, rfl, un hu, he, hc, hdt, hcase.imp id fun ⟨T, oT, ts, y, h1, hTe, huT, hT, hdT, h3, hy⟩ => ⟨T, oT, ts, y, h1, hTe, un huT, hT, hdT, h3, hy⟩⟩, q⟩
/-- a hidden object has changed -/
theorem Sat.setH (S : Sat p L outer h₀ s st hd) {a : Addr} {o o' : Obj} (e : hd a = some (.raw o)) (hs : Heap.SameBut a s.heap s'.heap) (h : s'.heap.get? a = some o') (ho : s'.os = s.os) (hg : s'.gens = s.gens) : Sat p L outer h₀ s' st (upd hd a (.raw o')) := by
  have ha := S.hidd a _ e
  have nL : L ≠ a := fun q => by rw [← q, S.locH] at e; cases e
  refine ⟨S.base, fun b x q => (hs.2 b fun z => ?_).trans (S.sub b x q), ?_, S.locF, S.locS, ?_, fun b x q => ⟨(S.obj b x q).1.same (hs.2 b fun z => ?_), (S.obj b x q).2.1, ?_⟩, fun b c q => ?_, fun en he => ?_, ho.trans S.os, hg ▸ S.gens⟩
  · rw [z, ha.2] at q; cases q
  · obtain ⟨m, hn, hv⟩ := S.loc
    exact ⟨m, hn.sameBut hs nL, hv⟩
  · rw [upd_ne _ _ nL]; exact S.locH
  · have := (S.obj b x q).2.2; rw [z, e] at this; cases this
  · have hne : b ≠ a := fun z => by have := (S.obj b x q).2.2; rw [z, e] at this; cases this
    rw [upd_ne _ _ hne]; exact (S.obj b x q).2.2
  · by_cases z : b = a
    · subst z
      rw [upd_same] at q
      cases q
      exact ⟨h, ha.2⟩
    · rw [upd_ne _ _ z] at q
      exact ⟨(S.hidd b c q).1.same (hs.2 b z), (S.hidd b c q).2⟩
  · obtain ⟨h1, L', m, h2, h3⟩ := S.out en he
    refine ⟨h1, L', m, h2, ?_⟩
    rw [upd_ne _ _ fun z => by rw [z, e] at h3; cases h3]; exact h3
/-- a new hidden object -/
theorem Sat.pushH (S : Sat p L outer h₀ s st hid) {o : Obj} (hf : o.isFreed = false) (hh : s'.heap = s.heap.push o) (ho : s'.os = s.os) (hg : s'.gens = s.gens) :
    hid s.heap.objs.size = none ∧ Sat p L outer h₀ s' st (upd hid s.heap.objs.size (.raw o)) := by
  have S' := S.grow (s' := s') (hh ▸ Sub.push _ o) ho (hg ▸ S.gens)
  obtain ⟨n1, n2, n3⟩ := priv_false.mp S.freshPriv
  refine ⟨n3, S'.base, S'.sub, S'.loc, S'.locF, S'.locS, ?_, fun a x e => ⟨(S'.obj a x e).1, (S'.obj a x e).2.1, ?_⟩, fun a c e => ?_, fun en he => ?_, S'.os, S'.gens⟩
  · rw [upd_ne _ _ (Ne.symm n1)]; exact S'.locH
  · rw [upd_ne _ _ fun z => by rw [z, n2] at e; cases e]; exact (S'.obj a x e).2.2
  · by_cases z : a = s.heap.objs.size
    · subst z
      rw [upd_same] at e
      cases e
      exact ⟨by rw [hh]; exact Heap.get?_push_size _ hf, S.fresh₀⟩
    · rw [upd_ne _ _ z] at e; exact S'.hidd a c e
  · obtain ⟨h1, L', m, h2, h3⟩ := S'.out en he
    refine ⟨h1, L', m, h2, ?_⟩
    rw [upd_ne _ _ fun z => by rw [z, n3] at h3; cases h3]; exact h3
/-- a hidden object has changed, and new ones were made -/
theorem Sat.extB (S : Sat p L outer h₀ s st hd) {a : Addr} (hu : Unt h₀ L st hd a) (hs : Heap.ExtBut a s.heap s'.heap) (ho : s'.os = s.os) (hg : s'.gens = s.gens) : Sat p L outer h₀ s' st hd :=
  S.agree (fun b o e nu => hs b o (fun z => nu (z ▸ hu)) e) ho hg
theorem upd_upd {α β : Type} [DecidableEq α] (f : α → Option β) (a : α) (x y : β) : upd (upd f a x) a y = upd f a y := by
  funext z
  by_cases q : z = a
  · subst q; simp [upd_same]
  · rw [upd_ne _ _ q, upd_ne _ _ q, upd_ne _ _ q]
end

section
variable {p : PC} {L : Addr} {outer : List Env} {h₀ h₁ : Heap} {s s' : Shared} {st : St} {hid hd : Hid}
theorem Sat.hide (S : Sat p L outer h₀ s st hid) {a : Addr} {o : Obj} (u : Unt h₀ L st hid a) (e : s.heap.get? a = some o) : Sat p L outer h₀ s st (upd hid a (.raw o)) := by
  obtain ⟨n1, n2, n3⟩ := priv_false.mp u.2
  refine ⟨S.base, S.sub, S.loc, S.locF, S.locS, ?_, fun b x q => ⟨(S.obj b x q).1, (S.obj b x q).2.1, ?_⟩, fun b c q => ?_, fun en he => ?_, S.os, S.gens⟩
  · rw [upd_ne _ _ (Ne.symm n1)]; exact S.locH
  · rw [upd_ne _ _ fun z => by rw [z, n2] at q; cases q]; exact (S.obj b x q).2.2
  · by_cases z : b = a
    · subst z
      rw [upd_same] at q
      cases q
      exact ⟨e, u.1⟩
    · rw [upd_ne _ _ z] at q; exact S.hidd b c q
  · obtain ⟨h1, L', m, h2, h3⟩ := S.out en he
    refine ⟨h1, L', m, h2, ?_⟩
    rw [upd_ne _ _ fun z => by rw [z, n3] at h3; cases h3]; exact h3
theorem Sat.untold (S : Sat p L outer h₀ s st hd) {a : Addr} {o : Obj} (e : hd a = some (.raw o)) (n : hid a = none) : Unt h₀ L st hid a := by
  refine ⟨(S.hidd a _ e).2, priv_false.mpr ⟨fun z => ?_, ?_, n⟩⟩
  · rw [z, S.locH] at e; cases e
  · cases q : st.σ a with
    | none => rfl
    | some x => have := (S.obj a x q).2.2; rw [e] at this; cases this
end

/-- hidden objects laid over -/
noncomputable def over (hid : Hid) : List Addr → List Obj → Hid
  | a :: as, o :: os => over (upd hid a (.raw o)) as os
  | _, _ => hid
theorem Ext.trans {a b c : Hid} (x : Ext a b) (y : Ext b c) : Ext a c := fun q z e => y q z (x q z e)
theorem ext_over : ∀ (as : List Addr) (os : List Obj) {hid : Hid}, as.Nodup → (∀ a ∈ as, hid a = none) → Ext hid (over hid as os)
  | [], _, _, _, _ => fun _ _ e => e
  | _ :: _, [], _, _, _ => fun _ _ e => e
  | a :: as, o :: os, hid, hnd, h => by
    refine Ext.trans ((Ext.refl hid).upd (h a (.head _))) (ext_over as os (List.nodup_cons.mp hnd).2 fun c hc => ?_)
    have hca : c ≠ a := fun z => (List.nodup_cons.mp hnd).1 (by rw [← z]; exact hc)
    rw [upd_ne _ _ hca]
    exact h c (.tail _ hc)

/-- an iterator with its own hidden objects; it walks what J says, as long as G holds -/
structure ItrOK (p : PC) (target : Expr) (it : Value) (as : List Addr) (hs : Heap) (G : (Addr → Option AObj) → Prop) (J : List AV → List Obj → Prop) : Prop where
  nodup : as.Nodup
  next : ∀ {v r os A L outer h₀ s st hid E} {P : Value → Shared → Prop}, J (v :: r) os → A.handled = none → (∀ a ∈ as, hid a = none) → Sat p L outer h₀ s st (over hid as os) → Sub hs h₀ → G st.σ →
    (∀ s' h₁ os' u, Sub h₀ h₁ → J r os' → Sat p L outer h₁ s' st (over hid as os') → VR h₁ v u → P u s') →
    wpAny (model p.prog p.w) A (pyNext it) (fun r' s₁ => ∃ u, r' = some u ∧ wpAny (model p.prog p.w) A (letOwnedTupleGo target it u) (fun _ s₂ => P u s₂) E s₁) E s
  again : ∀ {l os A L outer h₀ s st hid E} {P : Value → Shared → Prop}, J l os → (∀ a ∈ as, hid a = none) → Sat p L outer h₀ s st (over hid as os) → P it s → wpAny (model p.prog p.w) A (pyIter it) P E s
  stop : ∀ {os A L outer h₀ s st hid E} {P : Shared → Prop}, J [] os → A.handled = none → (∀ a ∈ as, hid a = none) → Sat p L outer h₀ s st (over hid as os) → Sub hs h₀ → G st.σ →
    (∀ s' h₁, Sub h₀ h₁ → Sat p L outer h₁ s' st hid → P s') →
    wpAny (model p.prog p.w) A (pyNext it) (fun r' s₁ => r' = none ∧ P s₁) E s

/-- iter of what the expression gives walks some items, as long as G holds -/
noncomputable def ItE (p : PC) (n : Nat) (b : Mode) (env : Env) (target iter : Expr) (Q : List AV → ((Addr → Option AObj) → Prop) → St → Prop) (X : Value → St → Prop) (st : St) : Prop :=
  ∀ A outer h₀ s hid (P : Value → Shared → Prop), AOK n b A env outer → Sat p env.locals outer h₀ s st hid →
    (∀ s' h₁ it as os J items G st1, Sub h₀ h₁ → ItrOK p target it as h₁ G J → (∀ a ∈ as, hid a = none) → as.length = os.length → J items os → Sat p env.locals outer h₁ s' st1 (over hid as os) → Q items G st1 → P it s') →
    wpAny (model p.prog p.w) A (eval iter env) (fun x s₁ => wpAny (model p.prog p.w) A (pyIter x) P (EP p env.locals outer h₀ hid X) s₁) (EP p env.locals outer h₀ hid X) s

/-- iter(a) walks these items, as long as G holds -/
noncomputable def IterW (p : PC) (n : Nat) (b : Mode) (env : Env) (target : Expr) (a : AV) (items : List AV) (G : (Addr → Option AObj) → Prop) (st : St) : Prop :=
  ∀ A outer h₀ s hid v E (P : Value → Shared → Prop), AOK n b A env outer → Sat p env.locals outer h₀ s st hid → VR h₀ a v →
    (∀ s' h₁ it as os J, Sub h₀ h₁ → ItrOK p target it as h₁ G J → (∀ a ∈ as, hid a = none) → as.length = os.length → J items os → Sat p env.locals outer h₁ s' st (over hid as os) → P it s') →
    wpAny (model p.prog p.w) A (pyIter v) P E s

noncomputable def ForW (p : PC) (n : Nat) (b : Mode) (env : Env) (target : Expr) (body orelse : List Stmt) (G : (Addr → Option AObj) → Prop) (X : Value → St → Prop) : List AV → (AF → St → Prop) → St → Prop
  | [], Q, st => G st.σ ∧ SW p n b env orelse Q X st
  | v :: r, Q, st => G st.σ ∧ GF p n b env VR v UR (assign target env) (fun _ st1 => SW p n b env body (fun f st2 => match f with
      | .next | .cont => ForW p n b env target body orelse G X r Q st2
      | .brk => Q .next st2
      | .ret w => Q (.ret w) st2) X st1) X st

section
variable {p : PC} {n : Nat} {b : Mode} {env : Env} {X : Value → St → Prop} {st : St}

theorem ItE.of {target iter : Expr} {Q : List AV → ((Addr → Option AObj) → Prop) → St → Prop} (H : EW p n b env iter (fun a st1 => ∃ items G, IterW p n b env target a items G st1 ∧ Q items G st1) X st) : ItE p n b env target iter Q X st :=
  fun _ _ _ _ _ _ hA S K => H.use hA S (.refl _) fun _ _ _ _ _ k1 _ S1 hv ⟨items, G, hI, hQ⟩ =>
    hI _ _ _ _ _ _ _ _ hA S1 hv fun s2 h2 it as os J k2 I hf hos hJ S2 => K s2 h2 it as os J items G _ (k1.trans k2) I hf hos hJ S2 hQ

theorem XW.for {target iter : Expr} {body orelse : List Stmt} {pos : Pos} {Q : AF → St → Prop} (hb : b = .body)
    (H : ItE p n b env target iter (fun items G st1 => ForW p n b env target body orelse G X items Q st1) X st)
    (hs : ∀ x, foldedSetIterable iter env x = pure x := by intro _; rfl) : XW p n b env (.For target iter body orelse pos) Q X st := by
  refine GW.mk fun A outer h₀ s hid hA S => ?_
  have hb1 : b ≠ .comp := by rw [hb]; decide
  have hh : A.handled = none := hA.handled (by rw [hb]; decide)
  refine wpAny_For (H _ _ _ _ _ _ hA S fun s2 h2 it as os J items G st1 k02 I hf _ hJ S2 hF => ?_) hs
  have out := S.out
  have ex : ∀ os, Ext hid (over hid as os) := fun os => ext_over as os I.nodup hf
  refine codeAny_forLoop_any (fun m s' => ∃ l os h₃ st', m = l.length ∧ J l os ∧ Sub h2 h₃ ∧ Sat p env.locals outer h₃ s' st' (over hid as os) ∧ ForW p n b env target body orelse G X l Q st') ?_ items.length ⟨items, os, h2, st1, rfl, hJ, .refl _, S2, hF⟩
  rintro m s' ⟨l, os', h₃, st', rfl, hJ', k3, S3, hF'⟩
  have kk : Sub h₀ h₃ := k02.trans k3
  have pe : ∀ {h₄ hd₄ x s₄}, EP p env.locals outer h₄ hd₄ X x s₄ → Ext hid hd₄ → Sub h₀ h₄ → notedBy (model p.prog p.w) A env (cameBackBy (model p.prog p.w) A env (EP p env.locals outer h₀ hid X)) x s₄ :=
    fun he kx k4 => passes_EP' hA hb1 _ _ (he.drop kx k4 out)
  cases l with
  | nil =>
    obtain ⟨hG, hF'⟩ := hF'
    refine wpAny_mono (I.stop hJ' hh hf S3 k3 hG (P := fun s4 => wpAny (model p.prog p.w) A (execs orelse env) (fun f s5 => NP p env.locals outer h₀ hid FR Q f s5) (notedBy (model p.prog p.w) A env (cameBackBy (model p.prog p.w) A env (EP p env.locals outer h₀ hid X))) s4)
      fun s4 h4 k4 S4 => ?_) (fun r' s4 ⟨e, q⟩ => ?_) fun _ _ z => z
    · exact wpAny_mono (hF' _ _ _ _ _ hA S4) (fun f s5 z_ => z_.elim fun h5 y st5 k5 S5 r5 q5 => ⟨h5, y, st5, (kk.trans k4).trans k5, S5, r5, q5⟩) fun x s5 he => pe he (.refl _) (kk.trans k4)
    · subst e
      exact q
  | cons v r =>
    obtain ⟨hG, hF'⟩ := hF'
    refine wpAny_mono (I.next hJ' hh hf S3 k3 hG (P := fun u s4 => wpAny (model p.prog p.w) A (PySem.assign target env u) (fun _ s5 => wpAny (model p.prog p.w) A (execs body env) (fun f s6 => match f with
            | .next | .cont => ∃ m', m' < (v :: r).length ∧ ∃ l os h₃ st', m' = l.length ∧ J l os ∧ Sub h2 h₃ ∧ Sat p env.locals outer h₃ s6 st' (over hid as os) ∧ ForW p n b env target body orelse G X l Q st'
            | .brk => NP p env.locals outer h₀ hid FR Q .next s6
            | .ret w => NP p env.locals outer h₀ hid FR Q (.ret w) s6) (notedBy (model p.prog p.w) A env (cameBackBy (model p.prog p.w) A env (EP p env.locals outer h₀ hid X))) s5) (notedBy (model p.prog p.w) A env (cameBackBy (model p.prog p.w) A env (EP p env.locals outer h₀ hid X))) s4)
      fun s4 h4 os4 u k4 j4 S4 hu => ?_) (fun r' s4 ⟨u, e, q⟩ => ?_) fun _ _ z => z
    · refine wpAny_mono (hF' _ _ _ _ _ _ hA S4 hu) (fun _ s5 z_ => z_.elim fun h5 y st5 k5 S5 _ q5 => ?_) fun x s5 he => pe he (ex _) (kk.trans k4)
      have kk5 : Sub h₀ h5 := (kk.trans k4).trans k5
      refine wpAny_mono (q5 _ _ _ _ _ hA S5) (fun f s6 z_ => z_.elim fun h6 y6 st6 k6 S6 r6 q6 => ?_) fun x s6 he => pe he (ex _) kk5
      have kk6 : Sub h₀ h6 := kk5.trans k6
      have k26 : Sub h2 h6 := ((k3.trans k4).trans k5).trans k6
      cases r6 with
      | next => exact ⟨r.length, by simp, r, os4, h6, st6, rfl, j4, k26, S6, q6⟩
      | cont => exact ⟨r.length, by simp, r, os4, h6, st6, rfl, j4, k26, S6, q6⟩
      | brk => exact ⟨h6, _, st6, kk6, S6.drop (ex _) out, .next, q6⟩
      | ret hv => exact ⟨h6, _, st6, kk6, S6.drop (ex _) out, .ret hv, q6⟩
    · subst e
      exact q
end

end Mine

end

section
open PySem PySem.W PyProof.Rows PySem.Calls
namespace Mine

section
variable {p : PC} {n : Nat} {b : Mode} {env : Env} {X : Value → St → Prop} {st : St}

noncomputable def ownsTuple (nm : String) : Bool := ["enumerate", "zip", "dict_itemiterator", "dict_reverseitemiterator", "odict_iterator", "itertools.zip_longest", "itertools.pairwise"].contains nm
theorem letOwned_other {M : Model} {A : Around} {E : Value → Shared → Prop} {s : Shared} {target : Expr} {I : Addr} {o : Obj} {nm : String} {u : Value} {Q : Unit → Shared → Prop} (ho : s.heap.get? I = some o) (hc : o.cls = .type nm) (hn : ownsTuple nm = false) (h : Q () s) :
    wpAny M A (letOwnedTupleGo target (.ref I) u) Q E s := by
  unfold letOwnedTupleGo
  have go : ∀ a, wpAny M A (do
      let o ← load I
      match o.cls, o.data with
      | .type n, .fields vs =>
        if ["enumerate", "zip", "dict_itemiterator", "dict_reverseitemiterator", "odict_iterator", "itertools.zip_longest", "itertools.pairwise"].contains n && vs[0]? == some (rawInt a) then
          rule "for.unpacks-the-owned-tuple"
          updateField I 0 .none
      | _, _ => pure () : Sem Unit) Q E s := fun a => by
    refine wpAny_bind (wpAny_load ho ?_)
    rw [hc]
    split
    · rename_i n' vs e1 e2
      cases e1
      have : (["enumerate", "zip", "dict_itemiterator", "dict_reverseitemiterator", "odict_iterator", "itertools.zip_longest", "itertools.pairwise"].contains nm) = false := hn
      rw [this]
      simp only [Bool.false_and, Bool.false_eq_true, if_false]
      exact wpAny_pure h
    · exact wpAny_pure h
  split
  · cases u <;> first | exact go _ | exact wpAny_pure h
  · cases u <;> first | exact go _ | exact wpAny_pure h
  · exact wpAny_pure h

theorem drop_cons {α : Type} {l r : List α} {i : Nat} {v : α} (e : l.drop i = v :: r) : l[i]? = some v ∧ l.drop (i + 1) = r := by
  constructor
  · have := congrArg (fun x => x[0]?) e
    simpa using this
  · have := congrArg (fun x => x.drop 1) e
    simpa using this
theorem drop_nil {α : Type} {l : List α} {i : Nat} (e : l.drop i = []) : l[i]? = none := by
  have : l.length ≤ i := List.drop_eq_nil_iff.mp e
  simp [this]

theorem out_drop {L : Addr} {outer : List Env} {h₀ : Heap} {s : Shared} {hid : Hid} {a : Addr} {o : Obj} (S : Sat p L outer h₀ s st (upd hid a (.raw o))) : ∀ e ∈ outer, e.scope.kind ≠ .module ∧ ∃ L' m, e.frame = some L' ∧ hid L' = some (.frame m) := fun en he => by
  obtain ⟨h1, L', m, h2, h3⟩ := S.out en he
  refine ⟨h1, L', m, h2, ?_⟩
  by_cases z : L' = a
  · rw [z, upd_same] at h3; cases h3
  · rw [upd_ne _ _ z] at h3; exact h3


theorem Sat.unhide {L : Addr} {outer : List Env} {h₀ : Heap} {s : Shared} {hid : Hid} {I1 : Addr} {o1 : Obj} (S : Sat p L outer h₀ s st (upd hid I1 (.raw o1))) (n1 : hid I1 = none) : Sat p L outer h₀ s st hid ∧ Unt h₀ L st hid I1 :=
  ⟨S.drop ((Ext.refl hid).upd n1) (out_drop S), S.untold (upd_same ..) n1⟩

/-- a list is walked -/
theorem iter_list {target : Expr} {a : AV} {l : List AV} (hl : IsL st.σ a l) : IterW p n b env target a l (fun σ => IsL σ a l) st := by
  intro A outer h₀ s hid v E P hA S hv K
  obtain ⟨y, vs, k, rfl, e, r⟩ := hl.at S hv
  refine wpAny_pyIter_list (lst_is e) ?_
  obtain ⟨hno, S1⟩ := S.pushH (s' := { s with heap := s.heap.push { cls := .type "list_iterator", data := .fields #[.ref y, .int 0 0] } }) (o := { cls := .type "list_iterator", data := .fields #[.ref y, .int 0 0] }) rfl rfl rfl rfl
  refine K _ _ (.ref s.heap.objs.size) [s.heap.objs.size] [_] (fun rest os => ∃ (i : Nat) (o : Obj), os = [o] ∧ o.cls = .type "list_iterator" ∧ o.data = .fields #[.ref y, .int i 0] ∧ l.drop i = rest) (.refl _) ?_ (by simpa using hno) rfl ⟨0, _, rfl, rfl, rfl, rfl⟩ S1
  refine ⟨by simp, ?_, ?_, ?_⟩
  · rintro v' r' os A' L' outer' h₁ s₁ st₁ hid' E' P' ⟨i, o, rfl, hc, hd', hr⟩ hh hf S1 kk hG K1
    replace S1 : Sat p L' outer' h₁ s₁ st₁ (upd hid' s.heap.objs.size (.raw o)) := S1
    obtain ⟨hx, hr'⟩ := drop_cons hr
    obtain ⟨y', vs', k', e', e1, r1⟩ := hG.at S1 (hv.mono kk)
    cases e'
    obtain ⟨u, hu1, hu2⟩ := r1.get hx
    have ho := (S1.hidd _ _ (upd_same hid' s.heap.objs.size (HC.raw o))).1
    refine wpAny_pyNext_list_item ⟨o, ho, hc, hd'⟩ (lst_is e1) (by simpa using hu1) fun h' hit hs => ⟨u, rfl, ?_⟩
    obtain ⟨o', ho', hc', hd''⟩ := hit
    refine letOwned_other (nm := "list_iterator") ho' hc' (by decide) ?_
    have S2 := S1.setH (s' := { s₁ with heap := h' }) (upd_same hid' s.heap.objs.size (HC.raw o)) hs ho' rfl rfl
    rw [upd_upd] at S2
    exact K1 _ _ [o'] _ (.refl _) ⟨i + 1, o', rfl, hc', hd'', hr'⟩ S2 hu2
  · rintro l' os A' L' outer' h₁ s₁ st₁ hid' E' P' ⟨i, o, rfl, hc, hd', hr⟩ hf S1 hP
    exact wpAny_pyIter_listiter ⟨o, (S1.hidd _ _ (upd_same hid' s.heap.objs.size (HC.raw o))).1, hc, hd'⟩ hP
  · rintro os A' L' outer' h₁ s₁ st₁ hid' E' P' ⟨i, o, rfl, hc, hd', hr⟩ hh hf S1 kk hG K1
    replace S1 : Sat p L' outer' h₁ s₁ st₁ (upd hid' s.heap.objs.size (.raw o)) := S1
    obtain ⟨y', vs', k', e', e1, r1⟩ := hG.at S1 (hv.mono kk)
    cases e'
    have ho := (S1.hidd _ _ (upd_same hid' s.heap.objs.size (HC.raw o))).1
    refine wpAny_pyNext_list_end hh ⟨o, ho, hc, hd'⟩ (lst_is e1) (by have := drop_nil hr; simp at this ⊢; rw [r1.length]; exact this) fun h' hs => ⟨rfl, ?_⟩
    obtain ⟨S2, u⟩ := S1.unhide (hf _ (.head _))
    exact K1 _ _ (.refl _) (S2.extB (s' := { s₁ with heap := h' }) u hs rfl rfl)

/-- a tuple is walked -/
theorem iter_tup {target : Expr} {l : List AV} : IterW p n b env target (.tup l) l (fun _ => True) st := by
  intro A outer h₀ s hid v E P hA S hv K
  cases hv with | tup e r =>
  rename_i y vs k
  have isT : ∀ {h : Heap}, h.get? y = some (tupObj vs k) → h.IsTuple y vs.toArray := fun e => ⟨_, e, rfl, k, rfl⟩
  refine wpAny_pyIter_tuple (isT (S.sub _ _ e)) ?_
  obtain ⟨hno, S1⟩ := S.pushH (s' := { s with heap := s.heap.push { cls := .type "tuple_iterator", data := .fields #[.ref y, .int 0 0] } }) (o := { cls := .type "tuple_iterator", data := .fields #[.ref y, .int 0 0] }) rfl rfl rfl rfl
  refine K _ _ (.ref s.heap.objs.size) [s.heap.objs.size] [_] (fun rest os => ∃ (i : Nat) (o : Obj), os = [o] ∧ o.cls = .type "tuple_iterator" ∧ o.data = .fields #[.ref y, .int i 0] ∧ l.drop i = rest) (.refl _) ?_ (by simpa using hno) rfl ⟨0, _, rfl, rfl, rfl, rfl⟩ S1
  refine ⟨by simp, ?_, ?_, ?_⟩
  · rintro v' r' os A' L' outer' h₁ s₁ st₁ hid' E' P' ⟨i, o, rfl, hc, hd', hr⟩ hh hf S1 kk hG K1
    replace S1 : Sat p L' outer' h₁ s₁ st₁ (upd hid' s.heap.objs.size (.raw o)) := S1
    obtain ⟨hx, hr'⟩ := drop_cons hr
    obtain ⟨u, hu1, hu2⟩ := r.get hx
    have ho := (S1.hidd _ _ (upd_same hid' s.heap.objs.size (HC.raw o))).1
    refine wpAny_pyNext_tuple_item ⟨o, ho, hc, hd'⟩ (isT (S1.sub _ _ (kk _ _ e))) (by simpa using hu1) fun h' hit hs => ⟨u, rfl, ?_⟩
    obtain ⟨o', ho', hc', hd''⟩ := hit
    refine letOwned_other (nm := "tuple_iterator") ho' hc' (by decide) ?_
    have S2 := S1.setH (s' := { s₁ with heap := h' }) (upd_same hid' s.heap.objs.size (HC.raw o)) hs ho' rfl rfl
    rw [upd_upd] at S2
    exact K1 _ _ [o'] _ (.refl _) ⟨i + 1, o', rfl, hc', hd'', hr'⟩ S2 (hu2.mono kk)
  · rintro l' os A' L' outer' h₁ s₁ st₁ hid' E' P' ⟨i, o, rfl, hc, hd', hr⟩ hf S1 hP
    exact wpAny_pyIter_tupleiter ⟨o, (S1.hidd _ _ (upd_same hid' s.heap.objs.size (HC.raw o))).1, hc, hd'⟩ hP
  · rintro os A' L' outer' h₁ s₁ st₁ hid' E' P' ⟨i, o, rfl, hc, hd', hr⟩ hh hf S1 kk hG K1
    replace S1 : Sat p L' outer' h₁ s₁ st₁ (upd hid' s.heap.objs.size (.raw o)) := S1
    have ho := (S1.hidd _ _ (upd_same hid' s.heap.objs.size (HC.raw o))).1
    refine wpAny_pyNext_tuple_end hh ⟨o, ho, hc, hd'⟩ (isT (S1.sub _ _ (kk _ _ e))) (by have := drop_nil hr; simp at this ⊢; rw [r.length]; exact this) fun h' hs => ⟨rfl, ?_⟩
    obtain ⟨S2, u⟩ := S1.unhide (hf _ (.head _))
    exact K1 _ _ (.refl _) (S2.extB (s' := { s₁ with heap := h' }) u hs rfl rfl)

/-! names of the built-ins -/
theorem builtinName {M : Model} {A : Around} {E : Value → Shared → Prop} {s : Shared} {outer : List Env} {h₀ : Heap} {hid : Hid} {x : Str} {pos : Pos} {v : Value} {Q : Value → Shared → Prop} (hA : AOK n b A env outer) (S : Sat p env.locals outer h₀ s st hid)
    (e : nsIn p.K mainGlobals x = some none) (hv : bootBuiltins x = some v) (hn : x ≠ "__name__") (h : Q v s)
    (hx : env.kindOf x = some .globalImplicit) (hd : (x == ("__debug__" : Str)) = false) : wpAny M A (eval (.Name x pos) env) Q E s :=
  Name_function_global hA.kind hx (loadGlobal_builtin (hA.glob ▸ p.hT.g.keeps (S.base.trans S.sub)) (mg_none_of p.hK p.hT.g e) (hA.bi ▸ p.hT.b.keeps (S.base.trans S.sub)) ((p.hT.builtins x hn).trans hv) h) hd

/-- T(..), T a built-in type -/
theorem EW.callT {x : Str} {T : String} {npos pos : Pos} {l : List Expr} {Q : AV → St → Prop} (e : nsIn p.K mainGlobals x = some none) (hv : bootBuiltins x = some (.type T))
    (H : AW p n b env (.type T) pos l (fun as st1 => CW p n b env (.type T) as Q X st1) X st)
    (hpl : (backTo pos (starEach l env)).any (·.1) = false := by rfl)
    (hx : env.kindOf x = some .globalImplicit := by rfl) (hn : x ≠ "__name__" := by decide +kernel) (hd : (x == ("__debug__" : Str)) = false := by decide +kernel) : EW p n b env (.Call (.Name x npos) l [] pos) Q X st :=
  GW.mk fun _ _ _ _ _ hA S => by
    refine wpAny_Call_Name_kw (builtinName hA S e hv hn ?_ hx hd)
    refine PyProof.Rows.callWith_type hpl (H.use hA S (.refl _) fun ar s2 h2 as st2 k2 _ S2 ha H2 => ?_)
    obtain ⟨ap, ak⟩ := ar
    obtain ⟨ha1, ha2⟩ := ha
    obtain rfl : ak = [] := ha2
    exact GF.at (f := fun vs => call (.type T) vs) (v := ap) H2 hA S2 ha1 k2
/-- f(..), f a built-in -/
theorem EW.callB {x : Str} {T : String} {npos pos : Pos} {l : List Expr} {Q : AV → St → Prop} (e : nsIn p.K mainGlobals x = some none) (hv : bootBuiltins x = some (.builtin T))
    (H : AW p n b env (.builtin T) pos l (fun as st1 => CW p n b env (.builtin T) as Q X st1) X st)
    (hpl : (backTo pos (starEach l env)).any (·.1) = false := by rfl)
    (hx : env.kindOf x = some .globalImplicit := by rfl) (hn : x ≠ "__name__" := by decide +kernel) (hd : (x == ("__debug__" : Str)) = false := by decide +kernel) : EW p n b env (.Call (.Name x npos) l [] pos) Q X st :=
  GW.mk fun _ _ _ _ _ hA S => by
    refine wpAny_Call_Name_kw (builtinName hA S e hv hn ?_ hx hd)
    refine callWith_builtin hpl (H.use hA S (.refl _) fun ar s2 h2 as st2 k2 _ S2 ha H2 => ?_)
    obtain ⟨ap, ak⟩ := ar
    obtain ⟨ha1, ha2⟩ := ha
    obtain rfl : ak = [] := ha2
    exact GF.at (f := fun vs => call (.builtin T) vs) (v := ap) H2 hA S2 ha1 k2
end

end Mine

end

section
open PySem PySem.W PyProof.Rows PySem.Calls
namespace Mine

section
variable {p : PC} {n : Nat} {b : Mode} {env : Env} {X : Value → St → Prop} {st : St}
variable {L : Addr} {outer : List Env} {h₀ h₁ : Heap} {s s' : Shared} {hid hd : Hid} {I1 I2 : Addr} {o1 o2 o1' o2' : Obj}

theorem ext_two (n1 : hid I1 = none) (n2 : hid I2 = none) : Ext hid (upd (upd hid I1 (HC.raw o1)) I2 (.raw o2)) := ((Ext.refl hid).upd n1).upd n2

theorem unt_upd {a c : Addr} {o : Obj} (u : Unt h₀ L st hid a) (h : a ≠ c) : Unt h₀ L st (upd hid c (.raw o)) a := by
  obtain ⟨v1, v2, v3⟩ := priv_false.mp u.2
  exact ⟨u.1, priv_false.mpr ⟨v1, v2, by rw [upd_ne _ _ h]; exact v3⟩⟩

theorem Sat.two (S : Sat p L outer h₀ s st (upd (upd hid I1 (.raw o1)) I2 (.raw o2))) (n1 : hid I1 = none) (n2 : hid I2 = none) (ne : I2 ≠ I1)
    (k : ∀ b o, b ≠ I2 → b ≠ I1 → s.heap.get? b = some o → s'.heap.get? b = some o) (e1 : s'.heap.get? I1 = some o1') (e2 : s'.heap.get? I2 = some o2') (ho : s'.os = s.os) (hg : s'.gens = s.gens) :
    Sat p L outer h₀ s' st (upd (upd hid I1 (.raw o1')) I2 (.raw o2')) := by
  obtain ⟨S1, u2⟩ := S.unhide (by rw [upd_ne _ _ ne]; exact n2)
  obtain ⟨S2, u1⟩ := S1.unhide n1
  have u2' : Unt h₀ L st hid I2 := ⟨u2.1, priv_ext ((Ext.refl hid).upd n1) u2.2⟩
  have S3 : Sat p L outer h₀ s' st hid := S2.agree (fun b o q nu => k b o (fun z => nu (z ▸ u2')) (fun z => nu (z ▸ u1)) q) ho hg
  exact (S3.hide u1 e1).hide (unt_upd u2' ne) e2

theorem Sat.drop2 (S : Sat p L outer h₀ s st (upd (upd hid I1 (.raw o1)) I2 (.raw o2))) (n1 : hid I1 = none) (n2 : hid I2 = none) (ne : I2 ≠ I1) : Sat p L outer h₀ s st hid ∧ Unt h₀ L st hid I1 ∧ Unt h₀ L st hid I2 := by
  obtain ⟨S1, u2⟩ := S.unhide (by rw [upd_ne _ _ ne]; exact n2)
  obtain ⟨S2, u1⟩ := S1.unhide n1
  exact ⟨S2, u1, u2.1, priv_ext ((Ext.refl hid).upd n1) u2.2⟩

theorem unt_ge (S : Sat p L outer h₀ s st hid) {a : Addr} (h : s.heap.objs.size ≤ a) : Unt h₀ L st hid a := by
  constructor
  · cases q : h₀.get? a with
    | none => rfl
    | some o => exact absurd (Heap.lt_size (S.sub _ _ q)) (Nat.not_lt.mpr h)
  · cases q : priv L st hid a with
    | false => rfl
    | true => exact absurd (S.privLt q) (Nat.not_lt.mpr h)

noncomputable def enumA : Int → List AV → List AV
  | _, [] => []
  | i, v :: r => .tup [.int i, v] :: enumA (i + 1) r

noncomputable abbrev enumO (it : Addr) (i : Int) (old : Value) : Obj := { cls := .type "enumerate", dict := none, data := .fields #[.none, .bool false, .ref it, rawInt i, .none, old], slots := #[] }

/-- for .. in enumerate(e) -/
theorem ItE.enum {elts : List Expr} {x1 : Nat} {tp npos pos : Pos} {e : Expr} {Q : List AV → ((Addr → Option AObj) → Prop) → St → Prop} (hk : nsIn p.K mainGlobals (Str.ofString "enumerate") = some none)
    (H : EW p n b env e (fun a st1 => ∃ l, IsL st1.σ a l ∧ Q (enumA 0 l) (fun σ => IsL σ a l) st1) X st)
    (hs : backTo pos (starEach [e] env) = [(false, eval e env)] := by rfl)
    (hx : env.kindOf (Str.ofString "enumerate") = some .globalImplicit := by rfl) : ItE p n b env (.Tuple elts x1 tp) (.Call (.Name (Str.ofString "enumerate") npos) [e] [] pos) Q X st := by
  intro A outer h₀ s hid P hA S K
  refine wpAny_Call_Name_kw (builtinName hA S hk boot_enumerate (by decide +kernel) ?_ hx (by decide +kernel))
  rw [hs]
  refine PyProof.Rows.callWith_type rfl (evalArgs_plain (spliced_cons (H.use hA S (.refl _) fun v s1 h1 a st1 k1 _ S1 hv ⟨l, hl, hQ⟩ => spliced_nil ?_)))
  obtain ⟨y, vs, k, rfl, e1, r⟩ := hl.at S1 hv
  show wpAny _ _ (call (.type "enumerate") [.ref y]) _ _ s1
  refine call_enumerate_list (lst_is e1) fun h' he hit hsz hk' => ?_
  refine wpAny_pyIter_enum he ?_
  obtain ⟨o1, ho1, hc1, hd1⟩ := hit
  have S2 : Sat p env.locals outer h1 { s1 with heap := h' } st1 hid := S1.grow hk' rfl S1.gens
  have un1 := unt_ge S1 (Nat.le_refl s1.heap.objs.size)
  have un2 := unt_ge S1 (Nat.le_succ s1.heap.objs.size)
  have n1 := (priv_false.mp un1.2).2.2
  have n2 := (priv_false.mp un2.2).2.2
  have ne : s1.heap.objs.size + 1 ≠ s1.heap.objs.size := Nat.succ_ne_self _
  have S3 := (S2.hide un1 ho1).hide (unt_upd un2 ne) he
  refine K _ h1 (.ref (s1.heap.objs.size + 1)) [s1.heap.objs.size, s1.heap.objs.size + 1] [o1, enumO s1.heap.objs.size 0 .none] (fun rest os => ∃ (i : Nat) (o : Obj) (old : Value), os = [o, enumO s1.heap.objs.size i old] ∧ o.cls = .type "list_iterator" ∧ o.data = .fields #[.ref y, .int i 0] ∧ enumA i (l.drop i) = rest)
    (enumA 0 l) (fun σ => IsL σ a l) st1 k1 ?_ (by simpa using ⟨n1, n2⟩) rfl ⟨0, o1, .none, rfl, hc1, hd1, rfl⟩ S3 hQ
  clear n1 n2 un1 un2 S3 S2
  refine ⟨by simp, ?_, ?_, ?_⟩
  · rintro v' r' os A' L' outer' h₂ s₂ st₂ hid' E' P' ⟨i, o, old, rfl, hc, hd', hr⟩ hh hf S4 kk hG K1
    have n1 := hf _ (.head _)
    have n2 := hf _ (.tail _ (.head _))
    replace S4 : Sat p L' outer' h₂ s₂ st₂ (upd (upd hid' s1.heap.objs.size (.raw o)) (s1.heap.objs.size + 1) (.raw (enumO s1.heap.objs.size i old))) := S4
    obtain ⟨y', vs', k', e', e2, r2⟩ := hG.at S4 (hv.mono kk)
    cases e'
    cases hdr : l.drop i with
    | nil => rw [hdr] at hr; cases hr
    | cons w t =>
      rw [hdr] at hr
      obtain ⟨hv', hr'⟩ := List.cons.inj hr
      obtain ⟨hx, ht⟩ := drop_cons hdr
      obtain ⟨u, hu1, hu2⟩ := r2.get hx
      have hoI := (S4.hidd s1.heap.objs.size _ (by rw [upd_ne _ _ (Ne.symm ne)]; exact upd_same ..)).1
      have hoE := (S4.hidd (s1.heap.objs.size + 1) _ (upd_same ..)).1
      refine wpAny_pyNext_enum_item hoE ⟨o, hoI, hc, hd'⟩ (lst_is e2) (by simpa using hu1) ne fun h3 hout hit' htup hsz3 hk3 => ⟨_, rfl, ?_⟩
      refine wpAny_letOwnedTupleGo_enum hout fun h4 he4 hs4 => ?_
      obtain ⟨o', ho', hc', hd''⟩ := hit'
      have hlt : s1.heap.objs.size + 1 < s₂.heap.objs.size := Heap.lt_size hoE
      have S5 : Sat p L' outer' h₂ { s₂ with heap := h4, toks := s₂.toks + 1 } st₂ (upd (upd hid' s1.heap.objs.size (.raw o')) (s1.heap.objs.size + 1) (.raw (enumO s1.heap.objs.size ((i : Int) + 1) u))) :=
        S4.two (s' := { s₂ with heap := h4, toks := s₂.toks + 1 }) n1 n2 ne (fun a ob q1 q2 q3 => hs4.extBut a ob q1 (hk3 a ob q1 q2 q3)) ((hs4.2 _ (Ne.symm ne)).trans ho') he4 rfl rfl
      obtain ⟨k6, S6⟩ := S5.refreeze
      refine K1 _ _ [o', enumO s1.heap.objs.size ((i : Int) + 1) u] _ k6 ⟨i + 1, o', u, rfl, hc', hd'', ?_⟩ S6 ?_
      · rw [ht]; exact hr'
      · rw [← hv']
        refine .tup (vs := [.int i s₂.toks, u]) (n := 0) ?_ (.cons (.int ..) (.cons (hu2.mono k6) .nil))
        rw [mask_get]
        have np : priv L' st₂ (upd (upd hid' s1.heap.objs.size (.raw o')) (s1.heap.objs.size + 1) (.raw (enumO s1.heap.objs.size ((i : Int) + 1) u))) s₂.heap.objs.size = false := by
          have un := unt_ge S4 (Nat.le_refl s₂.heap.objs.size)
          obtain ⟨q1, q2, q3⟩ := priv_false.mp un.2
          refine priv_false.mpr ⟨q1, q2, ?_⟩
          rw [upd_ne _ _ (Nat.ne_of_gt hlt), upd_ne _ _ (Nat.ne_of_gt (Nat.lt_of_succ_lt hlt))] at q3 ⊢
          exact q3
        rw [np]
        exact (hs4.2 _ (Nat.ne_of_gt hlt)).trans htup
  · rintro l' os A' L' outer' h₂ s₂ st₂ hid' E' P' ⟨i, o, old, rfl, hc, hd', hr⟩ hf S4 hP
    exact wpAny_pyIter_enum (S4.hidd (s1.heap.objs.size + 1) _ (upd_same (upd hid' s1.heap.objs.size (.raw o)) (s1.heap.objs.size + 1) _)).1 hP
  · rintro os A' L' outer' h₂ s₂ st₂ hid' E' P' ⟨i, o, old, rfl, hc, hd', hr⟩ hh hf S4 kk hG K1
    have n1 := hf _ (.head _)
    have n2 := hf _ (.tail _ (.head _))
    replace S4 : Sat p L' outer' h₂ s₂ st₂ (upd (upd hid' s1.heap.objs.size (.raw o)) (s1.heap.objs.size + 1) (.raw (enumO s1.heap.objs.size i old))) := S4
    obtain ⟨y', vs', k', e', e2, r2⟩ := hG.at S4 (hv.mono kk)
    cases e'
    have hnil : l.drop i = [] := by
      cases hdr : l.drop i with
      | nil => rfl
      | cons w t => rw [hdr] at hr; cases hr
    have hoI := (S4.hidd s1.heap.objs.size _ (by rw [upd_ne _ _ (Ne.symm ne)]; exact upd_same ..)).1
    have hoE := (S4.hidd (s1.heap.objs.size + 1) _ (upd_same ..)).1
    refine wpAny_pyNext_enum_end hh hoE ⟨o, hoI, hc, hd'⟩ (lst_is e2) (by have := drop_nil hnil; simp at this ⊢; rw [r2.length]; exact this) fun h' hs => ⟨rfl, ?_⟩
    obtain ⟨S5, u1, _⟩ := S4.drop2 n1 n2 ne
    exact K1 _ _ (.refl _) (S5.extB (s' := { s₂ with heap := h' }) u1 hs rfl rfl)

noncomputable def rangeA : Int → Nat → List AV
  | _, 0 => []
  | i, k + 1 => .int i :: rangeA (i + 1) k

/-- for .. in range(e) -/
theorem ItE.range {target : Expr} {npos pos : Pos} {e : Expr} {Q : List AV → ((Addr → Option AObj) → Prop) → St → Prop} (hk : nsIn p.K mainGlobals (Str.ofString "range") = some none)
    (H : EW p n b env e (fun a st1 => ∃ k : Nat, a = .int k ∧ k < 2 ^ 60 ∧ Q (rangeA 0 k) (fun _ => True) st1) X st)
    (hs : backTo pos (starEach [e] env) = [(false, eval e env)] := by rfl)
    (hx : env.kindOf (Str.ofString "range") = some .globalImplicit := by rfl) : ItE p n b env target (.Call (.Name (Str.ofString "range") npos) [e] [] pos) Q X st := by
  intro A outer h₀ s hid P hA S K
  refine wpAny_Call_Name_kw (builtinName hA S hk boot_range (by decide +kernel) ?_ hx (by decide +kernel))
  rw [hs]
  refine PyProof.Rows.callWith_type rfl (evalArgs_plain (spliced_cons (H.use hA S (.refl _) fun v s1 h1 a st1 k1 _ S1 hv ⟨k, hak, hkk, hQ⟩ => spliced_nil ?_)))
  subst hak
  cases hv with | int _ t =>
  show wpAny _ _ (call (.type "range") [.int k t]) _ _ s1
  refine call_range_1 ?_
  have S2 : Sat p env.locals outer h1 { s1 with heap := s1.heap.push { cls := .type "range", data := .fields #[.int 0 s1.toks, .int k t, .int 1 (s1.toks + 1)] }, toks := s1.toks + 1 + 1 } st1 hid := S1.grow (Sub.push _ _) rfl S1.gens
  refine wpAny_pyIter_range (IsRange.new ..) (small_one (by decide) (by decide) (by (first | lia | omega)) (by (first | lia | omega))) ?_
  have hrs : Builtin.Range.rangeSize 0 (k : Int) 1 = (k : Int) := by rw [rangeSize_one]; split <;> (first | lia | omega)
  rw [hrs]
  obtain ⟨hno, S3⟩ := S2.pushH (s' := { s1 with heap := (s1.heap.push { cls := .type "range", data := .fields #[.int 0 s1.toks, .int k t, .int 1 (s1.toks + 1)] }).push { cls := .type "range_iterator", data := .fields #[rawInt 0, rawInt k, rawInt 1] }, toks := s1.toks + 1 + 1 }) (o := { cls := .type "range_iterator", data := .fields #[rawInt 0, rawInt k, rawInt 1] }) rfl rfl rfl rfl
  have hz : (s1.heap.push { cls := .type "range", data := .fields #[.int 0 s1.toks, .int k t, .int 1 (s1.toks + 1)] }).objs.size = s1.heap.objs.size + 1 := Heap.size_push ..
  replace hno : hid (s1.heap.push { cls := .type "range", data := .fields #[.int 0 s1.toks, .int k t, .int 1 (s1.toks + 1)] }).objs.size = none := hno
  generalize (s1.heap.push { cls := .type "range", data := .fields #[.int 0 s1.toks, .int k t, .int 1 (s1.toks + 1)] }).objs.size = I at hno S3 ⊢
  refine K _ h1 (.ref I) [I] [{ cls := .type "range_iterator", data := .fields #[rawInt 0, rawInt k, rawInt 1] }] (fun rest os => ∃ (i : Int) (m : Nat), os = [{ cls := .type "range_iterator", data := .fields #[rawInt i, rawInt m, rawInt 1] }] ∧ rangeA i m = rest)
    (rangeA 0 k) (fun _ => True) st1 k1 ?_ (by simpa using hno) rfl ⟨0, k, rfl, rfl⟩ S3 hQ
  clear hno S3
  refine ⟨by simp, ?_, ?_, ?_⟩
  · rintro v' r' os A' L' outer' h₂ s₂ st₂ hid' E' P' ⟨i, m, rfl, hr⟩ hh hf S4 kk hG K1
    have hno := hf _ (.head _)
    cases m with
    | zero => cases hr
    | succ m =>
      obtain ⟨hv', hr'⟩ := List.cons.inj hr
      replace S4 : Sat p L' outer' h₂ s₂ st₂ (upd hid' I (.raw { cls := .type "range_iterator", data := .fields #[rawInt i, rawInt (m + 1 : Nat), rawInt 1] })) := S4
      have ho := (S4.hidd _ _ (upd_same hid' I (HC.raw { cls := .type "range_iterator", data := .fields #[rawInt i, rawInt (m + 1 : Nat), rawInt 1] }))).1
      refine wpAny_pyNext_range_item ho (by (first | lia | omega)) fun h' hit hs => ⟨_, rfl, ?_⟩
      refine letOwned_other (nm := "range_iterator") hit rfl (by decide) ?_
      have S5 := S4.setH (s' := { s₂ with heap := h', toks := s₂.toks + 1 }) (upd_same hid' I (HC.raw _)) hs hit rfl rfl
      rw [upd_upd] at S5
      rw [show ((m + 1 : Nat) : Int) - 1 = (m : Int) by (first | lia | omega)] at S5
      exact K1 _ _ [_] _ (.refl _) ⟨i + 1, m, rfl, hr'⟩ S5 (hv' ▸ .int ..)
  · rintro l' os A' L' outer' h₂ s₂ st₂ hid' E' P' ⟨i, m, rfl, hr⟩ hf S4 hP
    exact wpAny_pyIter_rangeiter (S4.hidd I _ (upd_same hid' I _)).1 hP
  · rintro os A' L' outer' h₂ s₂ st₂ hid' E' P' ⟨i, m, rfl, hr⟩ hh hf S4 kk hG K1
    have hno := hf _ (.head _)
    cases m with
    | succ m => cases hr
    | zero =>
      replace S4 : Sat p L' outer' h₂ s₂ st₂ (upd hid' I (.raw { cls := .type "range_iterator", data := .fields #[rawInt i, rawInt (0 : Nat), rawInt 1] })) := S4
      have ho := (S4.hidd _ _ (upd_same hid' I (HC.raw { cls := .type "range_iterator", data := .fields #[rawInt i, rawInt (0 : Nat), rawInt 1] }))).1
      refine wpAny_pyNext_range_end hh ho (by (first | lia | omega)) fun h' hs => ⟨rfl, ?_⟩
      obtain ⟨S5, u1⟩ := S4.unhide hno
      exact K1 _ _ (.refl _) (S5.extB (s' := { s₂ with heap := h' }) u1 hs rfl rfl)
end

end Mine

end

section
open PySem PySem.W PyProof.Rows PySem.Calls
namespace Mine

/-! comprehensions (one clause, nothing captured) -/
noncomputable def compEnv (scope : Scope) (C : Addr) (env : Env) : Env :=
  { scope := scope, locals := C, globals := env.globals, cells := [], qual := env.qual, func := none, code := env.code, frame := env.frame, builtins := env.builtins }

theorem over_upd : ∀ (as : List Addr) (os : List Obj) {hid : Hid} {a : Addr} {c : HC}, a ∉ as → upd (over hid as os) a c = over (upd hid a c) as os
  | [], _, _, _, _, _ => rfl
  | _ :: _, [], _, _, _, _ => rfl
  | b :: as, o :: os, hid, a, c, h => by
    show upd (over (upd hid b (.raw o)) as os) a c = over (upd (upd hid a c) b (.raw o)) as os
    have hab : a ≠ b := fun z => h (z ▸ .head _)
    rw [over_upd as os fun z => h (.tail _ z)]
    congr 1
    funext x
    by_cases q : x = a
    · subst q; rw [upd_same, upd_ne _ _ hab, upd_same]
    · by_cases q2 : x = b
      · subst q2; rw [upd_ne _ _ q, upd_same, upd_same]
      · rw [upd_ne _ _ q, upd_ne _ _ q2, upd_ne _ _ q2, upd_ne _ _ q]

section
variable {p : PC} {L : Addr} {outer : List Env} {h₀ h₁ : Heap} {s s' : Shared} {st : St} {hid hd : Hid}
theorem Sat.hideF (S : Sat p L outer h₀ s st hid) {a : Addr} {m : Str → Option Value} (u : Unt h₀ L st hid a) (e : s.heap.Ns a m) : Sat p L outer h₀ s st (upd hid a (.frame m)) := by
  obtain ⟨n1, n2, n3⟩ := priv_false.mp u.2
  refine ⟨S.base, S.sub, S.loc, S.locF, S.locS, ?_, fun b x q => ⟨(S.obj b x q).1, (S.obj b x q).2.1, ?_⟩, fun b c q => ?_, fun en he => ?_, S.os, S.gens⟩
  · rw [upd_ne _ _ (Ne.symm n1)]; exact S.locH
  · rw [upd_ne _ _ fun z => by rw [z, n2] at q; cases q]; exact (S.obj b x q).2.2
  · by_cases z : b = a
    · subst z
      rw [upd_same] at q
      cases q
      exact ⟨e, u.1⟩
    · rw [upd_ne _ _ z] at q; exact S.hidd b c q
  · obtain ⟨h1, L', m, h2, h3⟩ := S.out en he
    refine ⟨h1, L', m, h2, ?_⟩
    rw [upd_ne _ _ fun z => by rw [z, n3] at h3; cases h3]; exact h3
theorem Sat.unhideF (S : Sat p L outer h₀ s st (upd hid a (.frame m))) (n : hid a = none) (out : ∀ e ∈ outer, e.scope.kind ≠ .module ∧ ∃ L' m, e.frame = some L' ∧ hid L' = some (.frame m)) : Sat p L outer h₀ s st hid ∧ Unt h₀ L st hid a := by
  refine ⟨S.drop ((Ext.refl hid).upd n) out, (S.hidd a _ (upd_same ..)).2, priv_false.mpr ⟨fun z => ?_, ?_, n⟩⟩
  · have := S.locH; rw [← z, upd_same] at this; cases this
  · cases q : st.σ a with
    | none => rfl
    | some x => have := (S.obj a x q).2.2; rw [upd_same] at this; cases this
end

theorem over_frame : ∀ (as : List Addr) (os : List Obj) {hid : Hid} {a : Addr} {m : Str → Option Value}, over hid as os a = some (.frame m) → hid a = some (.frame m)
  | [], _, _, _, _, e => e
  | _ :: _, [], _, _, _, e => e
  | b :: as, o :: os, hid, a, m, e => by
    have q := over_frame as os (hid := upd hid b (.raw o)) e
    by_cases z : a = b
    · subst z; rw [upd_same] at q; cases q
    · rw [upd_ne _ _ z] at q; exact q
theorem upd_comm {α β : Type} [DecidableEq α] {f : α → Option β} {a c : α} {x y : β} (h : a ≠ c) : upd (upd f a x) c y = upd (upd f c y) a x := by
  funext z
  by_cases q : z = a
  · subst q; rw [upd_same, upd_ne _ _ h, upd_same]
  · by_cases q2 : z = c
    · subst q2; rw [upd_ne _ _ q, upd_same, upd_same]
    · rw [upd_ne _ _ q, upd_ne _ _ q2, upd_ne _ _ q2, upd_ne _ _ q]
theorem Sat.leaveG {p : PC} {L L' : Addr} {outer outer' : List Env} {h₀ h₁ : Heap} {s' : Shared} {st' : St} {hid : Hid} {m : Str → Option Value} {ρ : String → Option AV} (hLh : hid L = none) (k : Sub h₀ h₁) (hv : ∀ x av, ρ x = some av → ∃ v, m (Str.ofString x) = some v ∧ VR h₀ av v)
    (out : ∀ e ∈ outer, e.scope.kind ≠ .module ∧ ∃ L' m, e.frame = some L' ∧ hid L' = some (.frame m)) (S' : Sat p L' outer' h₁ s' st' (upd hid L (.frame m))) : Sat p L outer h₁ s' ⟨ρ, st'.σ⟩ hid := by
  have hL := S'.hidd L (.frame m) (upd_same ..)
  have hne : ∀ a c, hid a = some c → a ≠ L := fun a c e q => by rw [q, hLh] at e; cases e
  refine ⟨S'.base, S'.sub, ⟨m, hL.1, fun x av e => let ⟨v, e1, e2⟩ := hv x av e; ⟨v, e1, e2.mono k⟩⟩, hL.2, ?_, hLh, fun a o e => ⟨(S'.obj a o e).1, (S'.obj a o e).2.1, ?_⟩, fun a c e => S'.hidd a c (by rw [upd_ne _ _ (hne a c e)]; exact e), out, S'.os, S'.gens⟩
  · cases q : st'.σ L with
    | none => rfl
    | some o => have := (S'.obj L o q).2.2; rw [upd_same] at this; cases this
  · cases q : hid a with
    | none => rfl
    | some c => have := (S'.obj a o e).2.2; rw [upd_ne _ _ (hne a c q), q] at this; cases this
theorem append_raw {prog : Program} {w : World} {A : Around} {E : Value → Shared → Prop} {s : Shared} {l : Addr} {vs : List Value} {k : Nat} {x : Value} {Q : Value → Shared → Prop} (hl : s.heap.get? l = some (lstObj vs k)) (hsz : vs.length ≤ 16777216)
    (hQ : ∀ k' h', h'.get? l = some (lstObj (vs ++ [x]) k') → Heap.SameBut l s.heap h' → Q .none { s with heap := h' }) : wpAny (model prog w) A (call (.builtin "list.append") [.ref l, x]) Q E s :=
  wpAny_list_append_plain ⟨k, hl⟩ (fun h' ⟨k', e⟩ hs => hQ k' h' (by simpa using e) hs) (by rw [List.size_toArray, sizeLine_val]; exact hsz)

/-- the tests of a clause -/
noncomputable def TestsW (p : PC) (n : Nat) (env : Env) : List Expr → (Bool → St → Prop) → St → Prop
  | [], Q, st => Q true st
  | c :: r, Q, st => TW p n .comp env c (fun x st1 => if x then TestsW p n env r Q st1 else Q false st1) (fun _ _ => False) st

/-- one item of a comprehension gives r (none: it is left out); nothing else changes -/
noncomputable def ElemW (p : PC) (n : Nat) (env : Env) (scope : Scope) (target : Expr) (ifs : List Expr) (elt : Expr) (σ : Addr → Option AObj) (v : AV) (r : Option AV) : Prop :=
  ∀ C ρ, GF p n .comp (compEnv scope C env) VR v UR (assign target (compEnv scope C env)) (fun _ st1 =>
    TestsW p n (compEnv scope C env) ifs (fun c st2 => if c then EW p n .comp (compEnv scope C env) elt (fun a st3 => r = some a ∧ st3.σ = σ) (fun _ _ => False) st2 else r = none ∧ st2.σ = σ) st1) (fun _ _ => False) ⟨ρ, σ⟩

inductive ElemsW (E : AV → Option AV → Prop) : List AV → List (Option AV) → Prop
  | nil : ElemsW E [] []
  | cons {v : AV} {l : List AV} {r : Option AV} {rs : List (Option AV)} : E v r → ElemsW E l rs → ElemsW E (v :: l) (r :: rs)

theorem EP.never {p : PC} {L : Addr} {outer : List Env} {h₀ : Heap} {hid : Hid} {x : Value} {s : Shared} (h : EP p L outer h₀ hid (fun _ _ => False) x s) : False := h.elim fun _ h => h.elim fun _ h => h.elim fun _ h => h.2.2.2

section
variable {p : PC} {n : Nat} {b : Mode} {env : Env} {X : Value → St → Prop} {st : St} {A : Around} {outer : List Env} {h₀ : Heap} {s : Shared} {hid : Hid}

theorem tests_wp {R : Result → Shared → Prop} {E : Value → Shared → Prop} {P : Bool → Shared → Prop} (hA : AOK n .comp A env outer) : ∀ (ifs : List Expr) {Q : Bool → St → Prop} {st : St} {s : Shared} {h₁ : Heap}, TestsW p n env ifs Q st → Sat p env.locals outer h₁ s st hid →
    (∀ c s' h₂ st', Sub h₁ h₂ → Sat p env.locals outer h₂ s' st' hid → Q c st' → P c s') →
    wpAny (model p.prog p.w) A (forIn ifs true fun c r => if r = true then do let ok ← isTrue c env (eval c env); pure (ForInStep.yield ok) else pure (ForInStep.yield r)) P E s := by
  have stay : ∀ (l : List Expr) {s : Shared} {P : Bool → Shared → Prop}, P false s → wpAny (model p.prog p.w) A (forIn l false fun c r => if r = true then do let ok ← isTrue c env (eval c env); pure (ForInStep.yield ok) else pure (ForInStep.yield r)) P E s := by
    intro l
    induction l with
    | nil => intro s P h; exact wpAny_pure h
    | cons c r ih =>
      intro s P h
      rw [List.forIn_cons]
      simp only [Bool.false_eq_true, if_false]
      exact wpAny_bind (wpAny_pure (ih h))
  intro ifs
  induction ifs with
  | nil => intro Q st s h₁ H S K; exact wpAny_pure (K true s h₁ st (.refl _) S H)
  | cons c r ih =>
    intro Q st s h₁ H S K
    rw [List.forIn_cons]
    simp only [if_true]
    refine wpAny_bind (wpAny_bind (wpAny_mono (GW.run H _ _ _ _ _ hA S) (fun ok s2 z_ => z_.elim fun h2 y st2 k2 S2 r2 q2 => wpAny_pure ?_) fun _ _ e => (EP.never e).elim))
    obtain rfl : y = ok := r2
    cases y with
    | false => exact stay r (K false s2 h2 st2 k2 S2 q2)
    | true => exact ih q2 S2 fun c' s3 h3 st3 k3 S3 q3 => K c' s3 h3 st3 (k2.trans k3) S3 q3

theorem compLoop_any {R : Result → Shared → Prop} {elt target iter : Expr} {ifs : List Expr} {scope : Scope} {pos : Pos} {it acc : Value} {prog : Program} {w : World} (I : Nat → Shared → Prop)
    (turn : ∀ m s, I m s → wpAny (model prog w) A (pyNext it) (fun r s₁ => match r with
      | none => R (.ok .next) s₁
      | some v => wpAny (model prog w) A (letOwnedTupleGo target it v) (fun _ s₁' => wpAny (model prog w) A (assign target env v) (fun _ s₂ =>
          wpAny (model prog w) A (forIn ifs true fun c r => if r = true then do let ok ← isTrue c env (eval c env); pure (ForInStep.yield ok) else pure (ForInStep.yield r)) (fun ok s₃ =>
            if ok = true then wpAny (model prog w) A (eval elt env) (fun x s₄ =>
              wpAny (model prog w) A (call (.builtin "list.append") [acc, x]) (fun _ s₅ => ∃ m', m' < m ∧ I m' s₅) (fun _ _ => False) s₄) (fun _ _ => False) s₃
            else ∃ m', m' < m ∧ I m' s₃) (fun _ _ => False) s₂) (fun _ _ => False) s₁') (fun _ _ => False) s₁) (fun _ _ => False) s)
    (m : Nat) (h : I m s) : codeAny (model prog w) A (.compLoop (.ListComp elt [⟨target, iter, ifs, 0⟩] scope pos) 0 it acc env) R s := by
  refine codeAny_loop rfl I (fun m s hI => ?_) m h
  show wpAny _ A ((compTurn (.ListComp elt [⟨target, iter, ifs, 0⟩] scope pos) 0 it acc env).onRaise (fun x => do noteFrame x env; theTreesLotGoes x)) _ _ s
  refine wpAny_onRaise (wpAny_mono (Q := fun fin s' => match fin with | .done f => R (.ok f) s' | .again c' => c' = .compLoop (.ListComp elt [⟨target, iter, ifs, 0⟩] scope pos) 0 it acc env ∧ ∃ m', m' < m ∧ I m' s') (E' := _) (E := fun _ _ => False) ?_ (fun _ _ z => z) fun _ _ z => z.elim)
  rw [compTurn_list]
  refine wpAny_bind (wpAny_standAt (wpAny_bind (wpAny_mono (turn m s hI) (fun r s₁ h₁ => ?_) fun _ _ h' => h')))
  cases r with
  | none => exact wpAny_pure h₁
  | some v =>
    refine wpAny_bind (wpAny_mono h₁ (fun _ s₁' h₁' => wpAny_bind (wpAny_mono h₁' (fun _ s₂ h₂ => wpAny_bind (wpAny_mono h₂ (fun ok s₃ h₃ => ?_) fun _ _ h' => h')) fun _ _ h' => h')) fun _ _ h' => h')
    cases ok with
    | false => exact wpAny_pure ⟨rfl, h₃⟩
    | true => exact wpAny_bind (wpAny_bind (wpAny_mono h₃ (fun x s₄ h₄ => wpAny_bind (wpAny_mono h₄ (fun _ s₅ h₅ => wpAny_pure (wpAny_pure ⟨rfl, h₅⟩)) fun _ _ h' => h')) fun _ _ h' => h'))

theorem comp_core {elt target iter : Expr} {ifs : List Expr} {scope : Scope} {pos : Pos} {it : Value} {as : List Addr} {os : List Obj} {J : List AV → List Obj → Prop} {items : List AV} {G : (Addr → Option AObj) → Prop} {R : Result → Shared → Prop} {rs : List (Option AV)} {h2 : Heap} {D C : Addr} {m : Str → Option Value} {s4 : Shared}
    (hA : AOK n b A env outer) (hb : b ≠ .handler) (hkind : scope.kind = .function) (I : ItrOK p target it as h2 G J) (hf : ∀ a ∈ as, hid a = none) (hJ : J items os) (hG : G st.σ)
    (S : Sat p env.locals outer h2 s st (upd (over hid as os) D (.raw (lstObj [] 0)))) (hDn : over hid as os D = none) (hDa : D ∉ as) (hDh : hid D = none) (hLa : env.locals ∉ as)
    (hmv : ∀ x av, st.ρ x = some av → ∃ v, m (Str.ofString x) = some v ∧ VR h2 av v)
    (S4 : Sat p C (if b = .comp then outer else env :: outer) h2 s4 ⟨fun _ => none, st.σ⟩ (upd (upd (over hid as os) D (.raw (lstObj [] 0))) env.locals (.frame m)))
    (hz : items.length ≤ 16777216)
    (hE : ElemsW (ElemW p n env scope target ifs elt st.σ) items rs)
    (hR : ∀ s' h₄ m' vs k, Sub h2 h₄ → hid C = none → C ≠ D → Sat p env.locals outer h₄ s' st (upd (upd hid C (.frame m')) D (.raw (lstObj vs k))) → VRs h₄ (rs.filterMap id) vs → R (.ok .next) s') :
    codeAny (model p.prog p.w) A (.compStart (.ListComp elt [⟨target, iter, ifs, 0⟩] scope pos) 0 it (.ref D) (compEnv scope C env)) R s4 := by
  have hLh : hid env.locals = none := by
    have := S.locH
    cases q : hid env.locals with
    | none => rfl
    | some c => have e := ext_over as os I.nodup hf _ _ q; rw [upd_ne _ _ (fun z => by rw [z, hDn] at e; cases e), e] at this; cases this
  have hLD : env.locals ≠ D := fun z => by have := S.locH; rw [z, upd_same] at this; cases this
  have hA' : AOK n .comp A (compEnv scope C env) (if b = .comp then outer else env :: outer) := ⟨by rw [hA.frames, if_pos rfl], fun _ => hA.handled hb, hA.depth, hA.units, hkind, fun z => (z rfl).elim, hA.glob, hA.bi⟩
  have hh : A.handled = none := hA.handled hb
  have swap : ∀ os vs k, upd (upd (over hid as os) D (HC.raw (lstObj vs k))) env.locals (.frame m) = over (upd (upd hid D (.raw (lstObj vs k))) env.locals (.frame m)) as os := fun os vs k => by
    rw [over_upd as os hDa, over_upd as os hLa]
  rw [swap] at S4
  have hf' : ∀ vs k, ∀ a ∈ as, (upd (upd hid D (HC.raw (lstObj vs k))) env.locals (.frame m)) a = none := fun vs k a ha => by
    have z1 : a ≠ env.locals := fun z => hLa (by rw [← z]; exact ha)
    have z2 : a ≠ D := fun z => hDa (by rw [← z]; exact ha)
    rw [upd_ne _ _ z1, upd_ne _ _ z2]; exact hf a ha
  have loop : codeAny (model p.prog p.w) A (.compLoop (.ListComp elt [⟨target, iter, ifs, 0⟩] scope pos) 0 it (.ref D) (compEnv scope C env)) R s4 := by
    refine compLoop_any (fun m' s' => ∃ l os rs' done vs k h₃ stC, m' = l.length ∧ J l os ∧ Sub h2 h₃ ∧ stC.σ = st.σ ∧ ElemsW (ElemW p n env scope target ifs elt st.σ) l rs' ∧ rs.filterMap id = done ++ rs'.filterMap id ∧ VRs h₃ done vs ∧ done.length + l.length ≤ 16777216 ∧
      Sat p C (if b = .comp then outer else env :: outer) h₃ s' stC (over (upd (upd hid D (.raw (lstObj vs k))) env.locals (.frame m)) as os)) ?_ items.length
      ⟨items, os, rs, [], [], 0, h2, ⟨fun _ => none, st.σ⟩, rfl, hJ, .refl _, rfl, hE, rfl, .nil, by simpa using hz, S4⟩
    rintro m' s' ⟨l, os', rs', done, vs, k, h₃, stC, rfl, hJ', k3, hσ, hE', hrs, hvs, hlen, S3⟩
    cases l with
    | nil =>
      cases hE'
      refine wpAny_mono (I.stop hJ' hh (hf' vs k) S3 k3 (hσ ▸ hG) (P := fun s5 => R (.ok .next) s5) fun s5 h5 k5 S5 => ?_) (fun r' s5 ⟨e, q⟩ => by subst e; exact q) fun _ _ z => z
      obtain ⟨mC, hnC, _⟩ := S5.loc
      -- back into the frame around
      have S' : Sat p env.locals outer h2 s st (upd hid D (.raw (lstObj [] 0))) := by
        refine S.drop (fun a c e => ?_) fun en he => ?_
        · by_cases z : a = D
          · subst z; rw [upd_same] at e ⊢; exact e
          · rw [upd_ne _ _ z] at e ⊢; exact ext_over as os I.nodup hf a c e
        · obtain ⟨q1, L', m1, q2, q3⟩ := S.out en he
          refine ⟨q1, L', m1, q2, ?_⟩
          have z : L' ≠ D := fun z => by rw [z, upd_same] at q3; cases q3
          rw [upd_ne _ _ z] at q3 ⊢
          exact over_frame as os q3
      have SL : Sat p env.locals outer h5 s5 ⟨st.ρ, stC.σ⟩ (upd hid D (.raw (lstObj vs k))) := Sat.leaveG (by rw [upd_ne _ _ hLD]; exact hLh) (k3.trans k5) hmv (fun en he => by
        obtain ⟨q1, L', m1, q2, q3⟩ := S'.out en he
        refine ⟨q1, L', m1, q2, ?_⟩
        have z : L' ≠ D := fun z => by rw [z, upd_same] at q3; cases q3
        rw [upd_ne _ _ z] at q3 ⊢; exact q3) S5
      have CL : C ≠ env.locals := fun z => by have := S5.locH; rw [z, upd_same] at this; cases this
      have CD : C ≠ D := fun z => by have := S5.locH; rw [upd_ne _ _ CL, z, upd_same] at this; cases this
      have Ch : hid C = none := by have := S5.locH; rwa [upd_ne _ _ CL, upd_ne _ _ CD] at this
      have Cu : Unt h5 env.locals ⟨st.ρ, stC.σ⟩ (upd hid D (.raw (lstObj vs k))) C := ⟨S5.locF, priv_false.mpr ⟨CL, S5.locS, by rw [upd_ne _ _ CD]; exact Ch⟩⟩
      have hst : (⟨st.ρ, stC.σ⟩ : St) = st := by rw [hσ]
      rw [hst] at SL Cu
      have SF := SL.hideF Cu hnC
      have cm : upd (upd hid D (HC.raw (lstObj vs k))) C (.frame mC) = upd (upd hid C (.frame mC)) D (.raw (lstObj vs k)) := by
        funext x
        by_cases q : x = C
        · subst q; rw [upd_same, upd_ne _ _ CD, upd_same]
        · by_cases q2 : x = D
          · subst q2; rw [upd_ne _ _ q, upd_same, upd_same]
          · rw [upd_ne _ _ q, upd_ne _ _ q2, upd_ne _ _ q2, upd_ne _ _ q]
      rw [cm] at SF
      refine hR s5 _ mC vs k (k3.trans k5) Ch CD SF ?_
      rw [hrs]
      simp only [List.filterMap_nil, List.append_nil]
      exact hvs.mono k5
    | cons v r =>
      cases hE' with | cons he hr' =>
      rename_i ro rs'
      refine wpAny_mono (I.next hJ' hh (hf' vs k) S3 k3 (hσ ▸ hG) (P := fun u s4 => wpAny (model p.prog p.w) A (PySem.assign target (compEnv scope C env) u) (fun _ s₂ =>
          wpAny (model p.prog p.w) A (forIn ifs true fun c r => if r = true then do let ok ← isTrue c (compEnv scope C env) (eval c (compEnv scope C env)); pure (ForInStep.yield ok) else pure (ForInStep.yield r)) (fun ok s₃ =>
            if ok = true then wpAny (model p.prog p.w) A (eval elt (compEnv scope C env)) (fun x s₄ =>
              wpAny (model p.prog p.w) A (call (.builtin "list.append") [.ref D, x]) (fun _ s₅ => ∃ m', m' < (v :: r).length ∧ ∃ l os rs' done vs k h₃ stC, m' = l.length ∧ J l os ∧ Sub h2 h₃ ∧ stC.σ = st.σ ∧ ElemsW (ElemW p n env scope target ifs elt st.σ) l rs' ∧ rs.filterMap id = done ++ rs'.filterMap id ∧ VRs h₃ done vs ∧ done.length + l.length ≤ 16777216 ∧
      Sat p C (if b = .comp then outer else env :: outer) h₃ s₅ stC (over (upd (upd hid D (.raw (lstObj vs k))) env.locals (.frame m)) as os)) (fun _ _ => False) s₄) (fun _ _ => False) s₃
            else ∃ m', m' < (v :: r).length ∧ ∃ l os rs' done vs k h₃ stC, m' = l.length ∧ J l os ∧ Sub h2 h₃ ∧ stC.σ = st.σ ∧ ElemsW (ElemW p n env scope target ifs elt st.σ) l rs' ∧ rs.filterMap id = done ++ rs'.filterMap id ∧ VRs h₃ done vs ∧ done.length + l.length ≤ 16777216 ∧
      Sat p C (if b = .comp then outer else env :: outer) h₃ s₃ stC (over (upd (upd hid D (.raw (lstObj vs k))) env.locals (.frame m)) as os)) (fun _ _ => False) s₂) (fun _ _ => False) s4)
        fun s5 h5 os5 u k5 j5 S5 hu => ?_) (fun r' s5 ⟨u, e, q⟩ => by subst e; exact q) fun _ _ z => z
      have heq : stC = ⟨stC.ρ, st.σ⟩ := by rw [← hσ]
      rw [heq] at S5
      refine wpAny_mono (he C stC.ρ _ _ _ _ _ _ hA' S5 hu) (fun _ s6 z_ => z_.elim fun h6 _ st6 k6 S6 _ q6 => ?_) fun _ _ e => EP.never e
      refine tests_wp (R := R) hA' ifs q6 S6 fun c s7 h7 st7 k7 S7 q7 => ?_
      have kk7 : Sub h₃ h7 := (k5.trans k6).trans k7
      cases c with
      | false =>
        simp only [Bool.false_eq_true, if_false] at q7 ⊢
        obtain ⟨hro, hσ7⟩ := q7
        subst hro
        exact ⟨r.length, by simp, r, os5, rs', done, vs, k, h7, st7, rfl, j5, k3.trans kk7, hσ7, hr', by simpa using hrs, hvs.mono kk7, by simp at hlen; (first | lia | omega), S7⟩
      | true =>
        simp only [if_true] at q7 ⊢
        refine wpAny_mono (q7 _ _ _ _ _ hA' S7) (fun x s8 ⟨h8, a, st8, k8, S8, hx, hro, hσ8⟩ => ?_) fun _ _ e => EP.never e
        subst hro
        have hDin : over (upd (upd hid D (HC.raw (lstObj vs k))) env.locals (.frame m)) as os5 D = some (.raw (lstObj vs k)) := by
          rw [← swap, upd_ne _ _ (Ne.symm hLD), upd_same]
        have hDo := (S8.hidd D _ hDin).1
        have hl := hvs.length
        refine append_raw hDo (by rw [hl]; simp at hlen; (first | lia | omega)) fun k' h9 hd9 hs9 => ?_
        have S9 := S8.setH (s' := { s8 with heap := h9 }) hDin hs9 hd9 rfl rfl
        refine ⟨r.length, by simp, r, os5, rs', done ++ [a], vs ++ [x], k', h8, st8, rfl, j5, k3.trans (kk7.trans k8), hσ8, hr', by simpa using hrs, ((hvs.mono kk7).mono k8).append (.cons hx .nil), by simp at hlen ⊢; (first | lia | omega), ?_⟩
        rw [← swap, upd_comm (Ne.symm hLD), upd_upd, upd_comm hLD, swap] at S9
        exact S9
  refine codeAny_compStart_list loop ?_
  exact I.again hJ (hf' [] 0) S4 loop
end

end Mine

end

section
open PySem PySem.W PyProof.Rows PySem.Calls
namespace Mine

section
variable {p : PC} {n : Nat} {b : Mode} {env : Env} {X : Value → St → Prop} {st : St} {A : Around} {outer : List Env} {h₀ : Heap} {s : Shared} {hid : Hid}

theorem comp_frz {h₄ : Heap} {s' : Shared} {C D : Addr} {c : HC} {vs : List Value} {k : Nat} {l : List AV} (hD : hid D = none) (hne : C ≠ D) (S : Sat p env.locals outer h₄ s' st (upd (upd hid C c) D (.raw (lstObj vs k)))) (hv : VRs h₄ l vs) :
    ∃ h₅, Sub h₄ h₅ ∧ Sat p env.locals outer h₅ s' st (upd hid C c) ∧ VR h₅ (.lst l) (.ref D) := by
  have hDo := (S.hidd D _ (upd_same ..)).1
  obtain ⟨SU, uD⟩ := S.unhide (by rw [upd_ne _ _ (Ne.symm hne)]; exact hD)
  obtain ⟨k6, S6⟩ := SU.refreeze
  refine ⟨_, k6, S6, .lst (vs := vs) (n := k) ?_ (hv.mono k6)⟩
  rw [mask_get, uD.2]; exact hDo
theorem Sat.tell {L : Addr} {D : Addr} {vs : List Value} {k : Nat} {l : List AV} (S : Sat p L outer h₀ s st (upd hid D (.raw (lstObj vs k)))) (hD : hid D = none) (hv : VRs h₀ l vs) : st.σ D = none ∧ Sat p L outer h₀ s (st.put D (.list l)) hid := by
  have hDo := S.hidd D _ (upd_same ..)
  have nL : L ≠ D := fun z => by have := S.locH; rw [z, upd_same] at this; cases this
  have sD : st.σ D = none := by
    cases q : st.σ D with
    | none => rfl
    | some o => have := (S.obj D o q).2.2; rw [upd_same] at this; cases this
  refine ⟨sD, S.base, S.sub, S.loc, S.locF, ?_, ?_, fun a o e => ?_, fun a c e => ?_, fun en he => ?_, S.os, S.gens⟩
  · show upd st.σ D _ L = none
    rw [upd_ne _ _ nL]; exact S.locS
  · have := S.locH; rwa [upd_ne _ _ nL] at this
  · have e' : upd st.σ D (.list l) a = some o := e
    by_cases z : a = D
    · subst z
      rw [upd_same] at e'
      cases e'
      exact ⟨⟨vs, k, hDo.1, hv⟩, hDo.2, hD⟩
    · rw [upd_ne _ _ z] at e'
      have := S.obj a o e'
      rw [upd_ne _ _ z] at this
      exact this
  · have z : a ≠ D := fun z => by rw [z, hD] at e; cases e
    exact S.hidd a c (by rw [upd_ne _ _ z]; exact e)
  · obtain ⟨h1, L', m, h2, h3⟩ := S.out en he
    refine ⟨h1, L', m, h2, ?_⟩
    have z : L' ≠ D := fun z => by rw [z, upd_same] at h3; cases h3
    rwa [upd_ne _ _ z] at h3

theorem comp_runM {elt target iter : Expr} {ifs : List Expr} {scope : Scope} {pos : Pos} {it : Value} {as : List Addr} {os : List Obj} {J : List AV → List Obj → Prop} {items : List AV} {G : (Addr → Option AObj) → Prop} {RR : Value → Env → Result → Shared → Prop} {E : Value → Shared → Prop} {rs : List (Option AV)} {h2 : Heap}
    (hA : AOK n b A env outer) (hb : b ≠ .handler) (hkind : scope.kind = .function) (hcell : ∀ x ∈ scope.names, x.2 ≠ .cell) (I : ItrOK p target it as h2 G J) (hf : ∀ a ∈ as, hid a = none) (hJ : J items os) (hos : as.length = os.length) (hG : G st.σ)
    (S : Sat p env.locals outer h2 s st (over hid as os)) (hz : items.length ≤ 16777216) (hE : ElemsW (ElemW p n env scope target ifs elt st.σ) items rs)
    (hR : ∀ D C s' h₄ m' vs k, Sub h2 h₄ → hid C = none → hid D = none → C ≠ D → Sat p env.locals outer h₄ s' st (upd (upd hid C (.frame m')) D (.raw (lstObj vs k))) → VRs h₄ (rs.filterMap id) vs → RR (.ref D) (compEnv scope C env) (.ok .next) s') :
    wpAny (model p.prog p.w) A (newList []) (fun acc s₃ => wpAny (model p.prog p.w) A (newFunctionEnv scope env.globals [] [] env.qual none .none (some env)) (fun cenv s₄ =>
      codeAny (model p.prog p.w) A (.compStart (.ListComp elt [⟨target, iter, ifs, 0⟩] scope pos) 0 it acc { cenv with scope := scope }) (RR acc cenv) s₄) E s₃) E s := by
  unfold newList
  refine wpAny_newObj_type ?_ (by show (0 : Nat) ≤ sizeLine; decide)
  obtain ⟨hDn, S3⟩ := S.pushH (s' := { s with heap := s.heap.push (lstObj [] 0) }) (o := lstObj [] 0) rfl rfl rfl rfl
  have inas : ∀ a ∈ as, ∃ o, over hid as os a = some (.raw o) := by
    have go : ∀ (as : List Addr) (os : List Obj) (hid : Hid), as.Nodup → as.length = os.length → ∀ a ∈ as, ∃ o, over hid as os a = some (.raw o) := by
      intro as
      induction as with
      | nil => intro os hid _ _ a ha; cases ha
      | cons b as ih =>
        intro os hid hnd hl a ha
        cases os with
        | nil => cases hl
        | cons o os =>
          have hnd' := List.nodup_cons.mp hnd
          rcases List.mem_cons.mp ha with rfl | ha
          · refine ⟨o, ?_⟩
            show over (upd hid a (.raw o)) as os a = _
            rw [← over_upd as os hnd'.1, upd_same]
          · exact ih os _ hnd'.2 (by simpa using hl) a ha
    exact go as os hid I.nodup hos
  have hDa : s.heap.objs.size ∉ as := fun z => by obtain ⟨o, e⟩ := inas _ z; rw [hDn] at e; cases e
  have hLa : env.locals ∉ as := fun z => by obtain ⟨o, e⟩ := inas _ z; have := S.locH; rw [e] at this; cases this
  have hDh : hid s.heap.objs.size = none := by
    cases q : hid s.heap.objs.size with
    | none => rfl
    | some c => rw [ext_over as os I.nodup hf _ _ q] at hDn; cases hDn
  obtain ⟨m, hn, hmv⟩ := S3.loc
  refine wpAny_newFunctionEnv (binds := []) hcell (fun _ h => nomatch h) (fun h' hns hsb => ?_) hkind
  have kk : Sub (s.heap.push (lstObj [] 0)) h' := fun a o e => hsb.extBut a o (Nat.ne_of_lt (Heap.lt_size e)) (Heap.get?_push_of_some _ e)
  have hse : ∀ e, e ∈ (if b = .comp then outer else env :: outer) → e ∈ outer ∨ (e.scope.kind ≠ .module ∧ e.frame = some env.locals) := fun e he => by
    split at he
    · exact .inl he
    · rename_i hc
      rcases List.mem_cons.mp he with rfl | he
      · exact .inr ⟨by rw [hA.kind]; decide, hA.frame hc⟩
      · exact .inl he
  have S4 := S3.enter (s' := { s with heap := h', toks := s.toks + 0 }) (ρ' := fun _ => none) hn rfl hns kk (fun x av e => by cases e) rfl rfl hse
  exact comp_core (env := env) (C := (s.heap.push (lstObj [] 0)).objs.size) (R := RR (.ref s.heap.objs.size) (compEnv scope (s.heap.push (lstObj [] 0)).objs.size env)) hA hb hkind I hf hJ hG S3 hDn hDa hDh hLa hmv S4 hz hE fun s' h₄ m' vs k k4 hC hCD S6 hv => hR _ _ s' h₄ m' vs k k4 hC hDh hCD S6 hv

theorem comp_run {elt target iter : Expr} {ifs : List Expr} {scope : Scope} {pos : Pos} {it : Value} {as : List Addr} {os : List Obj} {J : List AV → List Obj → Prop} {items : List AV} {G : (Addr → Option AObj) → Prop} {RR : Value → Env → Result → Shared → Prop} {E : Value → Shared → Prop} {rs : List (Option AV)} {h2 : Heap}
    (hA : AOK n b A env outer) (hb : b ≠ .handler) (hkind : scope.kind = .function) (hcell : ∀ x ∈ scope.names, x.2 ≠ .cell) (I : ItrOK p target it as h2 G J) (hf : ∀ a ∈ as, hid a = none) (hJ : J items os) (hos : as.length = os.length) (hG : G st.σ)
    (S : Sat p env.locals outer h2 s st (over hid as os)) (hz : items.length ≤ 16777216) (hE : ElemsW (ElemW p n env scope target ifs elt st.σ) items rs)
    (hR : ∀ D C s' h₄ m', Sub h2 h₄ → hid C = none → Sat p env.locals outer h₄ s' st (upd hid C (.frame m')) → VR h₄ (.lst (rs.filterMap id)) (.ref D) → RR (.ref D) (compEnv scope C env) (.ok .next) s') :
    wpAny (model p.prog p.w) A (newList []) (fun acc s₃ => wpAny (model p.prog p.w) A (newFunctionEnv scope env.globals [] [] env.qual none .none (some env)) (fun cenv s₄ =>
      codeAny (model p.prog p.w) A (.compStart (.ListComp elt [⟨target, iter, ifs, 0⟩] scope pos) 0 it acc { cenv with scope := scope }) (RR acc cenv) s₄) E s₃) E s :=
  comp_runM hA hb hkind hcell I hf hJ hos hG S hz hE fun D C s' h₄ m' vs k k4 hC hD hCD S6 hv => by
    obtain ⟨h₅, k5, S7, hv7⟩ := comp_frz hD hCD S6 hv
    exact hR D C s' h₅ m' (k4.trans k5) hC S7 hv7

/-- a comprehension -/
theorem EW.comp {elt target iter : Expr} {ifs : List Expr} {scope : Scope} {pos : Pos} {Q : AV → St → Prop} (hb : b ≠ .handler)
    (H : ItE p n b env target iter (fun items G st1 => G st1.σ ∧ items.length ≤ 16777216 ∧ ∃ rs, ElemsW (ElemW p n env scope target ifs elt st1.σ) items rs ∧ Q (.lst (rs.filterMap id)) st1) X st)
    (hfree : ∀ x ∈ scope.names, x.2 ≠ .free) (hcell : ∀ x ∈ scope.names, x.2 ≠ .cell) (hnames : ∀ x ∈ scope.names, x.2 = .local → scope.names.lookup x.1 = some .local) (hkind : scope.kind = .function := by rfl)
    (hs : ∀ x, foldedSetIterable iter env x = pure x := by intro _; rfl) : EW p n b env (.ListComp elt [⟨target, iter, ifs, 0⟩] scope pos) Q X st := by
  refine GW.mk fun A outer h₀ s hid hA S => ?_
  refine wpAny_ListComp hfree hkind hnames (H _ _ _ _ _ _ hA S fun s2 h2 it as os J items G st1 k02 I hf hos hJ S2 ⟨hG, hz, rs, hE, hQ⟩ => ?_) hs
  refine comp_run hA hb hkind hcell I hf hJ hos hG S2 hz hE fun D C s' h₄ m' k4 hC S6 hv => ?_
  refine ⟨m', (S6.hidd C _ (upd_same ..)).1, fun h' hsb => ?_⟩
  obtain ⟨S7, u⟩ := S6.unhideF hC S.out
  exact NP.mk (S7.agree (s' := { s' with heap := h' }) (fun a o e nu => (hsb.2 a fun z => nu (z ▸ u)).trans e) rfl rfl) (k02.trans k4) hv hQ

/-- a comprehension whose list may change -/
theorem EW.compM {elt target iter : Expr} {ifs : List Expr} {scope : Scope} {pos : Pos} {Q : AV → St → Prop} (hb : b ≠ .handler)
    (H : ItE p n b env target iter (fun items G st1 => G st1.σ ∧ items.length ≤ 16777216 ∧ ∃ rs, ElemsW (ElemW p n env scope target ifs elt st1.σ) items rs ∧ ∀ D, st1.σ D = none → Q (.ref D) (st1.put D (.list (rs.filterMap id)))) X st)
    (hfree : ∀ x ∈ scope.names, x.2 ≠ .free) (hcell : ∀ x ∈ scope.names, x.2 ≠ .cell) (hnames : ∀ x ∈ scope.names, x.2 = .local → scope.names.lookup x.1 = some .local) (hkind : scope.kind = .function := by rfl)
    (hs : ∀ x, foldedSetIterable iter env x = pure x := by intro _; rfl) : EW p n b env (.ListComp elt [⟨target, iter, ifs, 0⟩] scope pos) Q X st := by
  refine GW.mk fun A outer h₀ s hid hA S => ?_
  refine wpAny_ListComp hfree hkind hnames (H _ _ _ _ _ _ hA S fun s2 h2 it as os J items G st1 k02 I hf hos hJ S2 ⟨hG, hz, rs, hE, hQ⟩ => ?_) hs
  refine comp_runM hA hb hkind hcell I hf hJ hos hG S2 hz hE fun D C s' h₄ m' vs k k4 hC hD hCD S6 hv => ?_
  refine ⟨m', (S6.hidd C (.frame m') (by rw [upd_ne _ _ hCD, upd_same])).1, fun h' hsb => ?_⟩
  obtain ⟨sD, S7⟩ := S6.tell (by rw [upd_ne _ _ (Ne.symm hCD)]; exact hD) hv
  obtain ⟨S8, u⟩ := S7.unhideF hC S.out
  exact NP.mk (S8.agree (s' := { s' with heap := h' }) (fun a o e nu => (hsb.2 a fun z => nu (z ▸ u)).trans e) rfl rfl) (k02.trans k4) (.ref D) (hQ D sD)

/-- x = [..] -/
theorem XW.assignComp {x : String} {pos' spos : Pos} {elt target iter : Expr} {ifs : List Expr} {scope : Scope} {pos : Pos} {Q : AF → St → Prop} (hb : b ≠ .handler)
    (H : ItE p n b env target iter (fun items G st1 => G st1.σ ∧ items.length ≤ 16777216 ∧ ∃ rs, ElemsW (ElemW p n env scope target ifs elt st1.σ) items rs ∧ Q .next (st1.set x (.lst (rs.filterMap id)))) X st)
    (hfree : ∀ x ∈ scope.names, x.2 ≠ .free) (hcell : ∀ x ∈ scope.names, x.2 ≠ .cell) (hnames : ∀ x ∈ scope.names, x.2 = .local → scope.names.lookup x.1 = some .local) (hkind : scope.kind = .function := by rfl)
    (hs : ∀ x, foldedSetIterable iter env x = pure x := by intro _; rfl) (hl : env.kindOf (Str.ofString x) = some .local := by rfl)
    (hsw : swapsWith (.ListComp elt [⟨target, iter, ifs, 0⟩] scope pos) (some (.Name (Str.ofString x) pos')) spos.line env = pure true := by rfl) : XW p n b env (.Assign [.Name (Str.ofString x) pos'] (.ListComp elt [⟨target, iter, ifs, 0⟩] scope pos) spos) Q X st := by
  refine GW.mk fun A outer h₀ s hid hA S => ?_
  rw [exec_Assign_Name_used _ _ _ _ hsw]
  refine wpAny_bind (wpAny_standAt (wpAny_bind ?_))
  rw [arm_evalThenUse_ListComp]
  refine wpAny_bind (wpAny_comprehension_use rfl hs hfree hkind hnames (H _ _ _ _ _ _ hA S fun s2 h2 it as os J items G st1 k02 I hf hos hJ S2 ⟨hG, hz, rs, hE, hQ⟩ => ?_))
  refine comp_run hA hb hkind hcell I hf hJ hos hG S2 hz hE fun D C s' h₄ m' k4 hC S6 hv => ?_
  show wpAny _ _ (PySem.assign (.Name (Str.ofString x) pos') env (.ref D)) _ _ _
  refine wpAny_assign_Name ?_
  refine wpAny_mono (GF.at (storeW (n := n) (b := b) (env := env) (X := X) (Q := fun _ st' => st' = st1.set x (.lst (rs.filterMap id))) rfl hl) hA S6 hv (k02.trans k4)) (fun _ s3 z_ => z_.elim fun h5 _ st5 k5 S5 _ q => ?_) fun x s3 he => he.drop ((Ext.refl hid).upd hC) (.refl _) S.out
  subst q
  refine ⟨m', (S5.hidd C _ (upd_same ..)).1, fun h' hsb => ?_⟩
  obtain ⟨S7, u⟩ := S5.unhideF hC S.out
  have S8 := S7.agree (s' := { s3 with heap := h' }) (fun a o e nu => (hsb.2 a fun z => nu (z ▸ u)).trans e) rfl rfl
  exact wpAny_pure (wpAny_pure (NP.mk S8 k5 .next hQ))
end

end Mine

end

section
open PySem PySem.W PyProof.Rows PySem.Calls
namespace Mine

section
variable {p : PC} {n : Nat} {b : Mode} {env : Env} {X : Value → St → Prop} {st : St}

/-! ints -/
theorem add_int {i j : Int} {Q : AV → St → Prop} (h : Q (.int (i + j)) st) : GV2 p n b env (.int i) (.int j) VR (binaryOp .Add) Q X st :=
  GV2.mk fun _ _ _ _ _ _ _ _ S hv hu => by cases hv; cases hu; exact wpAny_add_int (NP.mk (S.of_eq rfl rfl rfl) (.refl _) (.int ..) h)
theorem iadd_int {i j : Int} {Q : AV → St → Prop} (h : Q (.int (i + j)) st) : GV2 p n b env (.int i) (.int j) VR (inplaceOp .Add) Q X st :=
  GV2.mk fun _ _ _ _ _ _ _ _ S hv hu => by cases hv; cases hu; exact wpAny_iadd_int (NP.mk (S.of_eq rfl rfl rfl) (.refl _) (.int ..) h)
theorem sub_int {i j : Int} {Q : AV → St → Prop} (h : Q (.int (i - j)) st) : GV2 p n b env (.int i) (.int j) VR (binaryOp .Sub) Q X st :=
  GV2.mk fun _ _ _ _ _ _ _ _ S hv hu => by cases hv; cases hu; exact PyProof.Rows.sub_int (NP.mk (S.of_eq rfl rfl rfl) (.refl _) (.int ..) h)
theorem isub_int {i j : Int} {Q : AV → St → Prop} (h : Q (.int (i - j)) st) : GV2 p n b env (.int i) (.int j) VR (inplaceOp .Sub) Q X st :=
  GV2.mk fun _ _ _ _ _ _ _ _ S hv hu => by cases hv; cases hu; exact PyProof.Rows.isub_int (NP.mk (S.of_eq rfl rfl rfl) (.refl _) (.int ..) h)
theorem mul_int {i j : Int} {Q : AV → St → Prop} (h : Q (.int (i * j)) st) (hm : IntMulOk i j) : GV2 p n b env (.int i) (.int j) VR (binaryOp .Mult) Q X st :=
  GV2.mk fun _ _ _ _ _ _ _ _ S hv hu => by cases hv; cases hu; exact PyProof.Rows.mul_int (NP.mk (S.of_eq rfl rfl rfl) (.refl _) (.int ..) h) hm
theorem mod_int {i j : Int} {Q : AV → St → Prop} (h : Q (.int (i.fmod j)) st) (hj : j ≠ 0 := by decide) : GV2 p n b env (.int i) (.int j) VR (binaryOp .Mod) Q X st :=
  GV2.mk fun _ _ _ _ _ _ _ _ S hv hu => by cases hv; cases hu; exact PyProof.Rows.mod_int hj (NP.mk (S.of_eq rfl rfl rfl) (.refl _) (.int ..) h)
theorem div_int {i j : Int} {Q : AV → St → Prop} (h : Q (.int (i.fdiv j)) st) (hp : Builtin.divisionGoesByPylong i j = false) (hj : j ≠ 0 := by decide) : GV2 p n b env (.int i) (.int j) VR (binaryOp .FloorDiv) Q X st :=
  GV2.mk fun _ _ _ _ _ _ _ _ S hv hu => by cases hv; cases hu; exact PyProof.Rows.floordiv_int hj (NP.mk (S.of_eq rfl rfl rfl) (.refl _) (.int ..) h) (.inl hp)
theorem neg_int {i : Int} {Q : AV → St → Prop} (h : Q (.int (-i)) st) : GF p n b env VR (.int i) VR (unaryOp .USub) Q X st :=
  GF.mk fun _ _ _ _ _ _ _ S hv => by cases hv; exact PyProof.Rows.neg_int (NP.mk (S.of_eq rfl rfl rfl) (.refl _) (.int ..) h)
theorem lt_int {i j : Int} {Q : AV → St → Prop} (h : Q (.bool (decide (i < j))) st) : GV2 p n b env (.int i) (.int j) VR (compareOp .Lt) Q X st :=
  GV2.mk fun _ _ _ _ _ _ _ _ S hv hu => by cases hv; cases hu; exact PyProof.Rows.lt_int (NP.mk S (.refl _) (.bool ..) h)
theorem ge_int {i j : Int} {Q : AV → St → Prop} (h : Q (.bool (decide (j ≤ i))) st) : GV2 p n b env (.int i) (.int j) VR (compareOp .GtE) Q X st :=
  GV2.mk fun _ _ _ _ _ _ _ _ S hv hu => by cases hv; cases hu; exact PyProof.Rows.ge_int (NP.mk S (.refl _) (.bool ..) h)
theorem eq_int {i j : Int} {Q : AV → St → Prop} (h : Q (.bool (i == j)) st) : GV2 p n b env (.int i) (.int j) VR (compareOp .Eq) Q X st :=
  GV2.mk fun _ _ _ _ _ _ _ _ S hv hu => by cases hv; cases hu; exact PyProof.Rows.eq_int (NP.mk S (.refl _) (.bool ..) h)
theorem ne_int {i j : Int} {Q : AV → St → Prop} (h : Q (.bool (i != j)) st) : GV2 p n b env (.int i) (.int j) VR (compareOp .NotEq) Q X st :=
  GV2.mk fun _ _ _ _ _ _ _ _ S hv hu => by cases hv; cases hu; exact PyProof.Rows.ne_int (NP.mk S (.refl _) (.bool ..) h)
theorem ne_bool {i j : Bool} {Q : AV → St → Prop} (h : Q (.bool (i != j)) st) : GV2 p n b env (.bool i) (.bool j) VR (compareOp .NotEq) Q X st :=
  GV2.mk fun _ _ _ _ _ _ _ _ S hv hu => by cases hv; cases hu; exact PyProof.Rows.ne_bool (NP.mk S (.refl _) (.bool ..) h)

/-! texts -/
theorem add_str {x y : Str} {Q : AV → St → Prop} (h : Q (.str (x ++ y)) st) (hz : x.length + y.length ≤ 16777216) : GV2 p n b env (.str x) (.str y) VR (binaryOp .Add) Q X st :=
  GV2.mk fun _ _ _ _ _ _ _ _ S hv hu => by cases hv; cases hu; exact PyProof.Rows.add_str (fun _ _ => NP.mk (S.of_eq rfl rfl rfl) (.refl _) (.str ..) h) (by rw [sizeLine_val]; exact hz)
theorem eq_str {x y : Str} {Q : AV → St → Prop} (h : Q (.bool (x == y)) st) : GV2 p n b env (.str x) (.str y) VR (compareOp .Eq) Q X st :=
  GV2.mk fun _ _ _ _ _ _ _ _ S hv hu => by cases hv; cases hu; exact PyProof.Rows.eq_str (NP.mk S (.refl _) (.bool ..) h)
theorem ne_str {x y : Str} {Q : AV → St → Prop} (h : Q (.bool (x != y)) st) : GV2 p n b env (.str x) (.str y) VR (compareOp .NotEq) Q X st :=
  GV2.mk fun _ _ _ _ _ _ _ _ S hv hu => by cases hv; cases hu; exact PyProof.Rows.ne_str (NP.mk S (.refl _) (.bool ..) h)

/-! None -/
theorem VR.ne_none {h : Heap} {a : AV} {v : Value} (x : VR h a v) (ha : a ≠ .none) : v ≠ .none := by cases x <;> first | exact (ha rfl).elim | (intro z; cases z)
theorem is_none_t {Q : AV → St → Prop} (h : Q (.bool true) st) : GV2 p n b env .none .none VR (compareOp .Is) Q X st :=
  GV2.mk fun _ _ _ _ _ _ _ _ S hv hu => by cases hv; cases hu; exact is_none (NP.mk S (.refl _) (.bool ..) h)
theorem is_none_f {a : AV} {Q : AV → St → Prop} (ha : a ≠ .none) (h : Q (.bool false) st) : GV2 p n b env a .none VR (compareOp .Is) Q X st :=
  GV2.mk fun _ _ _ _ _ _ _ _ S hv hu => by cases hu; exact is_none_ne (hv.ne_none ha) (NP.mk S (.refl _) (.bool ..) h)
theorem isnot_none_t {a : AV} {Q : AV → St → Prop} (ha : a ≠ .none) (h : Q (.bool true) st) : GV2 p n b env a .none VR (compareOp .IsNot) Q X st :=
  GV2.mk fun _ _ _ _ _ _ _ _ S hv hu => by cases hu; exact isnot_none_ne (hv.ne_none ha) (NP.mk S (.refl _) (.bool ..) h)
theorem isnot_none_f {Q : AV → St → Prop} (h : Q (.bool false) st) : GV2 p n b env .none .none VR (compareOp .IsNot) Q X st :=
  GV2.mk fun _ _ _ _ _ _ _ _ S hv hu => by cases hv; cases hu; exact wpAny_isNot_self rfl (NP.mk S (.refl _) (.bool ..) h)

/-! data compared -/
mutual
noncomputable def toD : AV → PyData
  | .none => .none
  | .bool b => .bool b
  | .int i => .int i
  | .str x => .str x
  | .ref _ => .none
  | .tup l => .tuple (toDs l)
  | .lst l => .list (toDs l)
noncomputable def toDs : List AV → List PyData
  | [] => []
  | a :: l => toD a :: toDs l
end
mutual
noncomputable def noRef : AV → Bool
  | .ref _ => false
  | .none | .bool _ | .int _ | .str _ => true
  | .tup l | .lst l => noRefs l
noncomputable def noRefs : List AV → Bool
  | [] => true
  | a :: l => noRef a && noRefs l
end
mutual
theorem VR.reads {h : Heap} : ∀ {a : AV} {v : Value}, VR h a v → noRef a = true → ∃ as, Reads h v (toD a) as
  | _, _, .none, _ => ⟨_, .none⟩
  | _, _, .bool b, _ => ⟨_, .bool b⟩
  | _, _, .int i t, _ => ⟨_, .int i t⟩
  | _, _, .str x t, _ => ⟨_, .str x t⟩
  | _, _, .ref a, e => by cases e
  | _, _, .tup e r, q => let ⟨_, z⟩ := VRs.reads r q; ⟨_, .tuple e rfl rfl z⟩
  | _, _, .lst e r, q => let ⟨_, z⟩ := VRs.reads r q; ⟨_, .list e rfl rfl z⟩
theorem VRs.reads {h : Heap} : ∀ {l : List AV} {vs : List Value}, VRs h l vs → noRefs l = true → ∃ as, ReadsAll h vs (toDs l) as
  | _, _, .nil, _ => ⟨_, .nil⟩
  | _, _, .cons a r, q => by
    have q' := Bool.and_eq_true_iff.mp q
    obtain ⟨_, z⟩ := VR.reads a q'.1
    obtain ⟨_, z'⟩ := VRs.reads r q'.2
    exact ⟨_, .cons z z'⟩
end
/-- data that may be compared: no reference, proper texts, not deep -/
noncomputable def Dat (a : AV) : Prop := noRef a = true ∧ (toD a).canLay0 = true ∧ (toD a).depth ≤ 50
theorem eq_data {a c : AV} {Q : AV → St → Prop} (ha : Dat a) (hc : Dat c) (h : Q (.bool (PyData.eqv (toD a) (toD c))) st) : GV2 p n b env a c VR (compareOp .Eq) Q X st :=
  GV2.mk fun _ _ _ _ _ _ _ hA S hv hu => by
    obtain ⟨_, r1⟩ := (hv.mono S.sub).reads ha.1
    obtain ⟨_, r2⟩ := (hu.mono S.sub).reads hc.1
    exact SeqAt.compareEq_reads r1 r2 ha.2.1 hc.2.1 (by have := hA.units; have := ha.2.2; show _ < 9900; (first | lia | omega)) (NP.mk S (.refl _) (.bool ..) h)
theorem ne_data {a c : AV} {Q : AV → St → Prop} (ha : Dat a) (hc : Dat c) (h : Q (.bool (!PyData.eqv (toD a) (toD c))) st) : GV2 p n b env a c VR (compareOp .NotEq) Q X st :=
  GV2.mk fun _ _ _ _ _ _ _ hA S hv hu => by
    obtain ⟨_, r1⟩ := (hv.mono S.sub).reads ha.1
    obtain ⟨_, r2⟩ := (hu.mono S.sub).reads hc.1
    exact SeqAt.compareNe_reads r1 r2 ha.2.1 hc.2.1 (by have := hA.units; have := ha.2.2; show _ < 9900; (first | lia | omega)) (NP.mk S (.refl _) (.bool ..) h)
theorem in_list {a : AV} {l : List AV} {Q : AV → St → Prop} (ha : Dat a) (hc : Dat (.lst l)) (h : Q (.bool ((toDs l).any fun y => PyData.eqv y (toD a))) st) : GV2 p n b env a (.lst l) VR (compareOp .In) Q X st :=
  GV2.mk fun _ _ _ _ _ _ _ hA S hv hu => by
    obtain ⟨_, r1⟩ := (hv.mono S.sub).reads ha.1
    obtain ⟨_, r2⟩ := (hu.mono S.sub).reads hc.1
    exact SeqAt.in_list_reads r2 r1 hc.2.1 ha.2.1 (by have := hA.units; have := ha.2.2; show _ < 9900; (first | lia | omega)) (NP.mk S (.refl _) (.bool ..) h)
theorem in_tup {a : AV} {l : List AV} {Q : AV → St → Prop} (ha : Dat a) (hc : Dat (.tup l)) (h : Q (.bool ((toDs l).any fun y => PyData.eqv y (toD a))) st) : GV2 p n b env a (.tup l) VR (compareOp .In) Q X st :=
  GV2.mk fun _ _ _ _ _ _ _ hA S hv hu => by
    obtain ⟨_, r1⟩ := (hv.mono S.sub).reads ha.1
    obtain ⟨_, r2⟩ := (hu.mono S.sub).reads hc.1
    exact SeqAt.in_tuple_reads r2 r1 hc.2.1 ha.2.1 (by have := hA.units; have := ha.2.2; show _ < 9900; (first | lia | omega)) (NP.mk S (.refl _) (.bool ..) h)

/-! lists -/
theorem add_lists {a c : AV} {l m : List AV} {Q : AV → St → Prop} (hl : IsL st.σ a l) (hm : IsL st.σ c m) (h : Q (.lst (l ++ m)) st) (hz : l.length + m.length ≤ 16777216) : GV2 p n b env a c VR (binaryOp .Add) Q X st :=
  GV2.mk fun _ _ _ s _ _ _ _ S hv hu => by
    obtain ⟨y, vs, k, rfl, e, r⟩ := hl.at S hv
    obtain ⟨y', vs', k', rfl, e', r'⟩ := hm.at S hu
    refine P.add_list e e' ?_ (by rw [List.size_toArray, List.size_toArray, r.length, r'.length, sizeLine_val]; exact hz)
    rw [List.append_toArray]
    obtain ⟨h₁, k1, S', e1⟩ := S.pushF (s' := { s with heap := s.heap.push (lstObj (vs ++ vs') 0) }) (lstObj (vs ++ vs') 0) rfl rfl rfl rfl
    exact NP.mk S' k1 (.lst e1 ((r.append r').mono k1)) h
theorem truthy_list {a : AV} {l : List AV} {Q : Bool → St → Prop} (hl : IsL st.σ a l) (h : Q (!l.isEmpty) st) (hz : l.length ≤ 16777216) : GF p n b env VR a BR truthy Q X st :=
  GF.mk fun _ _ _ _ _ _ _ S hv => by
    obtain ⟨y, vs, k, rfl, e, r⟩ := hl.at S hv
    refine wpAny_truthy_list (lst_is e) (by rw [List.size_toArray, r.length]; (first | lia | omega)) (NP.mk (S.of_eq rfl rfl rfl) (.refl _) ?_ h)
    have := r.length
    cases l <;> cases vs <;> simp_all
theorem truthy_none {Q : Bool → St → Prop} (h : Q false st) : GF p n b env VR .none BR truthy Q X st :=
  GF.mk fun _ _ _ _ _ _ _ S hv => by cases hv; exact PyProof.Rows.truthy_none (NP.mk S (.refl _) rfl h)
theorem not_bool {c : Bool} {Q : AV → St → Prop} (h : Q (.bool (!c)) st) : GF p n b env VR (.bool c) VR (unaryOp .Not) Q X st :=
  GF.mk fun _ _ _ _ _ _ _ S hv => by cases hv; exact not_of (wpAny_truthy_bool (NP.mk S (.refl _) (.bool ..) h))

/-! calls of built-ins -/
theorem VRs.one {h : Heap} {a : AV} {vs : List Value} (x : VRs h [a] vs) : ∃ v, vs = [v] ∧ VR h a v := by
  cases x with | cons p q => cases q; exact ⟨_, rfl, p⟩
theorem VRs.two {h : Heap} {a c : AV} {vs : List Value} (x : VRs h [a, c] vs) : ∃ v u, vs = [v, u] ∧ VR h a v ∧ VR h c u := by
  cases x with | cons p q =>
  obtain ⟨u, rfl, r⟩ := q.one
  exact ⟨_, u, rfl, p, r⟩
theorem call_len {a : AV} {l : List AV} {Q : AV → St → Prop} (hl : IsL st.σ a l) (h : Q (.int l.length) st) (hz : l.length ≤ 16777216) : CW p n b env (.builtin "len") [a] Q X st :=
  GF.mk fun _ _ _ _ _ _ _ S hv => by
    obtain ⟨v, rfl, hv1⟩ := hv.one
    obtain ⟨y, vs, k, rfl, e, r⟩ := hl.at S hv1
    refine call_len_list (lst_is e) (by rw [List.size_toArray, r.length]; (first | lia | omega)) (NP.mk (S.of_eq rfl rfl rfl) (.refl _) ?_ h)
    rw [List.size_toArray, r.length]; exact .int ..
theorem call_max {i j : Int} {Q : AV → St → Prop} (h : Q (.int (if j > i then j else i)) st) (hb : b ≠ .handler) : CW p n b env (.builtin "max") [.int i, .int j] Q X st :=
  GF.mk fun _ _ _ _ _ _ hA S hv => by
    obtain ⟨v, u, rfl, hv1, hu⟩ := hv.two
    cases hv1; cases hu
    refine max_two_ints (hA.handled hb) fun h' tk kk => NP.mk (S.grow kk rfl S.gens) (.refl _) ?_ h
    split <;> exact .int ..
theorem call_min {i j : Int} {Q : AV → St → Prop} (h : Q (.int (if j < i then j else i)) st) (hb : b ≠ .handler) : CW p n b env (.builtin "min") [.int i, .int j] Q X st :=
  GF.mk fun _ _ _ _ _ _ hA S hv => by
    obtain ⟨v, u, rfl, hv1, hu⟩ := hv.two
    cases hv1; cases hu
    refine min_two_ints (hA.handled hb) fun h' tk kk => NP.mk (S.grow kk rfl S.gens) (.refl _) ?_ h
    split <;> exact .int ..
theorem call_str_int {i : Int} {Q : AV → St → Prop} (h : Q (.str (Str.ofString (toString i))) st) (hi : i.natAbs.log2 < 1920) : CW p n b env (.type "str") [.int i] Q X st :=
  GF.mk fun _ _ _ _ _ _ _ S hv => by
    obtain ⟨v, rfl, hv1⟩ := hv.one
    cases hv1
    exact P.str_of_int hi (NP.mk (S.of_eq rfl rfl rfl) (.refl _) (.str ..) h)
theorem call_int_int' {i : Int} {Q : AV → St → Prop} (h : Q (.int i) st) : CW p n b env (.type "int") [.int i] Q X st :=
  GF.mk fun _ _ _ _ _ _ _ S hv => by
    obtain ⟨v, rfl, hv1⟩ := hv.one
    cases hv1
    exact PySem.call_int_int (NP.mk S (.refl _) (.int ..) h)
theorem call_sum {a : AV} {ns : List Int} {Q : AV → St → Prop} (hl : IsL st.σ a (ns.map .int)) (h : Q (.int ns.sum) st) (hb : b ≠ .handler) : CW p n b env (.builtin "sum") [a] Q X st :=
  GF.mk fun _ _ _ s _ _ hA S hv => by
    obtain ⟨v, rfl, hv1⟩ := hv.one
    obtain ⟨y, vs, k, rfl, e, r⟩ := hl.at S hv1
    have key : ∀ (ns : List Int) (vs : List Value) (h : Heap), VRs h (ns.map .int) vs → ∃ xs : List (Int × Tok), vs = xs.map (fun x => Value.int x.1 x.2) ∧ xs.map (·.1) = ns := by
      intro ns
      induction ns with
      | nil => intro vs h r; cases r; exact ⟨[], rfl, rfl⟩
      | cons i r ih =>
        intro vs h x
        cases x with | cons p q =>
        cases p with | int _ t =>
        obtain ⟨xs, rfl, rfl⟩ := ih _ _ q
        exact ⟨(i, t) :: xs, rfl, rfl⟩
    obtain ⟨xs, rfl, rfl⟩ := key ns vs _ r
    have hl' : s.heap.IsList y (intItems xs.toArray) := by
      have : intItems xs.toArray = (xs.map (fun x => Value.int x.1 x.2)).toArray := by simp [intItems]
      rw [this]; exact lst_is e
    refine sum_intListG (hA.handled hb) hl' fun h' tk t' kk => NP.mk (S.grow (s' := { s with heap := h', toks := tk }) kk rfl S.gens) (.refl _) ?_ h
    have : preSum (numAt xs.toArray) xs.toArray.size = (xs.map (·.1)).sum := by
      rw [preSum_eq, List.take_of_length_le (by simp)]
    rw [this]; exact .int ..
theorem call_tuple {a : AV} {l : List AV} {Q : AV → St → Prop} (hl : IsL st.σ a l) (h : Q (.tup l) st) (hz : l.length ≤ 16777216) : CW p n b env (.type "tuple") [a] Q X st :=
  GF.mk fun _ _ _ s _ _ _ S hv => by
    obtain ⟨v, rfl, hv1⟩ := hv.one
    obtain ⟨y, vs, k, rfl, e, r⟩ := hl.at S hv1
    refine call_tuple_list (lst_is e) (fun h' kk => ?_) (by rw [List.size_toArray, r.length, sizeLine_val]; exact hz)
    have S1 := S.grow (s' := { s with heap := h' }) kk rfl S.gens
    obtain ⟨h₁, k1, S', e1⟩ := S1.pushF (s' := { s with heap := h'.push (tupObj vs 0) }) (tupObj vs 0) rfl rfl rfl rfl
    exact NP.mk S' k1 (.tup e1 (r.mono k1)) h
end

end Mine

end

section
open PySem PySem.W PyProof.Rows PySem.Calls
namespace Mine

section
variable {p : PC} {n : Nat} {b : Mode} {env : Env} {X : Value → St → Prop} {st : St}

/-! assignment -/
noncomputable abbrev AsW (p : PC) (n : Nat) (b : Mode) (env : Env) (target : Expr) (a : AV) (Q : Unit → St → Prop) (X : Value → St → Prop) (st : St) : Prop := GF p n b env VR a UR (assign target env) Q X st
theorem AsW.name {x : String} {pos : Pos} {a : AV} {Q : Unit → St → Prop} (h : Q () (st.set x a)) (hl : env.kindOf (Str.ofString x) = some .local := by rfl) : AsW p n b env (.Name (Str.ofString x) pos) a Q X st :=
  GF.mk fun _ _ _ _ _ _ hA S hv => wpAny_assign_Name (GF.at (f := fun v => storeName env (Str.ofString x) v) (storeW h hl) hA S hv (.refl _))
/-- several targets, one value each -/
noncomputable def AsWs (p : PC) (n : Nat) (b : Mode) (env : Env) (X : Value → St → Prop) : List Expr → List AV → (Unit → St → Prop) → St → Prop
  | t :: ts, a :: as, Q, st => AsW p n b env t a (fun _ st1 => AsWs p n b env X ts as Q st1) X st
  | [], [], Q, st => Q () st
  | _, _, _, _ => False
theorem inOrder {A : Around} {outer : List Env} {hid : Hid} {h₀ : Heap} (hA : AOK n b A env outer) : ∀ (ts : List Expr) (as : List AV) (vs : List Value) {Q : Unit → St → Prop} {st : St} {s : Shared} {h₁ : Heap}, AsWs p n b env X ts as Q st → Sat p env.locals outer h₁ s st hid → VRs h₁ as vs → Sub h₀ h₁ →
    wpAny (model p.prog p.w) A (assignInOrder (ts.map (fun t v => assign t env v)) vs) (NP p env.locals outer h₀ hid UR Q) (EP p env.locals outer h₀ hid X) s := by
  intro ts
  induction ts with
  | nil =>
    intro as vs Q st s h₁ H S hv k
    cases as with
    | nil => cases hv; exact wpAny_pure (NP.mk S k trivial H)
    | cons a r => exact H.elim
  | cons t ts ih =>
    intro as vs Q st s h₁ H S hv k
    cases as with
    | nil => exact H.elim
    | cons a as =>
      cases hv with | cons p q =>
      show wpAny _ _ (assignInOrder ((fun v => assign t env v) :: ts.map (fun t v => assign t env v)) (_ :: _)) _ _ _
      rw [assignInOrder]
      refine wpAny_bind (wpAny_holding (wpAny_mono (GF.run H _ _ _ _ _ _ hA S p) (fun _ s2 z_ => z_.elim fun h2 _ st2 k2 S2 _ q2 => ih as _ q2 S2 (q.mono k2) (k.trans k2)) fun _ _ e => EP.mono k (fun _ _ z => z) e))
theorem AsW.tup {elts : List Expr} {k : Nat} {pos : Pos} {l : List AV} {Q : Unit → St → Prop} (hb : b ≠ .handler) (H : AsWs p n b env X elts l Q st) (hlen : elts.length = l.length := by rfl)
    (hn : (assignEach elts env).length = elts.length := by rfl) (hm : (assignEach elts env).map (·.2) = elts.map (fun t v => assign t env v) := by rfl) (hstar : (assignEach elts env).findIdx? (·.1) = none := by rfl) : AsW p n b env (.Tuple elts k pos) (.tup l) Q X st := by
  refine GF.mk fun A outer h₀ s hid v hA S hv => ?_
  cases hv with | tup e r =>
  rename_i y vs k'
  refine assign_Tuple_tuple (hA.handled hb) (tup_is (S.sub _ _ e)) (by rw [hn, List.size_toArray, r.length, hlen]) hstar fun h' he => ?_
  rw [hm]
  have u := unt_ge S (Nat.le_refl s.heap.objs.size)
  exact inOrder hA elts l vs H (S.extB (s' := { s with heap := h' }) u he rfl rfl) r (.refl _)
theorem XW.assignT {elts : List Expr} {k : Nat} {tpos pos : Pos} {e : Expr} {Q : AF → St → Prop} (H : EW p n b env e (fun a st1 => AsW p n b env (.Tuple elts k tpos) a (fun _ st2 => Q .next st2) X st1) X st)
    (hs : swapsWithSole [.Tuple elts k tpos] e pos.line env = pure false := by rfl) (hw : swappedStores [.Tuple elts k tpos] e env = pure none := by rfl) : XW p n b env (.Assign [.Tuple elts k tpos] e pos) Q X st :=
  GW.mk fun _ _ _ _ _ hA S => Assign_Tuple (H.use hA S (.refl _) fun _ _ _ _ _ k1 _ S1 hv H1 => wpAny_mono (GF.at H1 hA S1 hv k1) (fun _ _ z_ => z_.elim fun h2 _ st2 k2 S2 _ q => NP.mk S2 k2 .next q) fun _ _ e => e) hs hw

/-! methods of built-in types -/
/-- a method is sought, the arguments are reckoned, it is called -/
noncomputable def MW (p : PC) (n : Nat) (b : Mode) (env : Env) (a : AV) (name : Str) (pos : Pos) (args : List Expr) (Q : AV → St → Prop) (X : Value → St → Prop) (st : St) : Prop :=
  ∀ A outer h₀ s hid v (pl : Sem Bool), AOK n b A env outer → Sat p env.locals outer h₀ s st hid → VR h₀ a v →
    wpAny (model p.prog p.w) A (getMethod v name pl) (fun fx s₂ => wpAny (model p.prog p.w) A (callWith pos fx.1 fx.2 (backTo pos (starEach args env)) []) (NP p env.locals outer h₀ hid VR Q) (EP p env.locals outer h₀ hid X) s₂) (EP p env.locals outer h₀ hid X) s
theorem EW.callM {o : Expr} {name : Str} {apos pos : Pos} {args : List Expr} {pl : Sem Bool} {Q : AV → St → Prop} (H : EW p n b env o (fun a st1 => MW p n b env a name pos args Q X st1) X st)
    (he : eval (.Call (.Attribute o name apos) args [] pos) env = (do
      let ov ← eval o env
      standAt apos.atName
      let (f, first) ← holding [ov] (getMethod ov name pl)
      callWith pos f first (backTo pos (starEach args env)) []) := by rfl) : EW p n b env (.Call (.Attribute o name apos) args [] pos) Q X st :=
  GW.mk fun _ _ _ _ _ hA S => by
    rw [he]
    refine wpAny_bind (H.use hA S (.refl _) fun v s1 h1 a st1 k1 _ S1 hv H1 => wpAny_bind (wpAny_standAt (wpAny_bind (wpAny_holding ?_))))
    refine wpAny_mono (H1 _ _ _ _ _ _ pl hA S1 hv) (fun fx s2 h2 => ?_) fun _ _ e => EP.mono k1 (fun _ _ z => z) e
    exact wpAny_mono h2 (fun _ _ z_ => z_.elim fun h3 y st3 k3 S3 r q => ⟨h3, y, st3, k1.trans k3, S3, r, q⟩) fun _ _ e => EP.mono k1 (fun _ _ z => z) e
/-- the receiver is of a built-in type -/
noncomputable def RecvT (p : PC) (st : St) (a : AV) (T : String) : Prop := ∀ L outer h₀ s hid v, Sat p L outer h₀ s st hid → VR h₀ a v → s.TypeIs v T ∧ ∀ x, v = .ref x → ∃ ob, s.heap.get? x = some ob ∧ ob.dict = none
theorem MW.builtin {a : AV} {T : String} {name : Str} {id : String} {pos : Pos} {args : List Expr} {Q : AV → St → Prop} (hr : RecvT p st a T) (pa : PlainAttrs T) (slot : Slot T name id) (hty : typeOf (.builtin id) = pure (.type "method_descriptor"))
    (H : AW p n b env (.builtin id) pos args (fun as st1 => CW p n b env (.builtin id) (a :: as) Q X st1) X st) (hpl : (backTo pos (starEach args env)).any (·.1) = false := by rfl) : MW p n b env a name pos args Q X st :=
  fun _ _ _ _ _ v pl hA S hv => by
    obtain ⟨hT, hd⟩ := hr _ _ _ _ _ _ S hv
    refine getMethod_builtin hT pa slot hty hd ?_
    refine callWith_builtin hpl (H.use hA S (.refl _) fun ar s2 h2 as st2 k2 _ S2 ha H2 => ?_)
    obtain ⟨ap, ak⟩ := ar
    obtain ⟨ha1, ha2⟩ := ha
    obtain rfl : ak = [] := ha2
    exact GF.at (f := fun vs => call (.builtin id) vs) (v := v :: ap) H2 hA S2 (.cons (hv.mono k2) ha1) k2
theorem recv_list {a : AV} {l : List AV} (hl : IsL st.σ a l) : RecvT p st a "list" := fun _ _ _ _ _ v S hv => by
  obtain ⟨y, vs, k, rfl, e, r⟩ := hl.at S hv
  exact ⟨⟨_, e, rfl⟩, fun x q => by cases q; exact ⟨_, e, rfl⟩⟩
theorem recv_dict {d : Addr} {es : List (Str × AV)} {ep : Nat} (e : st.σ d = some (.dict es ep)) : RecvT p st (.ref d) "dict" := fun _ _ _ _ _ v S hv => by
  cases hv
  obtain ⟨ds, e1, r⟩ := (S.obj _ _ e).1
  exact ⟨e1.dictOf.typeIs, fun x q => by cases q; obtain ⟨o, _, z, hx, _⟩ := e1; exact ⟨o, z, hx.2.1⟩⟩
theorem recv_set {d : Addr} {T : Str → Bool} {k : Nat} (e : st.σ d = some (.set T k)) : RecvT p st (.ref d) "set" := fun _ _ _ _ _ v S hv => by
  cases hv
  have e1 : Heap.SetOf (strKind p.prog p.w) _ _ _ _ := (S.obj _ _ e).1
  exact ⟨e1.typeIs, fun x q => by cases q; obtain ⟨o, _, _, _, z, hx, _⟩ := e1; exact ⟨o, z, hx.2.1⟩⟩

/-! methods of lists that may change -/
theorem VRs.cons1 {h : Heap} {a : AV} {l : List AV} {vs : List Value} (x : VRs h (a :: l) vs) : ∃ v r, vs = v :: r ∧ VR h a v ∧ VRs h l r := by
  cases x with | cons p q => exact ⟨_, _, rfl, p, q⟩
theorem call_append {d : Addr} {l : List AV} {a : AV} {Q : AV → St → Prop} (e : st.σ d = some (.list l)) (h : Q .none (st.put d (.list (l ++ [a])))) (hz : l.length ≤ 16777216) : CW p n b env (.builtin "list.append") [.ref d, a] Q X st :=
  GF.mk fun _ _ _ s _ _ _ S hv => by
    obtain ⟨v, u, rfl, hv1, hu⟩ := hv.two
    cases hv1
    obtain ⟨vs, k, e1, r⟩ := (S.obj _ _ e).1
    refine append_raw e1 (by rw [r.length]; exact hz) fun k' h' e' hs => ?_
    exact NP.mk (S.setO (s' := { s with heap := h' }) (ao' := .list (l ++ [a])) e hs rfl rfl ⟨_, k', e', r.append (.cons hu .nil)⟩) (.refl _) .none h
theorem XW.append {o : Expr} {apos pos spos : Pos} {e : Expr} {Q : AF → St → Prop} (H : EW p n b env o (fun a st1 => ∃ d, a = .ref d ∧ EW p n b env e (fun c st2 => ∃ l, st2.σ d = some (.list l) ∧ l.length ≤ 16777216 ∧ Q .next (st2.put d (.list (l ++ [c])))) X st1 ∧ ∃ l, st1.σ d = some (.list l)) X st)
    {pl : Sem Bool} (hi : interactive env = false := by rfl) (hs : swapsWith (.Call (.Attribute o (Str.ofString "append") apos) [e] [] pos) none spos.line env = pure false := by rfl)
    (he : eval (.Call (.Attribute o (Str.ofString "append") apos) [e] [] pos) env = (do
      let ov ← eval o env
      standAt apos.atName
      let (f, first) ← holding [ov] (getMethod ov (Str.ofString "append") pl)
      callWith pos f first (backTo pos (starEach [e] env)) []) := by rfl)
    (hst : backTo pos (starEach [e] env) = [(false, eval e env)] := by rfl) : XW p n b env (.Expr (.Call (.Attribute o (Str.ofString "append") apos) [e] [] pos) spos) Q X st := by
  refine XW.expr (EW.callM (H.mono (fun a st1 hq => ?_) fun _ _ z => z) he) hi hs
  obtain ⟨d, rfl, h1, l, hl⟩ := hq
  refine MW.builtin (recv_list (.inr ⟨d, rfl, hl⟩)) F.plainAttrs_list F.slot_list_append F.type_list_append ?_ (by rw [hst]; rfl)
  refine AW.cons (LW.cons (h1.mono (fun c st2 hq => LW.nil ?_) fun _ _ z => z) hst) hst
  obtain ⟨l', e', hz, hq⟩ := hq
  exact call_append e' hq hz
end

end Mine

end

section
open PySem PySem.W PyProof.Rows PySem.Calls
namespace Mine

section
variable {p : PC} {L : Addr} {outer : List Env} {h₀ : Heap} {s : Shared} {st : St} {hid : Hid}
theorem Sat.forget (S : Sat p L outer h₀ s st hid) {st' : St} (hρ : ∀ x v, st'.ρ x = some v → st.ρ x = some v) (hσ : ∀ a o, st'.σ a = some o → st.σ a = some o) : Sat p L outer h₀ s st' hid := by
  refine ⟨S.base, S.sub, ?_, S.locF, ?_, S.locH, fun a o e => S.obj a o (hσ a o e), S.hidd, S.out, S.os, S.gens⟩
  · obtain ⟨m, hn, hv⟩ := S.loc
    exact ⟨m, hn, fun x av e => hv x av (hρ x av e)⟩
  · cases q : st'.σ L with
    | none => rfl
    | some o => have := hσ _ _ q; rw [S.locS] at this; cases this
theorem era_some {α β : Type} [DecidableEq α] {f : α → Option β} {a x : α} {y : β} (h : era f a x = some y) : x ≠ a ∧ f x = some y := by
  by_cases q : x = a
  · subst q; rw [era_same] at h; cases h
  · rw [era_ne _ q] at h; exact ⟨q, h⟩
theorem Sat.freeze (S : Sat p L outer h₀ s st hid) {a : Addr} {l : List AV} (e : st.σ a = some (.list l)) : ∃ h₁, Sub h₀ h₁ ∧ Sat p L outer h₁ s (st.del a) hid ∧ VR h₁ (.lst l) (.ref a) := by
  have S' := S.forget (st' := st.del a) (fun _ _ z => z) fun x o z => (era_some z).2
  obtain ⟨k, S''⟩ := S'.refreeze
  obtain ⟨⟨vs, n, e1, r⟩, _, hh⟩ := S.obj a _ e
  refine ⟨_, k, S'', .lst (n := n) ?_ (r.mono k)⟩
  rw [mask_get]
  have : priv L (st.del a) hid a = false := priv_false.mpr ⟨(by intro z; rw [z, S.locS] at e; cases e), era_same _ _, hh⟩
  rw [this]
  exact e1
/-- names may be told of otherwise -/
theorem Sat.retell (S : Sat p L outer h₀ s st hid) {ρ' : String → Option AV} (hρ : ∀ x v, ρ' x = some v → ∃ v', st.ρ x = some v' ∧ ∀ u, VR h₀ v' u → VR h₀ v u) : Sat p L outer h₀ s ⟨ρ', st.σ⟩ hid := by
  refine ⟨S.base, S.sub, ?_, S.locF, S.locS, S.locH, S.obj, S.hidd, S.out, S.os, S.gens⟩
  obtain ⟨m, hn, hv⟩ := S.loc
  refine ⟨m, hn, fun x av e => ?_⟩
  obtain ⟨v', e1, e2⟩ := hρ x av e
  obtain ⟨u, e3, e4⟩ := hv x v' e1
  exact ⟨u, e3, e2 u e4⟩
end

section
variable {p : PC} {n : Nat} {b : Mode} {env : Env} {X : Value → St → Prop} {st : St} {α β : Type} {R : Heap → β → α → Prop} {t : Sem α}
theorem GW.forget {st' : St} {Q : β → St → Prop} (H : GW p n b env R t Q X st') (hρ : ∀ x v, st'.ρ x = some v → st.ρ x = some v) (hσ : ∀ a o, st'.σ a = some o → st.σ a = some o) : GW p n b env R t Q X st :=
  GW.mk fun A outer h₀ s hid hA S => H A outer h₀ s hid hA (S.forget hρ hσ)
/-- a list that changes no more -/
theorem GW.frzV {x : String} {a : Addr} {l : List AV} {Q : β → St → Prop} (hx : st.ρ x = some (.ref a)) (e : st.σ a = some (.list l)) (H : GW p n b env R t Q X ((st.del a).set x (.lst l))) : GW p n b env R t Q X st :=
  GW.mk fun A outer h₀ s hid hA S => by
    obtain ⟨h₁, k, S', hv⟩ := S.freeze e
    refine GW.at H hA (S'.retell (ρ' := upd st.ρ x (.lst l)) fun y v z => ?_) k
    by_cases q : y = x
    · subst q
      rw [upd_same] at z
      cases z
      exact ⟨.ref a, hx, fun u hu => by cases hu; exact hv⟩
    · rw [upd_ne _ _ q] at z
      exact ⟨v, z, fun _ z => z⟩
theorem GW.frz {t : Sem Value} {Q : AV → St → Prop} (H : GW p n b env VR t (fun v st1 => ∃ a l, v = .ref a ∧ st1.σ a = some (.list l) ∧ Q (.lst l) (st1.del a)) X st) : GW p n b env VR t Q X st :=
  GW.mk fun _ _ _ _ _ hA S => H.use hA S (.refl _) fun v s1 h1 y st1 k1 _ S1 hv ⟨a, l, e1, e2, q⟩ => by
    subst e1
    cases hv
    obtain ⟨h₁, k, S', hv⟩ := S1.freeze e2
    exact NP.mk S' (k1.trans k) hv q

/-! stores into lists -/
theorem setItem_raw {prog : Program} {w : World} {A : Around} {E : Value → Shared → Prop} {s : Shared} {l : Addr} {vs : List Value} {m : Nat} {k : Int} {t : Tok} {v : Value} {Q : Unit → Shared → Prop} (ho : s.heap.get? l = some (lstObj vs m))
    (h0 : 0 ≤ k) (hfit : k < 2 ^ 63) (hn : k.toNat < vs.length)
    (hQ : ∀ h', h'.get? l = some (lstObj (vs.set k.toNat v) m) → Heap.SameBut l s.heap h' → Q () { s with heap := h' }) : wpAny (model prog w) A (setItem (.ref l) (.int k t) v) Q E s := by
  have hT := (lst_is ho).typeIs (s := s)
  unfold setItem
  try with_reducible refine wpAny_holding ?_
  first | refine wpAny_bind (wpAny_pure ?_) | skip
  refine wpAny_bind (wpAny_sequenceKey hT (by decide) ?_)
  refine wpAny_bind (wpAny_callSpecial?_slot (name := Str.ofString "__setitem__") hT slot_list_setitem
    (wpAny_call_entry slot_list_setitem hT entry_list_setitem ?_ (args_list_setitem _ _ _)))
  show wpAny _ _ (Builtin.List.listSubscript? (.int k t) >>= _) _ _ s
  refine wpAny_bind (wpAny_listSubscript_int (fitsIndex_of h0 hfit) ?_)
  clear hfit
  obtain ⟨j, rfl⟩ := Int.eq_ofNat_of_zero_le h0
  have hj : j < vs.length := by simpa using hn
  have hx' : vs.toArray[j]? = some vs[j] := by simp [hj]
  show wpAny _ _ ((seqItemAt l j >>= fun r => pure (r.map (j, ·))) >>= _) _ _ s
  refine wpAny_bind (wpAny_bind (wpAny_seqItemAt ho rfl (wpAny_pure ?_)))
  rw [hx']
  show wpAny _ _ (setSeqItemAt l j v >>= _) _ _ s
  have hfin : (s.heap.update l (Obj.mapSeq (·.setIfInBounds j v))).get? l = some (lstObj (vs.set j v) m) := by
    refine (Heap.get?_update_self _ ho rfl).trans ?_
    simp [Obj.mapSeq, lstObj]
  refine wpAny_bind (wpAny_setSeqItemAt ho rfl ?_)
  first
    | exact wpAny_bind (wpAny_pure (wpAny_pure ⟨.none, rfl, wpAny_pure (hQ _ hfin (Heap.SameBut.update ..))⟩))
    | exact wpAny_pure ⟨.none, rfl, wpAny_pure (hQ _ hfin (Heap.SameBut.update ..))⟩

theorem VRs.set {h : Heap} {l : List AV} {vs : List Value} (x : VRs h l vs) (k : Nat) {a : AV} {v : Value} (y : VR h a v) : VRs h (l.set k a) (vs.set k v) := by
  induction l generalizing vs k with
  | nil => cases x; simp; exact .nil
  | cons c l ih =>
    cases x with | cons p q =>
    cases k with
    | zero => exact .cons y q
    | succ k => exact .cons p (ih q k)

/-- o[i] = v -/
noncomputable def SIW (p : PC) (n : Nat) (b : Mode) (env : Env) (a c d : AV) (Q : St → Prop) (X : Value → St → Prop) (st : St) : Prop :=
  ∀ A outer h₀ s hid v u w, AOK n b A env outer → Sat p env.locals outer h₀ s st hid → VR h₀ a v → VR h₀ c u → VR h₀ d w →
    wpAny (model p.prog p.w) A (setItem v u w) (NP p env.locals outer h₀ hid UR (fun _ => Q)) (EP p env.locals outer h₀ hid X) s
theorem SIW.at {a c d : AV} {Q : St → Prop} {A : Around} {outer : List Env} {h₀ h₁ : Heap} {s : Shared} {hid : Hid} {v u w : Value} (H : SIW p n b env a c d Q X st) (hA : AOK n b A env outer) (S : Sat p env.locals outer h₁ s st hid) (hv : VR h₁ a v) (hu : VR h₁ c u) (hw : VR h₁ d w) (k : Sub h₀ h₁) :
    wpAny (model p.prog p.w) A (setItem v u w) (NP p env.locals outer h₀ hid UR (fun _ => Q)) (EP p env.locals outer h₀ hid X) s :=
  wpAny_mono (H A outer h₁ s hid v u w hA S hv hu hw) (fun _ _ z_ => z_.elim fun h₂ y st' k2 S2 r q => ⟨h₂, y, st', k.trans k2, S2, r, q⟩) fun _ _ e => EP.mono k (fun _ _ z => z) e
theorem si_list {a : Addr} {l : List AV} {i : Int} {d : AV} {Q : St → Prop} (e : st.σ a = some (.list l)) (h0 : 0 ≤ i) (hi : i.toNat < l.length) (h : Q (st.put a (.list (l.set i.toNat d)))) (hf : i < 2 ^ 63 := by (first | lia | omega)) : SIW p n b env (.ref a) (.int i) d Q X st :=
  fun _ _ _ s _ _ _ _ _ S hv hu hw => by
    cases hv
    cases hu
    obtain ⟨vs, k, e1, r⟩ := (S.obj _ _ e).1
    refine setItem_raw e1 h0 hf (by rw [r.length]; exact hi) fun h' e' hs => ?_
    exact NP.mk (S.setO (s' := { s with heap := h' }) (ao' := .list (l.set i.toNat d)) e hs rfl rfl ⟨_, k, e', r.set _ hw⟩) (.refl _) (y := ()) trivial h
theorem XW.assignSub {o i e : Expr} {pos' pos : Pos} {Q : AF → St → Prop} (H : EW p n b env e (fun d st1 => EW p n b env o (fun a st2 => EW p n b env i (fun c st3 => SIW p n b env a c d (Q .next) X st3) X st2) X st1) X st)
    (hs : swapsWith e (some (.Subscript o i pos')) pos.line env = pure false := by rfl) : XW p n b env (.Assign [.Subscript o i pos'] e pos) Q X st :=
  GW.mk fun _ _ _ _ _ hA S => wpAny_Assign_Subscript (H.use hA S (.refl _) fun _ _ _ _ _ k1 _ S1 hv H1 => H1.use hA S1 k1 fun _ _ _ _ _ k2 k12 S2 hu H2 => H2.use hA S2 k2 fun _ _ _ _ _ k3 k23 S3 hw H3 =>
    wpAny_mono (H3.at hA S3 (hu.mono k23) hw ((hv.mono k12).mono k23) k3) (fun _ _ z_ => z_.elim fun h4 _ st4 k4 S4 _ q => NP.mk S4 k4 .next q) fun _ _ e => e) hs
theorem XW.augSub {o i e : Expr} {op : Operator} {pos' pos : Pos} {Q : AF → St → Prop}
    (H : EW p n b env o (fun a st1 => EW p n b env i (fun c st2 => GV2 p n b env a c VR getItem (fun old st3 => EW p n b env e (fun d st4 => GV2 p n b env old d VR (inplaceOp op) (fun new st5 => SIW p n b env a c new (Q .next) X st5) X st4) X st3) X st2) X st1) X st)
    (ha : ∀ ov iv new, augStore i ov iv new = (do holding [new, ov, iv] (setItem ov iv new); release [new, ov, iv] []; pure .next) := by intro _ _ _; rfl) : XW p n b env (.AugAssign (.Subscript o i pos') op e pos) Q X st :=
  GW.mk fun _ _ _ _ _ hA S => wpAny_AugAssign_Subscript_any (H.use hA S (.refl _) fun _ _ _ _ _ k1 _ S1 hv H1 => H1.use hA S1 k1 fun _ _ _ _ _ k2 k12 S2 hu H2 =>
    wpAny_mono (H2 _ _ _ _ _ _ _ hA S2 (hv.mono k12) hu) (fun _ _ z_ => z_.elim fun h3 old st3 k3 S3 ho H3 => H3.use hA S3 (k2.trans k3) fun _ _ h4 _ _ k4 k34 S4 hd H4 =>
      wpAny_mono (H4 _ _ _ _ _ _ _ hA S4 (ho.mono k34) hd) (fun _ _ z_ => z_.elim fun h5 nw st5 k5 S5 hn H5 =>
        wpAny_mono (H5.at hA S5 ((hv.mono k12).mono (k3.trans (k34.trans k5))) (hu.mono (k3.trans (k34.trans k5))) hn (k4.trans k5)) (fun _ _ z_ => z_.elim fun h6 _ st6 k6 S6 _ q => NP.mk S6 k6 .next q) fun _ _ e => e)
        fun _ _ e => EP.mono k4 (fun _ _ z => z) e) fun _ _ e => EP.mono k2 (fun _ _ z => z) e) ha
theorem get_list {a x : AV} {l : List AV} {i : Int} {Q : AV → St → Prop} (hl : IsL st.σ a l) (h0 : 0 ≤ i) (hx : l[i.toNat]? = some x) (h : Q x st) (hi : i < 2 ^ 63 := by (first | lia | omega)) :
    GV2 p n b env a (.int i) VR getItem Q X st :=
  GV2.mk fun _ _ _ _ _ _ _ _ S hv hu => by
    cases hu
    obtain ⟨y, vs, k, rfl, e, r⟩ := hl.at S hv
    obtain ⟨v, e1, e2⟩ := r.get hx
    exact wpAny_getItem_list (lst_is e) h0 hi (by simpa using e1) (NP.mk S (.refl _) e2 h)
/-- l[-1] -/
theorem idx_last {value slice : Expr} {a x : AV} {l : List AV} {Q : AV → St → Prop} (hl : IsL st.σ a l) (hx : l[l.length - 1]? = some x) (h : Q x st) (hs : isSlice slice = false := by rfl) :
    GV2 p n b env a (.int (-1)) VR (subscriptTail value slice) Q X st :=
  GV2.mk fun _ _ _ _ _ _ _ _ S hv hu => by
    cases hu
    obtain ⟨y, vs, k, rfl, e, r⟩ := hl.at S hv
    obtain ⟨v, e1, e2⟩ := r.get hx
    rw [← r.length] at e1
    have hlt := (List.getElem?_eq_some_iff.mp e1).1
    exact tail_any (lst_is e).typeIs slot_list_getitem.lookup (wpAny_getItem_list_neg (lst_is e) (by decide) (by rw [List.size_toArray]; (first | lia | omega)) (by decide) (by rw [List.size_toArray, show ((-1 : Int) + (vs.length : Int)).toNat = vs.length - 1 from by (first | lia | omega)]; simpa using e1) (NP.mk S (.refl _) e2 h)) (subscripted_plain hs)
end

/-! dicts with text keys -/
noncomputable def aget (es : List (Str × AV)) (k : Str) : Option AV := (es.find? fun e => e.1 = k).map (·.2)
noncomputable def aset (es : List (Str × AV)) (k : Str) (v : AV) : List (Str × AV) := if es.any (fun e => e.1 = k) then es.map (fun e => if e.1 = k then (e.1, v) else e) else es ++ [(k, v)]
noncomputable def adel (es : List (Str × AV)) (k : Str) : List (Str × AV) := es.filter fun e => decide (e.1 ≠ k)
section
variable {h : Heap} {es : List (Str × AV)} {ds : List (Str × Value)}
theorem DRs.get (r : DRs h es ds) (k : Str) : (∀ a, aget es k = some a → ∃ v, valueAt ds k = some v ∧ VR h a v) ∧ (aget es k = none → valueAt ds k = none) := by
  unfold aget valueAt
  induction r with
  | nil => simp
  | cons hv _ ih =>
    rename_i k' a v l ds' _
    simp only [List.find?_cons]
    by_cases q : k' = k
    · subst q
      simp only [decide_true, Option.map_some]
      exact ⟨fun a e => by cases e; exact ⟨_, rfl, hv⟩, fun e => by cases e⟩
    · simp only [q, decide_false]
      exact ih
theorem DRs.any (r : DRs h es ds) (k : Str) : (ds.any fun e => e.1 = k) = (es.any fun e => e.1 = k) := by
  induction r with
  | nil => rfl
  | cons hv _ ih => simp only [List.any_cons, ih]
theorem DRs.append {es' : List (Str × AV)} {ds' : List (Str × Value)} (r : DRs h es ds) (r' : DRs h es' ds') : DRs h (es ++ es') (ds ++ ds') := by
  induction r with
  | nil => exact r'
  | cons hv _ ih => exact .cons hv ih
theorem DRs.mapSet (r : DRs h es ds) (k : Str) {a : AV} {v : Value} (hv : VR h a v) : DRs h (es.map (fun e => if e.1 = k then (e.1, a) else e)) (ds.map (fun e => if e.1 = k then (e.1, v) else e)) := by
  induction r with
  | nil => exact .nil
  | cons hw _ ih =>
    rename_i k' a' v' l ds' _
    simp only [List.map_cons]
    by_cases q : k' = k
    · simp only [q, if_true]; exact .cons hv ih
    · simp only [q, if_false]; exact .cons hw ih
theorem DRs.set (r : DRs h es ds) (k : Str) {a : AV} {v : Value} (hv : VR h a v) : DRs h (aset es k a) (stored ds k v) := by
  unfold aset stored
  rw [r.any]
  split
  · exact r.mapSet k hv
  · exact r.append (.cons hv .nil)
theorem DRs.del (r : DRs h es ds) (k : Str) : DRs h (adel es k) (without ds k) := by
  unfold adel without
  induction r with
  | nil => exact .nil
  | cons hw _ ih =>
    rename_i k' a' v' l ds' _
    simp only [List.filter_cons]
    by_cases q : k' = k
    · simp only [q, ne_eq, not_true, decide_false]; exact ih
    · simp only [ne_eq, q, not_false_iff, decide_true, if_true]; exact .cons hw ih
end

section
variable {p : PC} {n : Nat} {b : Mode} {env : Env} {X : Value → St → Prop} {st : St}
theorem is_str {prog : Program} {w : World} (x : Str) (t : Tok) : (PySem.strKind prog w).is x (.str x t) = true := by simp [PySem.strKind, Value.isStrOf]
theorem noSys {L : Addr} {outer : List Env} {h₀ : Heap} {s : Shared} {hid : Hid} (S : Sat p L outer h₀ s st hid) : (s.heap.objs.size == sysModules) = false := by
  have := (p.hT.g.keeps (S.base.trans S.sub)).lt
  rw [beq_eq_false_iff_ne]
  have e : sysModules < mainGlobals := by decide
  exact Nat.ne_of_gt (Nat.lt_trans e this)
theorem EW.dict0 {pos : Pos} {Q : AV → St → Prop} (h : ∀ d, st.σ d = none → Q (.ref d) (st.put d (.dict [] 0))) : EW p n b env (.Dict [] [] pos) Q X st :=
  GW.mk fun _ _ _ s _ _ S => by
    refine wpAny_Dict_empty ?_
    obtain ⟨f, S'⟩ := S.pushO (s' := { s with heap := s.heap.push { cls := .type "dict", data := .dict #[] } }) (.dict [] 0) rfl rfl rfl ⟨[], ⟨_, #[], Heap.get?_push_size _ rfl, ⟨rfl, rfl, rfl⟩, rfl, fun _ he => by simp at he, .nil, .nil⟩, .nil, noSys S⟩
    exact NP.mk S' (.refl _) (.ref _) (h _ f)
theorem in_dict {d : Addr} {es : List (Str × AV)} {ep : Nat} {k : Str} {Q : AV → St → Prop} (e : st.σ d = some (.dict es ep)) (h : Q (.bool (aget es k).isSome) st) : GV2 p n b env (.str k) (.ref d) VR (compareOp .In) Q X st :=
  GV2.mk fun _ _ _ _ _ _ _ _ S hv hu => by
    cases hv
    cases hu
    obtain ⟨ds, e1, r, z⟩ := (S.obj _ _ e).1
    refine wpAny_in_of (is_str _ _) z e1.dictOf.mapOf ?_
    have hg := r.get k
    cases q : aget es k with
    | none => rw [hg.2 q]; exact NP.mk (S.of_eq rfl rfl rfl) (.refl _) (.bool _) (by rw [q] at h; exact h)
    | some a => obtain ⟨v, e2, _⟩ := hg.1 a q; rw [e2]; exact NP.mk (S.of_eq rfl rfl rfl) (.refl _) (.bool _) (by rw [q] at h; exact h)
theorem idx_dict {value slice : Expr} {d : Addr} {es : List (Str × AV)} {ep : Nat} {k : Str} {a : AV} {Q : AV → St → Prop} (e : st.σ d = some (.dict es ep)) (ha : aget es k = some a) (h : Q a st) (hs : isSlice slice = false := by rfl) :
    GV2 p n b env (.ref d) (.str k) VR (subscriptTail value slice) Q X st :=
  GV2.mk fun _ _ _ _ _ _ _ _ S hv hu => by
    cases hv
    cases hu
    obtain ⟨ds, e1, r, z⟩ := (S.obj _ _ e).1
    obtain ⟨v, e2, e3⟩ := (r.get k).1 a ha
    exact tail_any e1.dictOf.typeIs slot_dict_getitem.lookup (wpAny_getItem_of (is_str _ _) e1.dictOf.mapOf e2 (NP.mk (S.of_eq rfl rfl rfl) (.refl _) e3 h)) (subscripted_plain hs)
theorem call_dget {d : Addr} {es : List (Str × AV)} {ep : Nat} {k : Str} {Q : AV → St → Prop} (e : st.σ d = some (.dict es ep)) (h : Q ((aget es k).getD .none) st) : CW p n b env (.builtin "dict.get") [.ref d, .str k] Q X st :=
  GF.mk fun _ _ _ _ _ _ _ S hv => by
    obtain ⟨v, u, rfl, hv1, hu⟩ := hv.two
    cases hv1
    cases hu
    obtain ⟨ds, e1, r, z⟩ := (S.obj _ _ e).1
    refine call_meetsIn F.slot_dict_get e1.dictOf.typeIs F.entry_dict_get (F.args_dict_get_2 _ _) (meets_dict_get (PySem.strKind p.prog p.w) d (is_str _ _) z) ⟨_, e1.dictOf.mapOf, ?_⟩
    have hg := r.get k
    cases q : aget es k with
    | none => rw [hg.2 q]; exact NP.mk (S.of_eq rfl rfl rfl) (.refl _) .none (by rw [q] at h; exact h)
    | some a => obtain ⟨v, e2, e3⟩ := hg.1 a q; rw [e2]; exact NP.mk (S.of_eq rfl rfl rfl) (.refl _) e3 (by rw [q] at h; exact h)
theorem si_dict {d : Addr} {es : List (Str × AV)} {ep : Nat} {k : Str} {a : AV} {Q : St → Prop} (e : st.σ d = some (.dict es ep)) (h : ∀ ep', Q (st.put d (.dict (aset es k a) ep'))) (hz : es.length ≤ 16777216) : SIW p n b env (.ref d) (.str k) a Q X st :=
  fun _ _ _ s _ _ _ _ _ S hv hu hw => by
    cases hv
    cases hu
    obtain ⟨ds, e1, r, z⟩ := (S.obj _ _ e).1
    refine wpAny_setItem_pairs (is_str _ _) e1.dictOf (fun h' hd hs => ?_) (by rw [r.length, sizeLine_val]; exact hz)
    obtain ⟨ep', hd'⟩ := hd.dictAt
    exact NP.mk (S.setO (s' := { s with heap := h', toks := s.toks + 1 }) (ao' := .dict (aset es k a) ep') e hs rfl rfl ⟨_, hd', r.set k hw, z⟩) (.refl _) (y := ()) trivial (h ep')
theorem XW.delSub {o i : Expr} {pos' pos : Pos} {Q : AF → St → Prop} (H : EW p n b env o (fun a st1 => EW p n b env i (fun c st2 => GV2 p n b env a c UR delItem (fun _ => Q .next) X st2) X st1) X st) : XW p n b env (.Delete [.Subscript o i pos'] pos) Q X st :=
  GW.mk fun _ _ _ _ _ hA S => wpAny_Delete (wpAny_deleteEach_cons (by
    rw [arm_delete_Subscript]
    refine wpAny_bind (H.use hA S (.refl _) fun _ _ _ _ _ k1 _ S1 hv H1 => wpAny_bind (wpAny_holding (H1.use hA S1 k1 fun _ _ _ _ _ k2 k12 S2 hu H2 => wpAny_bind (wpAny_standAt (wpAny_bind (wpAny_holding ?_))))))
    refine wpAny_mono (H2.at hA S2 (hv.mono k12) hu k2) (fun _ _ z_ => z_.elim fun h3 _ st3 k3 S3 _ q => wpAny_releaseD (wpAny_deleteEach_nil (NP.mk S3 k3 .next q))) fun _ _ e => e))
theorem del_dict {d : Addr} {es : List (Str × AV)} {ep : Nat} {k : Str} {Q : Unit → St → Prop} (e : st.σ d = some (.dict es ep)) (hk : (aget es k).isSome = true) (h : ∀ ep', Q () (st.put d (.dict (adel es k) ep'))) (hz : es.length ≤ 16777216) : GV2 p n b env (.ref d) (.str k) UR delItem Q X st :=
  GV2.mk fun _ _ _ s _ _ _ _ S hv hu => by
    cases hv
    cases hu
    obtain ⟨ds, e1, r, z⟩ := (S.obj _ _ e).1
    obtain ⟨a, ha⟩ := Option.isSome_iff_exists.mp hk
    obtain ⟨v, e2, e3⟩ := (r.get k).1 a ha
    refine wpAny_delItem_slot e1.dictOf.typeIs (by decide) F.slot_dict_delitem (call_meetsIn F.slot_dict_delitem e1.dictOf.typeIs F.entry_dict_delitem (F.args_dict_delitem_2 _ _) (meets_dict_delitem_pairs (PySem.strKind p.prog p.w) d (is_str _ _))
      ⟨_, e1.dictOf, by rw [r.length, sizeLine_val]; exact hz, by rw [e2]; rfl, fun h' hd hs => ?_⟩)
    obtain ⟨ep', hd'⟩ := hd.dictAt
    exact NP.mk (S.setO (s' := { s with heap := h', toks := s.toks + 1 }) (ao' := .dict (adel es k) ep') e hs rfl rfl ⟨_, hd', r.del k, z⟩) (.refl _) (y := ()) trivial (h ep')

/-! sets of texts -/
theorem call_set0 {Q : AV → St → Prop} (h : ∀ d, st.σ d = none → Q (.ref d) (st.put d (.set (fun _ => false) 0))) : CW p n b env (.type "set") [] Q X st :=
  GF.mk fun _ _ _ s _ _ _ S hv => by
    cases hv
    refine call_set_0 fun led => ?_
    obtain ⟨f, S'⟩ := S.pushO (s' := { s with heap := s.heap.push { cls := .type "set", dict := none, data := .set #[] 0 (.fresh 0 0 led) } }) (.set (fun _ => false) 0) rfl rfl rfl
      ((setObjOf_fresh (knd := PySem.strKind p.prog p.w) led).setOf (Heap.get?_push_size _ rfl) (by unfold scanBound; (first | lia | omega)))
    exact NP.mk S' (.refl _) (.ref _) (h _ f)
theorem in_set {d : Addr} {T : Str → Bool} {m : Nat} {k : Str} {Q : AV → St → Prop} (e : st.σ d = some (.set T m)) (h : Q (.bool (T k)) st) : GV2 p n b env (.str k) (.ref d) VR (compareOp .In) Q X st :=
  GV2.mk fun _ _ _ _ _ _ _ _ S hv hu => by
    cases hv
    cases hu
    have e1 : Heap.SetOf (PySem.strKind p.prog p.w) _ _ _ _ := (S.obj _ _ e).1
    exact wpAny_inSet_of (is_str _ _) rfl e1 (NP.mk (S.of_eq rfl rfl rfl) (.refl _) (.bool _) h)
theorem call_sadd {d : Addr} {T : Str → Bool} {m : Nat} {k : Str} {Q : AV → St → Prop} (e : st.σ d = some (.set T m)) (h : Q .none (st.put d (.set (fun x => T x || decide (x = k)) (if T k then m else m + 1)))) (hm : m < 4000) : CW p n b env (.builtin "set.add") [.ref d, .str k] Q X st :=
  GF.mk fun _ _ _ s _ _ _ S hv => by
    obtain ⟨v, u, rfl, hv1, hu⟩ := hv.two
    cases hv1
    cases hu
    have e1 : Heap.SetOf (PySem.strKind p.prog p.w) _ _ _ _ := (S.obj _ _ e).1
    refine call_set_add (is_str _ _) rfl e1 (by unfold scanBound; (first | lia | omega)) fun h' hs hS => ?_
    exact NP.mk (S.setO (s' := { s with heap := h', toks := s.toks + 1 }) (ao' := .set _ _) e hs rfl rfl hS) (.refl _) .none h

/-! more of lists -/
theorem call_clear {d : Addr} {l : List AV} {Q : AV → St → Prop} (e : st.σ d = some (.list l)) (h : Q .none (st.put d (.list []))) (hz : l.length ≤ 16777216) : CW p n b env (.builtin "list.clear") [.ref d] Q X st :=
  GF.mk fun _ _ _ s _ _ _ S hv => by
    obtain ⟨v, rfl, hv1⟩ := hv.one
    cases hv1
    obtain ⟨vs, k, e1, r⟩ := (S.obj _ _ e).1
    refine call_meets F.slot_list_clear ⟨_, e1, rfl⟩ F.entry_list_clear (F.args_list_clear_1 _) (AutoSeq1.list_clear_list_0 _ vs.toArray k (by rw [List.size_toArray, r.length, sizeLine_val]; exact hz)) ⟨e1, ?_⟩
    exact NP.mk (S.setO (s' := { s with heap := s.heap.update d (Obj.mapSeq fun _ => #[]) }) (ao' := .list []) e (Heap.SameBut.update ..) rfl rfl ⟨[], _, Heap.get?_update_self _ e1 rfl, .nil⟩) (.refl _) .none h
theorem VRs.dropLast {h : Heap} {l : List AV} {vs : List Value} (x : VRs h l vs) : VRs h l.dropLast vs.dropLast := by
  rw [List.dropLast_eq_take, List.dropLast_eq_take, x.length]; exact x.take _
theorem call_pop {d : Addr} {l : List AV} {a : AV} {Q : AV → St → Prop} (e : st.σ d = some (.list l)) (ha : l[l.length - 1]? = some a) (h : Q a (st.put d (.list l.dropLast))) (hz : l.length ≤ 16777216) : CW p n b env (.builtin "list.pop") [.ref d] Q X st :=
  GF.mk fun _ _ _ s _ _ _ S hv => by
    obtain ⟨v, rfl, hv1⟩ := hv.one
    cases hv1
    obtain ⟨vs, k, e1, r⟩ := (S.obj _ _ e).1
    obtain ⟨y, e2, e3⟩ := r.get ha
    rw [← r.length] at e2
    have hne : vs.length - 1 < vs.length := (List.getElem?_eq_some_iff.mp e2).1
    refine call_meets F.slot_list_pop ⟨_, e1, rfl⟩ F.entry_list_pop (F.args_list_pop_1 _) (MeetsSeq.list_pop_last _ vs.toArray k y (by simpa using e2) (by rw [List.size_toArray, r.length, sizeLine_val]; exact hz)) ⟨e1, ?_⟩
    refine NP.mk (S.setO (s' := { s with heap := s.heap.update d (Obj.mapSeq fun xs => xs.eraseIdxIfInBounds (vs.toArray.size - 1)) }) (ao' := .list l.dropLast) e (Heap.SameBut.update ..) rfl rfl
      ⟨vs.dropLast, (if ((vs.toArray.eraseIdxIfInBounds (vs.toArray.size - 1)).size == vs.toArray.size) = true then k else k + 1), (Heap.get?_update_self _ e1 rfl).trans ?_, r.dropLast⟩) (.refl _) e3 h
    have : vs.toArray.eraseIdxIfInBounds (vs.length - 1) = vs.dropLast.toArray := by
      simp only [Array.eraseIdxIfInBounds, List.size_toArray, hne, dif_pos, List.eraseIdx_toArray]
      rw [List.dropLast_eq_take, List.eraseIdx_eq_take_drop_succ, List.drop_eq_nil_of_le (by (first | lia | omega)), List.append_nil]
    simp only [Obj.mapSeq, List.size_toArray, this, lstObj]
end

end Mine

end

section
open PySem PySem.W PyProof.Rows PySem.Calls
namespace Mine

/-! instances of the text's own classes -/
section
variable {prog : Program} {w : World} {h h' : Heap} {d : Addr} {kvs : List (Str × Value)} {ep : Nat}
theorem isStr_is (k : Str) (v : Value) : v.isStr k = (PySem.strKind prog w).is k v := ((PySem.strKind prog w).strs k k 0 v (by simp [PySem.strKind, Value.isStrOf])).symm
theorem look_at (D : h.DictAt (PySem.strKind prog w) d kvs ep) : ∃ o, h.get? d = some o ∧ ∀ name, lookIn name o = some (valueAt kvs name) := by
  obtain ⟨o, es, ho, hx, hd, hk, hp, hn⟩ := D
  refine ⟨o, ho, fun name => ?_⟩
  unfold lookIn
  rw [hd]
  dsimp only
  have e : (fun e : DictEntry => e.key.isStr name) = fun e => (PySem.strKind prog w).is name e.key := funext fun e => isStr_is name e.key
  rw [e]
  have hf := hp.find name
  cases q : es.toList.find? (fun e => (PySem.strKind prog w).is name e.key) with
  | some en => rw [q] at hf; rw [← hf]; rfl
  | none =>
    rw [q] at hf
    rw [← hf]
    have : es.toList.any (·.refKey) = false := by
      rw [List.any_eq_false]
      intro en hen
      obtain ⟨k, h1, _⟩ := hk en (by simpa using hen)
      obtain ⟨t, h2⟩ := Value.isStrOf_shape h1
      simp [DictEntry.refKey, h2]
    simp [this]
theorem put_at {o : Obj} {name : Str} {t : Tok} {v : Value} (D : h.DictAt (PySem.strKind prog w) d kvs ep) (ho : h.get? d = some o) (ho' : h'.get? d = some (Obj.putName name (PyData.keyHash w.params name) (.str name t) v o)) :
    ∃ ep', h'.DictAt (PySem.strKind prog w) d (stored kvs name v) ep' := by
  obtain ⟨o', es, ho1, ⟨hc1, hc2, hc3⟩, hd, hk, hp, hn⟩ := D
  obtain rfl : o = o' := Option.some.inj (ho.symm.trans ho1)
  obtain ⟨c, dc, dt, sl⟩ := o
  dsimp only at hc1 hc2 hc3 hd
  subst hc1 hc2 hc3 hd
  rw [Obj.putName_eq] at ho'
  unfold Obj.putNameByArray at ho'
  dsimp only at ho'
  have e : (fun e : DictEntry => e.key.isStr name) = fun e => (PySem.strKind prog w).is name e.key := funext fun e => isStr_is name e.key
  rw [e] at ho'
  have hidx : (es.findIdx? fun e => (PySem.strKind prog w).is name e.key) = kvs.findIdx? fun kv => decide (kv.1 = name) := by
    rw [← hp.findIdx name]; obtain ⟨l⟩ := es; simp
  cases hi : es.findIdx? fun e => (PySem.strKind prog w).is name e.key with
  | some i =>
    rw [hi] at ho'
    refine ⟨ep, _, _, ho', ⟨rfl, rfl, rfl⟩, rfl, hk.modify _ _, ?_, ?_⟩
    · rw [stored, if_pos (any_of_findIdx_some (hidx ▸ hi))]
      have hl : (es.toList.findIdx? fun e => (PySem.strKind prog w).is name e.key) = some i := by rw [← hi]; obtain ⟨l⟩ := es; simp
      have := hp.modify hn hl v
      obtain ⟨l⟩ := es
      simpa using this
    · rw [stored, if_pos (any_of_findIdx_some (hidx ▸ hi)), keys_map_store]; exact hn
  | none =>
    rw [hi] at ho'
    have hnot : name ∉ kvs.map (·.1) := not_mem_of_findIdx_none (hidx ▸ hi)
    have hany : ¬ (kvs.any fun kv => decide (kv.1 = name)) = true := by
      rw [List.any_eq_true]; rintro ⟨kv, hkv, he⟩
      exact hnot (List.mem_map.mpr ⟨kv, hkv, of_decide_eq_true he⟩)
    have hkey : (PySem.strKind prog w).is name (.str name t) = true := is_str _ _
    refine ⟨ep + 1, _, _, ho', ⟨rfl, rfl, rfl⟩, rfl, hk.push hkey v, ?_, ?_⟩
    · rw [stored, if_neg hany]
      have := hp.append hkey (PyData.keyHash w.params name) v
      obtain ⟨l⟩ := es
      simpa using this
    · rw [stored, if_neg hany, List.map_append, List.nodup_append]
      refine ⟨hn, by simp, ?_⟩
      intro a ha b hb
      simp only [List.map_cons, List.map_nil, List.mem_singleton] at hb
      subst hb
      exact fun e => hnot (e ▸ ha)
end

structure KCls (p : PC) (C : Addr) : Prop where
  ga : findIn p.K (.ref C) "__getattribute__" = some (some (.builtin "object.__getattribute__"))
  gm : findIn p.K (.ref C) "__getattr__" = some none
  sa : findIn p.K (.ref C) "__setattr__" = some (some (.builtin "object.__setattr__"))
  over : plainOver p.K C = true

theorem VR.handed {h : Heap} {a : AV} {v : Value} (x : VR h a v) : handedIn v = true := by cases x <;> rfl

section
variable {p : PC} {n : Nat} {b : Mode} {env : Env} {X : Value → St → Prop} {st : St}

theorem Sat.inK {L : Addr} {outer : List Env} {h₀ : Heap} {s : Shared} {hid : Hid} (S : Sat p L outer h₀ s st hid) : p.K.In s.heap := fun a o e => S.sub _ _ (S.base _ _ (p.hK a o e))
noncomputable abbrev GA (p : PC) (n : Nat) (b : Mode) (env : Env) (a : AV) (name : Str) (Q : AV → St → Prop) (X : Value → St → Prop) (st : St) : Prop := GF p n b env VR a VR (fun v => getAttr v name true) Q X st
noncomputable abbrev SA (p : PC) (n : Nat) (b : Mode) (env : Env) (a : AV) (name : Str) (c : AV) (Q : Unit → St → Prop) (X : Value → St → Prop) (st : St) : Prop := GV2 p n b env a c UR (fun v u => setAttr v name u) Q X st

theorem inst_at {L : Addr} {outer : List Env} {h₀ : Heap} {s : Shared} {hid : Hid} {x C dx : Addr} {es : List (Str × AV)} {ep : Nat} (S : Sat p L outer h₀ s st hid) (e : st.σ x = some (.inst C dx)) (ed : st.σ dx = some (.dict es ep)) :
    ∃ o ds, InstAt s.heap x (instObj C dx) C (some o) ∧ s.heap.get? dx = some o ∧ s.heap.DictAt (PySem.strKind p.prog p.w) dx ds ep ∧ DRs h₀ es ds ∧ (∀ name, lookIn name o = some (valueAt ds name)) := by
  have ex : s.heap.get? x = some (instObj C dx) := (S.obj _ _ e).1
  obtain ⟨ds, D, r, _⟩ := (S.obj _ _ ed).1
  obtain ⟨o, ho, hl⟩ := look_at D
  exact ⟨o, ds, ⟨ex, rfl, rfl, ho⟩, ho, D, r, hl⟩

theorem ga_dict {x C dx : Addr} {es : List (Str × AV)} {ep : Nat} {name : Str} {a : AV} {Q : AV → St → Prop} (e : st.σ x = some (.inst C dx)) (ed : st.σ dx = some (.dict es ep)) (hC : KCls p C) (hd : hasDictIn p.K C = true)
    (ha : findIn p.K (.ref C) name = some none) (hv : aget es name = some a) (h : Q a st) : GA p n b env (.ref x) name Q X st :=
  GF.mk fun _ _ _ _ _ _ _ S hvx => by
    cases hvx
    obtain ⟨o, ds, I, ho, D, r, hl⟩ := inst_at S e ed
    obtain ⟨v, e1, e2⟩ := (r.get name).1 a hv
    refine get_value S.inK I hC.ga (findObj_own hd ha rfl ((hl name).trans (by rw [e1]))) e2.handed (NP.mk (S.of_eq rfl rfl rfl) (.refl _) e2 h)

theorem sa_dict {x C dx : Addr} {es : List (Str × AV)} {ep : Nat} {name : Str} {a : AV} {Q : Unit → St → Prop} (e : st.σ x = some (.inst C dx)) (ed : st.σ dx = some (.dict es ep)) (hC : KCls p C) (hd : hasDictIn p.K C = true)
    (ha : takerIn p.K C name = some none) (h : ∀ ep', Q () (st.put dx (.dict (aset es name a) ep'))) (hz : es.length ≤ 1000) : SA p n b env (.ref x) name a Q X st :=
  GV2.mk fun A outer h₀ s hid _ v hA S hvx hv => by
    cases hvx
    obtain ⟨od, ds, I, ho, D, r, hl⟩ := inst_at S e ed
    refine set_plain S.inK I hC.sa (osa_open (s := { s with toks := s.toks + 1 }) S.inK I hC.over ha fun b' => ?_)
    obtain ⟨cd, hc, hd'⟩ := any_some (show (clsIn p.K C).any (·.hasDict) = true from hd)
    refine wpAny_bind (wpAny_pure (wpAny_bind (wpAny_bind (wpAny_loadPart I.at_ (wpAny_bind ((looks_clsIn (h := s.heap) S.inK hc) _ _ _ _ (fun _ _ z => z) ?_))))))
    rw [hd']
    refine wpAny_pure (a := some dx) (wpAny_bind (wpAny_pure (wpAny_bind ?_)))
    unfold nsSet
    refine wpAny_bind (wpAny_bind (wpAny_askSetting (wpAny_pure (wpAny_bind (wpAny_mkText (wpAny_bind (wpAny_loadPart ho ?_)))))))
    obtain ⟨od', es', ho1, ⟨hc1, hc2, hc3⟩, hdd, hk, hp, hn⟩ := id D
    obtain rfl : od = od' := Option.some.inj (ho.symm.trans ho1)
    have nr : ∀ en ∈ es', en.refKey = false := fun en hen => by
      obtain ⟨k, h1, _⟩ := hk en hen
      obtain ⟨t, h2⟩ := Value.isStrOf_shape h1
      simp [DictEntry.refKey, h2]
    have c : (!es'.any (·.key.isStr name) && es'.any (·.refKey)) = false := by
      have : es'.any (·.refKey) = false := by
        rw [Array.any_eq_false]
        intro i hi
        rw [nr _ (Array.getElem_mem hi)]
        simp
      rw [this, Bool.and_false]
    rw [hdd]
    dsimp only
    rw [aRefKeyMayBeTheName_at, c]
    have hup := Heap.get?_update_self (h := s.heap) (Obj.putName name (PyData.keyHash p.w.params name) (.str name (s.toks + 1)) v) ho (by
      obtain ⟨c, dc, dt, sl⟩ := od
      dsimp only at hdd
      subst hdd
      rw [Obj.putName_eq]
      unfold Obj.putNameByArray
      dsimp only
      split <;> rfl)
    obtain ⟨ep', D'⟩ := put_at (t := s.toks + 1) (v := v) D ho hup
    refine wpAny_updatePart ho ?_
    refine wpAny_bind (wpAny_lookBehind hup ?_ ?_)
    · obtain ⟨od'', es'', ho2, _, hdd', _, hp', _⟩ := id D'
      rw [Option.some.inj (hup.symm.trans ho2), hdd']
      refine pastItsLine_dict ?_
      have e1 := hp'.length
      have e2 := (r.set name hv).length
      have e3 : es''.size = (stored ds name v).length := by rw [← e1]; simp
      have e4 : (aset es name a).length ≤ es.length + 1 := by
        unfold aset; split <;> simp
      rw [e3, e2, sizeLine_val]
      (first | lia | omega)
    · exact wpAny_pure (NP.mk (S.setO (s' := { s with heap := s.heap.update dx (Obj.putName name (PyData.keyHash p.w.params name) (.str name (s.toks + 1)) v), toks := s.toks + 1 + 1 }) (ao' := .dict (aset es name a) ep') ed (Heap.SameBut.update ..) rfl rfl
        ⟨_, D', r.set name hv, (S.obj _ _ ed).1.choose_spec.2.2⟩) (.refl _) (y := ()) trivial (h ep'))
end

end Mine

end

section
open PySem PySem.W PyProof.Rows PySem.Calls Builtin Builtin.ObjectAttr Builtin.Getset_descriptor
set_option maxRecDepth 100000
namespace Mine

/-! instances with slots -/
section
variable {h : Heap}
theorem SlotRs.length {l : List (Option AV)} {vs : List (Option Value)} (x : SlotRs h l vs) : vs.length = l.length := by
  induction x with
  | nil => rfl
  | cons _ _ ih => simp [ih]
theorem SlotRs.get {l : List (Option AV)} {vs : List (Option Value)} (x : SlotRs h l vs) {i : Nat} {a : AV} (e : l[i]? = some (some a)) : ∃ v, vs[i]? = some (some v) ∧ VR h a v := by
  induction x generalizing i with
  | nil => simp at e
  | cons hv _ ih =>
    rename_i a' l' v' vs' _
    cases i with
    | zero =>
      simp only [List.getElem?_cons_zero, Option.some.injEq] at e
      subst e
      cases v' with
      | none => exact hv.elim
      | some v => exact ⟨v, rfl, hv⟩
    | succ i => simp only [List.getElem?_cons_succ] at e ⊢; exact ih e
theorem SlotRs.append {l l' : List (Option AV)} {vs vs' : List (Option Value)} (x : SlotRs h l vs) (y : SlotRs h l' vs') : SlotRs h (l ++ l') (vs ++ vs') := by
  induction x with
  | nil => exact y
  | cons hv _ ih => exact .cons hv ih
theorem SlotRs.rep (n : Nat) : SlotRs h (List.replicate n none) (List.replicate n none) := by
  induction n with
  | zero => exact .nil
  | succ n ih => exact .cons trivial ih
theorem SlotRs.set {l : List (Option AV)} {vs : List (Option Value)} (x : SlotRs h l vs) (i : Nat) {a : AV} {v : Value} (hv : VR h a v) : SlotRs h (l.set i (some a)) (vs.set i (some v)) := by
  induction x generalizing i with
  | nil => exact .nil
  | cons hw hr ih =>
    cases i with
    | zero => exact .cons hv hr
    | succ i => exact .cons hw (ih i)
end
noncomputable def sset (l : List (Option AV)) (i : Nat) (a : AV) : List (Option AV) := (l ++ List.replicate (i + 1 - l.length) none).set i (some a)

section
variable {p : PC} {n : Nat} {b : Mode} {env : Env} {X : Value → St → Prop} {st : St}
structure KSlot (p : PC) (C : Addr) (name : Str) (q : Addr) (i : Nat) : Prop where
  cls : isClsIn p.K C = true
  find : findIn p.K (.ref C) name = some (some (.ref q))
  get : specialIn p.K (.ref q) "__get__" = some (some (.builtin "member_descriptor.__get__"))
  takes : takesIn p.K (.ref q) = some true
  taker : takerIn p.K C name = some (some (.ref q))
  type : typeIn p.K (.ref q) = some (.type "member_descriptor")
  slot : slotIn p.K q C = some i
  lt : i < 1000

theorem slots_at {L : Addr} {outer : List Env} {h₀ : Heap} {s : Shared} {hid : Hid} {x C : Addr} {vs : List (Option AV)} (S : Sat p L outer h₀ s st hid) (e : st.σ x = some (.slots C vs)) :
    ∃ sl dx, InstAt s.heap x { cls := .ref C, dict := some dx, data := .plain, slots := sl.toArray } C (some emptyDict) ∧ SlotRs h₀ vs sl ∧ h₀.get? dx = some emptyDict := by
  obtain ⟨sl, dx, e1, r, z⟩ := (S.obj _ _ e).1
  exact ⟨sl, dx, ⟨e1, rfl, rfl, S.sub _ _ z⟩, r, z⟩

theorem ga_slot {x C q : Addr} {vs : List (Option AV)} {name : Str} {i : Nat} {a : AV} {Q : AV → St → Prop} (e : st.σ x = some (.slots C vs)) (hC : KCls p C) (hq : KSlot p C name q i) (hv : vs[i]? = some (some a)) (h : Q a st) : GA p n b env (.ref x) name Q X st :=
  GF.mk fun _ _ _ s _ _ _ S hvx => by
    cases hvx
    obtain ⟨sl, dx, I, r, _⟩ := slots_at S e
    obtain ⟨v, e1, e2⟩ := r.get hv
    exact get_bind S.inK I hC.ga (findObj_data hq.cls hq.find hq.get hq.takes) hC.gm (wpAny_call (slot_get (s := { s with toks := s.toks + 1 }) S.inK I hq.slot (by simp [e1]) (handed_on e2.handed (NP.mk (S.of_eq rfl rfl rfl) (.refl _) e2 h))))

theorem slot_set_raw {prog : Program} {w : World} {A : Around} {s : Shared} {K : Frag} {C x : Addr} {R : Result → Shared → Prop} {ox : Obj} {od : Option Obj} {v : Value} {q i : Nat} (Xk : K.In s.heap) (I : InstAt s.heap x ox C od)
    (hp : slotIn K q C = some i) (hi : i < 1000)
    (h : R (.ok (.ret .none)) { s with heap := s.heap.update x fun o => { o with slots := (o.slots ++ Array.replicate (i + 1 - o.slots.size) none).setIfInBounds i (some v) } }) :
    codeAny (model prog w) A (.call (.builtin "member_descriptor.__set__") ⟨[.ref q, .ref x, v], []⟩) R s := by
  obtain ⟨n, tn, owner, behind, tb, d, sl, cd, ho, hc, hm, hb, rfl⟩ := slot_of Xk hp
  obtain ⟨hh, g, dr, t, os⟩ := s
  have L0 := I.type (M := model prog w)
  have L1 := looks_mroIn (M := model prog w) Xk hm
  have L2 : Looks (model prog w) hh (Slots.slotNamesOf (.ref C)) cd.slotNames := (looks_clsIn Xk hc).andThen .now
  have hx := I.at_
  dsimp only at ho hx L0 L1
  have f0 := looks_field (M := model prog w) ho 0 (v := .str n tn) rfl
  have f1 := looks_field (M := model prog w) ho 1 (v := owner) rfl
  have f3 := looks_field (M := model prog w) ho 3 (v := .builtin "proto.slot#set") rfl
  have f4 := looks_field (M := model prog w) ho 4 (v := .int behind tb) rfl
  refine codeAny_call_builtin KF.slot_mset.plain KF.entry_mset (KF.slot_mset.check _ _ _ _ _ _ _ _ ⟨_, ho, rfl⟩ (KF.args_mset _ _ _) ?_)
  unfold Builtin.«member_descriptor.__set__» descrSet descrStoreThrough descrCheckInstance descrNameAndClass isInstance
  have f5 : Looks (model prog w) hh (descrItself (.ref q)) [.ref q] := ((Looks.ld (part := none) ho).andThen .now).andThen (Looks.of_pure (by kernel_rfl))
  repeat lk
  refine ⟨Code.quiet_builtin _ (by decide +kernel), codeAny_builtin KF.entry_slotset ?_⟩
  unfold Builtin.«proto.slot#set» Slots.target
  repeat lk
  rw [if_neg hb]
  refine wpAny_pure (wpAny_bind ?_)
  unfold setSlotAt
  dsimp only
  rw [if_neg (by rw [sizeLine_eq]; (first | lia | omega))]
  exact wpAny_updatePart hx (wpAny_pure h)

theorem sa_slot {x C q : Addr} {vs : List (Option AV)} {name : Str} {i : Nat} {a : AV} {Q : Unit → St → Prop} (e : st.σ x = some (.slots C vs)) (hC : KCls p C) (hq : KSlot p C name q i) (h : Q () (st.put x (.slots C (sset vs i a)))) : SA p n b env (.ref x) name a Q X st :=
  GV2.mk fun _ _ _ s _ _ v _ S hvx hv => by
    cases hvx
    obtain ⟨sl, dx, I, r, z⟩ := slots_at S e
    refine set_plain S.inK I hC.sa (osa_descr (s := { s with toks := s.toks + 1 }) KF.slot_mset S.inK I hC.over hq.taker hq.type (slot_set_raw (s := { s with toks := s.toks + 1 }) S.inK I hq.slot hq.lt ?_))
    refine NP.mk (S.setO (s' := { s with heap := s.heap.update x fun o => { o with slots := (o.slots ++ Array.replicate (i + 1 - o.slots.size) none).setIfInBounds i (some v) }, toks := s.toks + 1 }) (ao' := .slots C (sset vs i a)) e (Heap.SameBut.update ..) rfl rfl
      ⟨(sl ++ List.replicate (i + 1 - sl.length) none).set i (some v), dx, (Heap.get?_update_self _ I.at_ rfl).trans ?_, ?_, z⟩) (.refl _) (y := ()) trivial h
    · simp only [List.size_toArray, Option.some.injEq, Obj.mk.injEq, true_and]
      apply Array.toList_inj.mp
      simp
    · unfold sset
      rw [r.length]
      exact (r.append (SlotRs.rep _)).set i hv

/-! attributes -/
theorem EW.attr {o : Expr} {name : Str} {pos : Pos} {Q : AV → St → Prop} (H : EW p n b env o (fun a st1 => GA p n b env a name Q X st1) X st)
    (he : eval (.Attribute o name pos) env = (do
      let o ← eval o env
      standAt pos.atName
      let r ← holding [o] (getAttr o name true)
      letTemporaryGo ‹Expr› o r
      pure r) := by with_unfolding_all rfl) : EW p n b env (.Attribute o name pos) Q X st :=
  GW.mk fun _ _ _ _ _ hA S => Attribute_any_ (H.use hA S (.refl _) fun _ _ _ _ _ k1 _ S1 hv H1 => GF.at (f := fun v => getAttr v name true) H1 hA S1 hv k1) he
theorem XW.assignAttr {o e : Expr} {name : Str} {pos' pos : Pos} {Q : AF → St → Prop} (H : EW p n b env e (fun c st1 => EW p n b env o (fun a st2 => SA p n b env a name c (fun _ => Q .next) X st2) X st1) X st)
    (hs : swapsWith e (some (.Attribute o name pos')) pos.line env = pure false := by rfl) : XW p n b env (.Assign [.Attribute o name pos'] e pos) Q X st :=
  GW.mk fun _ _ _ _ _ hA S => plainObj_wpAny_Assign_Attribute (H.use hA S (.refl _) fun _ _ _ _ _ k1 _ S1 hv H1 => H1.use hA S1 k1 fun _ _ _ _ _ k2 k12 S2 hu H2 =>
    wpAny_mono (GV2.at (f := fun v u => setAttr v name u) H2 hA S2 hu (hv.mono k12) k2) (fun _ _ z_ => z_.elim fun _ _ _ k3 S3 _ q => NP.mk S3 k3 .next q) fun _ _ e => e) hs
theorem XW.augAttr {o e : Expr} {name : Str} {op : Operator} {pos' pos : Pos} {Q : AF → St → Prop}
    (H : EW p n b env o (fun a st1 => GA p n b env a name (fun old st2 => EW p n b env e (fun d st3 => GV2 p n b env old d VR (inplaceOp op) (fun new st4 => SA p n b env a name new (fun _ => Q .next) X st4) X st3) X st2) X st1) X st) : XW p n b env (.AugAssign (.Attribute o name pos') op e pos) Q X st :=
  GW.mk fun _ _ _ _ _ hA S => wpAny_AugAssign_AttributeAny (H.use hA S (.refl _) fun _ _ _ _ _ k1 _ S1 hv H1 =>
    wpAny_mono (GF.at (f := fun v => getAttr v name true) H1 hA S1 hv (.refl _)) (fun _ _ z_ => z_.elim fun _ _ _ k2 S2 ho H2 => H2.use hA S2 (k1.trans k2) fun _ _ _ _ _ k3 k23 S3 hd H3 =>
      wpAny_mono (H3 _ _ _ _ _ _ _ hA S3 (ho.mono k23) hd) (fun _ _ z_ => z_.elim fun _ _ _ k4 S4 hn H4 =>
        wpAny_mono (GV2.at (f := fun v u => setAttr v name u) H4 hA S4 (hv.mono (k2.trans (k23.trans k4))) hn (k3.trans k4)) (fun _ _ z_ => z_.elim fun _ _ _ k5 S5 _ q => NP.mk S5 k5 .next q) fun _ _ e => e)
        fun _ _ e => EP.mono k3 (fun _ _ z => z) e) fun _ _ e => EP.mono k1 (fun _ _ z => z) e)
end

end Mine

end

section
open PySem PySem.W PyProof.Rows PySem.Calls
set_option maxRecDepth 100000
namespace Mine

section
variable {p : PC} {n : Nat} {b : Mode} {env : Env} {X : Value → St → Prop} {st : St}

/-! arguments with a rest -/
theorem BindA.var {fd : FuncData} {as rest : List AV} {bs : List (String × AV)} {x : String} (hb : bs.map (·.2) = as) (hz : rest.length ≤ 16777216)
    (h : ∀ vs rs, vs.length = as.length → bindArgs fd ⟨vs ++ rs, []⟩ = (newTuple rs >>= fun t => pure (((bs.map fun x => Str.ofString x.1).zip vs) ++ [(Str.ofString x, t)]))) : BindA p fd (as ++ rest) (bs ++ [(x, .tup rest)]) :=
  fun A L outer h₀ s st hid vs E Q S hv k => by
    have hsplit : ∃ v1 v2, vs = v1 ++ v2 ∧ VRs h₀ as v1 ∧ VRs h₀ rest v2 := by
      clear hb h k
      induction as generalizing vs with
      | nil => exact ⟨[], vs, rfl, .nil, hv⟩
      | cons a r ih =>
        cases hv with | cons h1 h2 =>
        obtain ⟨v1, v2, e, r1, r2⟩ := ih _ h2
        exact ⟨_ :: v1, v2, by rw [e]; rfl, .cons h1 r1, r2⟩
    obtain ⟨v1, v2, rfl, r1, r2⟩ := hsplit
    rw [h v1 v2 r1.length]
    unfold newTuple
    refine wpAny_bind (wpAny_newObj_type ?_ (by show v2.toArray.size ≤ sizeLine; rw [List.size_toArray, r2.length, sizeLine_val]; exact hz))
    obtain ⟨h₁, k1, S', e⟩ := S.pushF (s' := { s with heap := s.heap.push (tupObj v2 0) }) (tupObj v2 0) rfl rfl rfl rfl
    refine wpAny_pure ?_
    have hl : (bs.map fun x => Str.ofString x.1).length = v1.length := by rw [r1.length, ← hb]; simp
    have := k h₁ _ (v1 ++ [.ref s.heap.objs.size]) k1 S' (by
      rw [List.map_append, hb]
      exact (r1.mono k1).append (.cons (.tup e (r2.mono k1)) .nil))
    rw [List.map_append, List.zip_append hl] at this
    exact this

/-! calls, as codes -/
noncomputable def CC (p : PC) (n : Nat) (b : Mode) (env : Env) (f : Value) (as : List AV) (Q : AV → St → Prop) (X : Value → St → Prop) (st : St) : Prop :=
  ∀ A outer h₀ s hid vs, AOK n b A env outer → Sat p env.locals outer h₀ s st hid → VRs h₀ as vs →
    codeAny (model p.prog p.w) A (.call f ⟨vs, []⟩) (wants (NP p env.locals outer h₀ hid VR Q) (EP p env.locals outer h₀ hid X)) s
theorem CC.cw {f : Value} {as : List AV} {Q : AV → St → Prop} (H : CC p n b env f as Q X st) : CW p n b env f as Q X st := GF.mk fun A outer h₀ s hid vs hA S hv => wpAny_call (H A outer h₀ s hid vs hA S hv)

theorem AOK.less {A : Around} {outer : List Env} (hA : AOK (n + 1) b A env outer) : AOK n b A env outer :=
  ⟨hA.frames, hA.handled, by have := hA.depth; (first | lia | omega), by have := hA.units; (first | lia | omega), hA.kind, hA.frame, hA.glob, hA.bi⟩
theorem AOK.underT {A : Around} {outer : List Env} {as : Args} (hA : AOK (n + 1) b A env outer) : AOK n b (A.under (.builtin "type.__call__" as)) env outer := by
  refine ⟨?_, hA.handled, ?_, ?_, hA.kind, hA.frame, hA.glob, hA.bi⟩
  · show pushEnvs (Code.builtin "type.__call__" as).envs A.frames = _
    rw [hA.frames]; rfl
  · have := hA.depth
    have h2 : (Code.builtin "type.__call__" as).weight ≤ 20 := by
      unfold Code.weight
      have e1 : (Code.builtin "type.__call__" as).frames = 0 := rfl
      have e3 : (Code.builtin "type.__call__" as).isCaller = false := rfl
      rw [e1, e3]
      split <;> split <;> simp
    show A.depth + (Code.builtin "type.__call__" as).weight + 20 * n ≤ 900
    (first | lia | omega)
  · have := hA.units
    have h2 : (Code.builtin "type.__call__" as).cUnits ≤ 100 := by
      have : (Code.builtin "type.__call__" as).cUnits = (Code.builtin "type.__call__" ⟨[], []⟩).cUnits := rfl
      rw [this]; decide +kernel
    show A.units + (Code.builtin "type.__call__" as).cUnits + 100 * n ≤ 9000
    (first | lia | omega)

theorem initBack {x : Addr} {R : Result → Shared → Prop} {N : Value → Shared → Prop} {E : Value → Shared → Prop} {r : Result} {s : Shared} (h : wants N E r s) (hn : ∀ v, N v s → v = .none ∧ R (.ok (.ret (.ref x))) s) (he : ∀ e, E e s → R (.error e) s) : InitBack x R r s := by
  rcases r with e | (v | _ | _ | _)
  · exact he _ h
  all_goals first | exact hn _ h | exact h.elim

/-- C(..), C a class whose instances have a dict -/
theorem makeD {C fI : Addr} {as : List AV} {Q : AV → St → Prop} (hm : makesIn p.K C = true) (hi : findIn p.K (.ref C) "__init__" = some (some (.ref fI))) (hf : typeIn p.K (.ref fI) = some (.type "function"))
    (H : ∀ x dx, st.σ x = none → st.σ dx = none → x ≠ dx → CC p n b env (.ref fI) (.ref x :: as) (fun v st' => v = .none ∧ Q (.ref x) st') X ((st.put dx (.dict [] 0)).put x (.inst C dx))) : CC p (n + 1) b env (.ref C) as Q X st := by
  intro A outer h₀ s hid vs hA S hv
  obtain ⟨hh, g, d, t, os⟩ := s
  refine make_core (makes_of S.inK hm) (looks_findIn S.inK hi) (fun self => bind_fn S.inK self hf) (.inl rfl) ?_
  obtain ⟨f1, S1⟩ := S.pushO (s' := ⟨hh.push emptyDict, g, d, t, os⟩) (.dict [] 0) rfl rfl rfl ⟨[], ⟨_, #[], Heap.get?_push_size _ rfl, ⟨rfl, rfl, rfl⟩, rfl, fun _ he => by simp at he, .nil, .nil⟩, .nil, noSys S⟩
  obtain ⟨f2, S2⟩ := S1.pushO (s' := ⟨(hh.push emptyDict).push (instObj C hh.objs.size), g, d, t, os⟩) (.inst C hh.objs.size) rfl rfl rfl (Heap.get?_push_size _ rfl)
  dsimp only at f1 f2 S2
  rw [Heap.size_push] at f2 S2
  have f3 : st.σ (hh.objs.size + 1) = none := by
    have : upd st.σ hh.objs.size (.dict [] 0) (hh.objs.size + 1) = none := f2
    rwa [upd_ne _ _ (Nat.succ_ne_self _)] at this
  refine codeAny_mono (H _ _ f3 f1 (Nat.succ_ne_self _) _ _ h₀ _ hid (.ref (hh.objs.size + 1) :: vs) hA.underT S2 (.cons (.ref _) hv)) fun r s' z => initBack z (fun v ⟨h₁, y, st', k, S', r, q⟩ => ?_) fun e z => z
  obtain ⟨q1, q2⟩ := q
  subst q1
  cases r
  exact ⟨rfl, h₁, _, st', k, S', .ref _, q2⟩

/-- C(..), C a class with slots -/
theorem makeS {C fI : Addr} {as : List AV} {Q : AV → St → Prop} (hm : makesIn p.K C = true) (hi : findIn p.K (.ref C) "__init__" = some (some (.ref fI))) (hf : typeIn p.K (.ref fI) = some (.type "function"))
    (H : ∀ x, st.σ x = none → CC p n b env (.ref fI) (.ref x :: as) (fun v st' => v = .none ∧ Q (.ref x) st') X (st.put x (.slots C []))) : CC p (n + 1) b env (.ref C) as Q X st := by
  intro A outer h₀ s hid vs hA S hv
  obtain ⟨hh, g, d, t, os⟩ := s
  refine make_core (makes_of S.inK hm) (looks_findIn S.inK hi) (fun self => bind_fn S.inK self hf) (.inl rfl) ?_
  obtain ⟨h₁, k1, S1, e1⟩ := S.pushF (s' := ⟨hh.push emptyDict, g, d, t, os⟩) emptyDict rfl rfl rfl rfl
  obtain ⟨f2, S2⟩ := S1.pushO (s' := ⟨(hh.push emptyDict).push (instObj C hh.objs.size), g, d, t, os⟩) (.slots C []) rfl rfl rfl ⟨[], _, Heap.get?_push_size _ rfl, .nil, e1⟩
  dsimp only at f2 S2
  rw [Heap.size_push] at f2 S2
  refine codeAny_mono (H _ f2 _ _ h₁ _ hid (.ref (hh.objs.size + 1) :: vs) hA.underT S2 (.cons (.ref _) (hv.mono k1))) fun r s' z => initBack z (fun v ⟨h₂, y, st', k, S', r, q⟩ => ?_) fun e z => EP.mono k1 (fun _ _ z => z) z
  obtain ⟨q1, q2⟩ := q
  subst q1
  cases r
  exact ⟨rfl, h₂, _, st', k1.trans k, S', .ref _, q2⟩

/-- f(..), f a name of the top -/
theorem EW.callK {x : Str} {f : Addr} {npos pos : Pos} {l : List Expr} {Q : AV → St → Prop} (e : nsIn p.K mainGlobals x = some (some (.ref f))) (hk : keepIn p.K (.ref f) = true)
    (H : AW p n b env (.ref f) pos l (fun as st1 => CW p n b env (.ref f) as Q X st1) X st) (hpl : (backTo pos (starEach l env)).any (·.1) = false := by rfl)
    (hx : env.kindOf x = some .globalImplicit := by rfl) (hdb : (x == ("__debug__" : Str)) = false := by decide +kernel) : EW p n b env (.Call (.Name x npos) l [] pos) Q X st :=
  GW.mk fun _ _ _ _ _ hA S => by
    refine wpAny_Call_Name_kw ?_
    have hN : EW p n b env (.Name x npos) (fun a st1 => a = .ref f ∧ st1 = st) X st := EW.glob e (.ref f) ⟨rfl, rfl⟩ hx hdb
    refine hN.use hA S (.refl _) fun v s1 h1 a st1 k1 _ S1 hv hq => ?_
    obtain ⟨rfl, rfl⟩ := hq
    cases hv
    refine callWith_of (P := fun h => p.K.In h) (by rw [hpl]; rfl) (fun h hK => keeps_K hk h hK) (H.use hA S1 k1 fun ar s2 h2 as st2 k2 _ S2 ha H2 => ?_)
    obtain ⟨ap, ak⟩ := ar
    obtain ⟨ha1, ha2⟩ := ha
    obtain rfl : ak = [] := ha2
    exact ⟨S2.inK, GF.at (f := fun vs => call (.ref f) vs) (v := ap) H2 hA S2 ha1 k2⟩

/-! methods of the text's own classes -/
structure KMeth (p : PC) (C : Addr) (name : Str) (f : Addr) : Prop where
  find : findIn p.K (.ref C) name = some (some (.ref f))
  type : typeIn p.K (.ref f) = some (.type "function")
  keep : keepIn p.K (.ref f) = true
  fn : fnIn p.K f = true
  bind : ∀ o, (∀ nm, ∃ r, lookIn nm o = some r) → lookIn name o = some none → findObj p.K C (some o) name = some (.bind (.builtin "function.__get__") (.ref f))

theorem MW.own {x C dx f : Addr} {es : List (Str × AV)} {ep : Nat} {name : Str} {pos : Pos} {args : List Expr} {Q : AV → St → Prop} (e : st.σ x = some (.inst C dx)) (ed : st.σ dx = some (.dict es ep)) (hC : KCls p C) (hm : KMeth p C name f) (hn : aget es name = none)
    (H : AW p n b env (.ref f) pos args (fun as st1 => CW p n b env (.ref f) (.ref x :: as) Q X st1) X st) (hpl : (backTo pos (starEach args env)).any (·.1) = false := by rfl) : MW p n b env (.ref x) name pos args Q X st :=
  fun _ _ _ _ _ v pl hA S hv => by
    cases hv
    obtain ⟨o, ds, I, ho, D, r, hl⟩ := inst_at S e ed
    refine method_fn S.inK I hC.ga hC.gm hm.find hm.type (by show (lookIn name o).map _ = _; rw [hl, (r.get name).2 hn]; rfl) ?_
    refine callWith_of (P := fun h => p.K.In h) (by rw [hpl]; rfl) (fun h hK => keeps_K hm.keep h hK) (H.use hA S (.refl _) fun ar s2 h2 as st2 k2 _ S2 ha H2 => ?_)
    obtain ⟨ap, ak⟩ := ar
    obtain ⟨ha1, ha2⟩ := ha
    obtain rfl : ak = [] := ha2
    exact ⟨S2.inK, GF.at (f := fun vs => call (.ref f) vs) (v := .ref x :: ap) H2 hA S2 (.cons (.ref _) ha1) k2⟩
end

end Mine

end

section
open PySem PySem.W PyProof.Rows PySem.Calls
set_option maxRecDepth 100000
namespace Mine

section
variable {p : PC} {n : Nat} {b : Mode} {env : Env} {X : Value → St → Prop} {st : St}

/-! x := e, and two targets -/
theorem EW.named {target e : Expr} {pos : Pos} {Q : AV → St → Prop} (H : EW p n b env e (fun a st1 => AsW p n b env target a (fun _ st2 => Q a st2) X st1) X st) : EW p n b env (.NamedExpr target e pos) Q X st :=
  GW.mk fun _ _ _ _ _ hA S => wpAny_NamedExpr (H.use hA S (.refl _) fun _ _ _ _ _ k1 _ S1 hv H1 =>
    wpAny_mono (H1 _ _ _ _ _ _ hA S1 hv) (fun _ _ z_ => z_.elim fun _ _ _ k2 S2 _ q => NP.mk S2 (k1.trans k2) (hv.mono k2) q) fun _ _ e => EP.mono k1 (fun _ _ z => z) e)
theorem AsW.sub {o i : Expr} {pos : Pos} {d : AV} {Q : Unit → St → Prop} (H : EW p n b env o (fun a st1 => EW p n b env i (fun c st2 => SIW p n b env a c d (Q ()) X st2) X st1) X st)
    (hi : ∀ iv v ov : Value, (match i with | .Slice _ _ none _ => [iv, v, ov] | _ => [v, ov, iv]) = [v, ov, iv] := by intros; rfl) : AsW p n b env (.Subscript o i pos) d Q X st :=
  GF.mk fun _ _ _ _ _ v hA S hv => by
    rw [assign_Subscript]
    refine wpAny_bind (wpAny_holding (H.use hA S (.refl _) fun _ _ _ _ _ k1 _ S1 hu H1 => wpAny_bind (wpAny_holding (H1.use hA S1 k1 fun _ _ _ _ _ k2 k12 S2 hw H2 => wpAny_bind (wpAny_standAt (wpAny_bind (wpAny_holding ?_)))))))
    exact wpAny_mono (H2.at hA S2 (hu.mono k12) hw (hv.mono k2) k2) (fun _ _ z_ => z_.elim fun _ y _ k3 S3 _ q => wpAny_releaseD (NP.mk S3 k3 (y := ()) trivial q)) fun _ _ e => e
theorem XW.assign2 {t₁ t₂ e : Expr} {pos : Pos} {Q : AF → St → Prop} (H : EW p n b env e (fun a st1 => AsW p n b env t₁ a (fun _ st2 => AsW p n b env t₂ a (fun _ st3 => Q .next st3) X st2) X st1) X st)
    (he : (assignEach [t₁, t₂] env).map (·.2) = [PySem.assign t₁ env, PySem.assign t₂ env] := by rfl) (hw : swappedStores [t₁, t₂] e env = pure none := by rfl) : XW p n b env (.Assign [t₁, t₂] e pos) Q X st :=
  GW.mk fun _ _ _ _ _ hA S => wpAny_Assign_two (H.use hA S (.refl _) fun _ _ _ _ _ k1 _ S1 hv H1 =>
    wpAny_mono (H1 _ _ _ _ _ _ hA S1 hv) (fun _ s2 z_ => z_.elim fun h2 _ st2 k2 S2 _ H2 =>
      wpAny_mono (H2 _ _ _ _ _ _ hA S2 (hv.mono k2)) (fun _ _ z_ => z_.elim fun _ _ _ k3 S3 _ q => NP.mk S3 ((k1.trans k2).trans k3) .next q) fun _ _ e => EP.mono (k1.trans k2) (fun _ _ z => z) e) fun _ _ e => EP.mono k1 (fun _ _ z => z) e) he hw

/-! while -/
theorem XW.while {test : Expr} {body orelse : List Stmt} {pos : Pos} {Q : AF → St → Prop} (hb : b ≠ .comp) (I : Nat → St → Prop)
    (turn : ∀ m st, I m st → TW p n b env test (fun c st1 => if c then SW p n b env body (fun f st2 => match f with
        | .next | .cont => ∃ m', m' < m ∧ I m' st2
        | .brk => Q .next st2
        | .ret w => Q (.ret w) st2) X st1 else SW p n b env orelse Q X st1) X st)
    (m : Nat) (h : I m st) : XW p n b env (.While test body orelse pos) Q X st := by
  refine GW.mk fun A outer h₀ s hid hA S => ?_
  refine wpAny_While ?_
  have pe : ∀ {h₄ x s₄}, EP p env.locals outer h₄ hid X x s₄ → Sub h₀ h₄ → notedBy (model p.prog p.w) A env (cameBackBy (model p.prog p.w) A env (EP p env.locals outer h₀ hid X)) x s₄ :=
    fun he k4 => passes_EP' hA hb _ _ (EP.mono k4 (fun _ _ z => z) he)
  refine codeAny_whileLoop (fun m s' => ∃ h₁ st', Sub h₀ h₁ ∧ Sat p env.locals outer h₁ s' st' hid ∧ I m st') ?_ m ⟨h₀, st, .refl _, S, h⟩
  rintro m s' ⟨h₁, st', k1, S1, hI⟩
  refine wpAny_mono (turn m st' hI _ _ _ _ _ hA S1) (fun c s2 z_ => z_.elim fun h2 y st2 k2 S2 r q => ?_) fun x s2 he => pe he k1
  obtain rfl : y = c := r
  cases y with
  | true =>
    simp only [if_true] at q ⊢
    refine wpAny_mono (q _ _ _ _ _ hA S2) (fun f s3 z_ => z_.elim fun h3 y3 st3 k3 S3 r3 q3 => ?_) fun x s3 he => pe he (k1.trans k2)
    have kk := (k1.trans k2).trans k3
    cases r3 with
    | next => obtain ⟨m', hm, hI'⟩ := q3; exact ⟨m', hm, h3, st3, kk, S3, hI'⟩
    | cont => obtain ⟨m', hm, hI'⟩ := q3; exact ⟨m', hm, h3, st3, kk, S3, hI'⟩
    | brk => exact ⟨h3, _, st3, kk, S3, .next, q3⟩
    | ret hv => exact ⟨h3, _, st3, kk, S3, .ret hv, q3⟩
  | false =>
    simp only [Bool.false_eq_true, if_false] at q ⊢
    exact wpAny_mono (q _ _ _ _ _ hA S2) (fun f s3 z_ => z_.elim fun h3 y3 st3 k3 S3 r3 q3 => ⟨h3, y3, st3, (k1.trans k2).trans k3, S3, r3, q3⟩) fun x s3 he => pe he (k1.trans k2)

/-! try -/
theorem AOK.mark {A : Around} {outer : List Env} {v : Value} (hb : b ≠ .comp) (hA : AOK n b A env outer) : AOK n .handler (A.mark (some v)) env outer :=
  ⟨by have := hA.frames; rw [if_neg hb] at this; exact this, fun h => (h rfl).elim, hA.depth, hA.units, hA.kind, fun _ => hA.frame hb, hA.glob, hA.bi⟩

theorem XW.tryB {T : String} {x : Str} {body : List Stmt} {b₀ : Stmt} {suite : List Stmt} {np hpos pos : Pos} {Q : AF → St → Prop} (hb : b ≠ .comp) (hg : nsIn p.K mainGlobals x = some none) (hv : bootBuiltins x = some (.type T))
    (hexc : isSubtype (.type T) (.type "BaseException") = pure true) (hnt : isSubtype (.type ((Manifest.find? T).elim "type" fun x => x.metatype)) (.type "tuple") = pure false)
    (H : SW p n b env body Q (fun cls st1 => ∃ Xn, cls = .type Xn ∧ isSubtype (.type Xn) (.type T) = pure true ∧ SW p n .handler env (b₀ :: suite) Q X st1) st)
    (hx : env.kindOf x = some .globalImplicit := by rfl) (hn : x ≠ "__name__" := by decide +kernel) (hd : (x == ("__debug__" : Str)) = false := by decide +kernel) :
    XW p n b env (.Try body [.ExceptHandler (some (.Name x np)) none (b₀ :: suite) hpos] [] [] pos) Q X st := by
  refine GW.mk fun A outer h₀ s hid hA S => ?_
  refine wpAny_Try_except (wpAny_mono (H _ _ _ _ _ hA S) (fun f s1 z_ => z_.elim fun h1 y st1 k1 S1 r q => ?_) fun x s1 ⟨h1, cls, st1, k1, S1, hx1, q⟩ => ?_)
  · cases r with
    | next => exact wpAny_execs_nil ⟨h1, _, st1, k1, S1, .next, q⟩
    | brk => exact ⟨h1, _, st1, k1, S1, .brk, q⟩
    | cont => exact ⟨h1, _, st1, k1, S1, .cont, q⟩
    | ret hv => exact ⟨h1, _, st1, k1, S1, .ret hv, q⟩
  · obtain ⟨Xn, rfl, hsub, q⟩ := q
    refine note_X hA hb S1 hx1 fun h2 S2 hx2 => ?_
    refine flight_X S2 hx2 fun h3 S3 hx3 => ?_
    obtain ⟨e, oe, vs, rfl, hu, he, hc, hdt, hcase⟩ := id hx3
    have hM := hA.mark (v := .ref e) hb
    refine wpAny_handleBy_builtin (X := Xn) (T := T) (b := true) hexc hnt hsub (builtinName hM S3 hg hv hn ⟨rfl, ⟨oe, he, hc⟩, ?_⟩ hx hd)
    simp only [if_true]
    refine flight_X (A := A.mark (some (.ref e))) S3 hx3 fun h4 S4 hx4 => ?_
    refine wpAny_mono (q _ _ _ _ _ hM S4) (fun f s5 z_ => z_.elim fun h5 y5 st5 k5 S5 r5 q5 => ⟨h5, y5, st5, k1.trans k5, S5, r5, q5⟩) fun x s5 he => passes_EP hM (by decide) _ _ (EP.mono k1 (fun _ _ z => z) he)

theorem XW.tryK {C : Addr} {bmB : List Value} {newId : String} {x : Str} {body : List Stmt} {b₀ : Stmt} {suite : List Stmt} {np hpos pos : Pos} {Q : AF → St → Prop} (hb : b ≠ .comp) (hg : nsIn p.K mainGlobals x = some (some (.ref C)))
    (O : OwnClsQ x C bmB newId p.mg p.base) (hbase : bmB.contains (.type "BaseException") = true)
    (H : SW p n b env body Q (fun cls st1 => cls = .ref C ∧ SW p n .handler env (b₀ :: suite) Q X st1) st)
    (hx : env.kindOf x = some .globalImplicit := by rfl) (hd : (x == ("__debug__" : Str)) = false := by decide +kernel) :
    XW p n b env (.Try body [.ExceptHandler (some (.Name x np)) none (b₀ :: suite) hpos] [] [] pos) Q X st := by
  refine GW.mk fun A outer h₀ s hid hA S => ?_
  refine wpAny_Try_except (wpAny_mono (H _ _ _ _ _ hA S) (fun f s1 z_ => z_.elim fun h1 y st1 k1 S1 r q => ?_) fun x s1 ⟨h1, cls, st1, k1, S1, hx1, q⟩ => ?_)
  · cases r with
    | next => exact wpAny_execs_nil ⟨h1, _, st1, k1, S1, .next, q⟩
    | brk => exact ⟨h1, _, st1, k1, S1, .brk, q⟩
    | cont => exact ⟨h1, _, st1, k1, S1, .cont, q⟩
    | ret hv => exact ⟨h1, _, st1, k1, S1, .ret hv, q⟩
  · obtain ⟨rfl, q⟩ := q
    refine note_X hA hb S1 hx1 fun h2 S2 hx2 => ?_
    refine flight_X S2 hx2 fun h3 S3 hx3 => ?_
    obtain ⟨e, oe, vs, rfl, hu, he, hc, hdt, hcase⟩ := id hx3
    have hM := hA.mark (v := .ref e) hb
    refine handleBy_own hbase (Name_function_global hM.kind hx (loadGlobal_global (hM.glob ▸ p.hT.g.keeps (S3.base.trans S3.sub)) (mg_of p.hK p.hT.g hg) ⟨rfl, O.keeps (S3.base.trans S3.sub), ⟨oe, he, hc⟩, ?_⟩) hd)
    refine flight_X (A := A.mark (some (.ref e))) S3 hx3 fun h4 S4 hx4 => ?_
    refine wpAny_mono (q _ _ _ _ _ hM S4) (fun f s5 z_ => z_.elim fun h5 y5 st5 k5 S5 r5 q5 => ⟨h5, y5, st5, k1.trans k5, S5, r5, q5⟩) fun x s5 he => passes_EP hM (by decide) _ _ (EP.mono k1 (fun _ _ z => z) he)

/-! raise -/
theorem unt_new {L : Addr} {outer : List Env} {h₀ : Heap} {s : Shared} {hid : Hid} (S : Sat p L outer h₀ s st hid) {e : Addr} (h : s.heap.get? e = none) : Unt h₀ L st hid e := by
  refine ⟨?_, ?_⟩
  · cases q : h₀.get? e with
    | none => rfl
    | some o => rw [S.sub _ _ q] at h; cases h
  · cases q : priv L st hid e with
    | false => rfl
    | true =>
      exfalso
      unfold priv at q
      simp only [Bool.or_eq_true, beq_iff_eq] at q
      rcases q with (rfl | q) | q
      · obtain ⟨m, ⟨o, _, _, z, _⟩, _⟩ := S.loc; rw [z] at h; cases h
      · obtain ⟨o, z⟩ := Option.isSome_iff_exists.mp q
        obtain ⟨ob, z2⟩ := (S.obj e o z).1.there
        rw [z2] at h; cases h
      · obtain ⟨o, z⟩ := Option.isSome_iff_exists.mp q
        obtain ⟨ob, z2⟩ := (S.hidd e o z).1.there
        rw [z2] at h; cases h
theorem made_EP {L : Addr} {outer : List Env} {h₀ h₁ : Heap} {s : Shared} {hid : Hid} {e t : Addr} {cls : Value} {h' : Heap} (S : Sat p L outer h₁ s st hid) (k : Sub h₀ h₁) (hk : Sub s.heap h') (hn : s.heap.get? e = none)
    (he : h'.get? e = some { cls := cls, data := .fields #[.ref t, .none, .none, .none, .bool false, .none] }) (q : X cls st) : EP p L outer h₀ hid X (.ref e) { s with heap := h' } :=
  ⟨h₁, cls, st, k, S.grow hk rfl S.gens, ⟨e, _, _, rfl, unt_new S hn, he, rfl, rfl, .inl ⟨trivial, rfl⟩⟩, q⟩
theorem XW.raiseB {cls newId initId : String} {x : Str} {np cpos pos : Pos} {args : List Expr} {Q : AF → St → Prop} (F : ExcCallFacts cls newId initId) (G : ExcRaiseFacts cls) (hb : b ≠ .handler) (hg : nsIn p.K mainGlobals x = some none) (hv : bootBuiltins x = some (.type cls))
    (H : AW p n b env (.type cls) cpos args (fun as st1 => X (.type cls) st1 ∧ as.length ≤ 16777216) X st) (hpl : (backTo cpos (starEach args env)).any (·.1) = false := by rfl)
    (hx : env.kindOf x = some .globalImplicit := by rfl) (hn : x ≠ "__name__" := by decide +kernel) (hd : (x == ("__debug__" : Str)) = false := by decide +kernel) : XW p n b env (.Raise (some (.Call (.Name x np) args [] cpos)) none pos) Q X st :=
  GW.mk fun _ _ _ _ _ hA S => by
    refine wpAny_Raise_call F G (hA.handled hb) hpl (builtinName hA S hg hv hn ⟨rfl, H.use hA S (.refl _) fun ar s2 h2 as st2 k2 _ S2 ha H2 => ?_⟩ hx hd)
    exact ⟨ha.2, by rw [ha.1.length, sizeLine_val]; exact H2.2, fun h' e hm => let ⟨t, he, _⟩ := hm.there; made_EP S2 k2 hm.keeps hm.new he H2.1⟩
theorem XW.raiseK {C : Addr} {B newId initId : String} {bm : List Value} {x : Str} {np cpos pos : Pos} {args : List Expr} {Q : AF → St → Prop} (O : OwnCls x C bm newId p.mg p.base) (FB : ExcBaseFacts B newId initId bm) (hb : b ≠ .handler) (hg : nsIn p.K mainGlobals x = some (some (.ref C)))
    (H : AW p n b env (.ref C) cpos args (fun as st1 => X (.ref C) st1 ∧ as.length ≤ 16777216) X st) (hpl : (backTo cpos (starEach args env)).any (·.1) = false := by rfl)
    (hx : env.kindOf x = some .globalImplicit := by rfl) (hd : (x == ("__debug__" : Str)) = false := by decide +kernel) : XW p n b env (.Raise (some (.Call (.Name x np) args [] cpos)) none pos) Q X st :=
  GW.mk fun _ _ _ _ _ hA S => by
    obtain ⟨tl, N, nm, q, bs, hdct, sn, sub, ab, col, dd, k0, k1, k2, k3, k5, mN, hC, hN, hni, T⟩ := O.obj
    refine wpAny_Raise_call_subT (C := C) (nm := nm) (q := q) (N := N) (bs := bs) (bm := tl) (hdct := hdct) (sn := sn) (sub := sub) (ab := ab) (col := col) (dd := dd) (k0 := k0) (k1 := k1) (k2 := k2) (k3 := k3) (k5 := k5)
      FB (mN := mN) (T.hasType FB.hasBase) (hA.handled hb) hpl hni (Name_function_global hA.kind hx (loadGlobal_global (hA.glob ▸ p.hT.g.keeps (S.base.trans S.sub)) (mg_of p.hK p.hT.g hg)
        ⟨rfl, H.use hA S (.refl _) fun ar s2 h2 as st2 k2' _ S2 ha H2 => ?_⟩) hd)
    have kk := S2.base.trans S2.sub
    exact ⟨ha.2, by rw [ha.1.length, sizeLine_val]; exact H2.2, kk _ _ hC, hN.keeps kk, T.keeps kk, fun h' e hm => let ⟨t, he, _⟩ := hm.there; made_EP S2 k2' hm.keeps hm.new he H2.1⟩
end

end Mine

end

section
open PySem PySem.W PyProof.Rows PySem.Calls Builtin
set_option maxRecDepth 100000
namespace Mine
noncomputable abbrev iterObj (l : Addr) (i : Int) : Obj := { cls := .type "list_iterator", data := .fields #[.ref l, .int i 0] }
noncomputable abbrev wrapObj (it : Addr) : Obj := { cls := .type "method-wrapper", data := .fields #[.builtin "list_iterator.__next__", .ref it] }

theorem li_ga : typeLookup (.type "list_iterator") "__getattribute__" = pure (some (.builtin "object.__getattribute__")) := by rw [typeLookup_type, builtinLookup_eq_fast]; kernel_rfl
theorem li_gm : typeLookup (.type "list_iterator") "__getattr__" = pure none := by rw [typeLookup_type, builtinLookup_eq_fast]; kernel_rfl
theorem wd_get : typeLookup (.type "wrapper_descriptor") "__get__" = pure (some (.builtin "wrapper_descriptor.__get__")) := by rw [typeLookup_type, builtinLookup_eq_fast]; kernel_rfl
theorem wd_set : typeLookup (.type "wrapper_descriptor") "__set__" = pure none := by rw [typeLookup_type, builtinLookup_eq_fast]; kernel_rfl
theorem wd_del : typeLookup (.type "wrapper_descriptor") "__delete__" = pure none := by rw [typeLookup_type, builtinLookup_eq_fast]; kernel_rfl
theorem type_li_next : typeOf (.builtin "list_iterator.__next__") = pure (.type "wrapper_descriptor") := by show builtinType _ = _; rw [builtinType_eq_fast]; kernel_rfl
theorem slot_li_ga : Slot "list_iterator" "__getattribute__" "object.__getattribute__" :=
  Slot.of (owner := "object") (n := "__getattribute__") li_ga (by decide +kernel) (by decide +kernel) (by decide +kernel) (.inl (by decide +kernel)) (by rw [isSubtype_type]; kernel_rfl)
theorem entry_li_ga : entryFor table "object.__getattribute__" = some Builtin.«object.__getattribute__» := entryFor_of_tree (by kernel_rfl)
theorem args_li_ga (a b : Value) : argsOk "object.__getattribute__" ⟨[a, b], []⟩ := by unfold argsOk; kernel_rfl
theorem slot_wd_get : Slot "wrapper_descriptor" "__get__" "wrapper_descriptor.__get__" :=
  Slot.of (owner := "wrapper_descriptor") (n := "__get__") wd_get (by decide +kernel) (by decide +kernel) (by decide +kernel) (.inl (by decide +kernel)) (by rw [isSubtype_type]; kernel_rfl)
theorem entry_wd_get : entryFor table "wrapper_descriptor.__get__" = some Builtin.«wrapper_descriptor.__get__» := entryFor_of_tree (by kernel_rfl)
theorem args_wd_get (a b c : Value) : argsOk "wrapper_descriptor.__get__" ⟨[a, b, c], []⟩ := by unfold argsOk; kernel_rfl

variable {prog : Program} {w : World} {A : Around} {E : Value → Shared → Prop} {s : Shared}
theorem getAttr_next {it l : Addr} {i : Int} {Q : Value → Shared → Prop} (hx : s.heap.get? it = some (iterObj l i))
    (h : Q (.ref s.heap.objs.size) { s with heap := s.heap.push (wrapObj it), toks := s.toks + 1 }) : wpAny (model prog w) A (getAttr (.ref it) "__next__" true) Q E s := by
  obtain ⟨hp, g, d, tk, os⟩ := s
  have hT : ∀ tk', (⟨hp, g, d, tk', os⟩ : Shared).TypeIs (.ref it) "list_iterator" := fun _ => ⟨_, hx, rfl⟩
  have f3 := li_ga
  have f4 := slot_li_ga.bind (.ref it)
  have f5 := li_gm
  unfold getAttr getAttrBy
  repeat (any_goals (first | assumption | exact hT _ | wp_step))
  refine codeAny_call_builtin slot_li_ga.plain entry_li_ga (slot_li_ga.check _ _ _ _ _ _ _ _ (hT _) (args_li_ga _ _) ?_)
  have g1 := slot_listiter_next.lookup
  have g2 := type_li_next
  have g3 := wd_get
  have g4 := wd_set
  have g5 := wd_del
  show wpAny _ _ (do
    let tp ← typeOf (.ref it)
    match ← Builtin.ObjectAttr.find (.ref it) tp "__next__" with
    | .value v => ret v
    | .bind g a => Builtin.ObjectAttr.bindTo g a (.ref it) tp
    | .missing => _) _ _ _
  have L0 : ∀ M, Looks M hp (typeOf (.ref it)) (.type "list_iterator") := fun M => (Looks.ld (part := none) hx).andThen .now
  have L1 : ∀ M, Looks M hp (Builtin.ObjectAttr.find (.ref it) (.type "list_iterator") "__next__") (.bind (.builtin "wrapper_descriptor.__get__") (.builtin "list_iterator.__next__")) := by
    intro M
    unfold Builtin.ObjectAttr.find
    refine (Looks.of_pure g1).andThen ?_
    refine (show Looks M hp (Builtin.ObjectAttr.getOf _) (some (.builtin "wrapper_descriptor.__get__")) from (Looks.of_pure g2).andThen (Looks.of_pure g3)).andThen ?_
    have LA : Looks M hp (specialOf (.builtin "list_iterator.__next__") "__set__") none := (Looks.of_pure g2).andThen (Looks.of_pure g4)
    have LB : Looks M hp (specialOf (.builtin "list_iterator.__next__") "__delete__") none := (Looks.of_pure g2).andThen (Looks.of_pure g5)
    have LT : Looks M hp (Builtin.ObjectAttr.takesStores (.builtin "list_iterator.__next__")) false := LA.andThen (LB.andThen .now)
    have LD : Looks M hp (Builtin.ObjectAttr.dataDescriptor? (some (.builtin "list_iterator.__next__")) (some (.builtin "wrapper_descriptor.__get__"))) none := LT.andThen .now
    refine LD.andThen ?_
    unfold Builtin.ObjectAttr.ownThenClass
    refine (show Looks M hp (Builtin.ObjectAttr.inOwnDict _ _) none from ?_).andThen ?_
    · exact (show Looks M hp (Builtin.ObjectAttr.ownDict it) none from (Looks.ld hx).andThen ((Looks.ld hx).andThen .now)).andThen .now
    · exact (show Looks M hp (Builtin.ObjectAttr.copiedAttributeGuard _ _) () from Looks.of_pure (by kernel_rfl)).andThen (Looks.tag .now)
  refine wpAny_bind ((L0 _).here (wpAny_bind ((L1 _).here ?_)))
  show wpAny _ _ (holding _ (call (.builtin "wrapper_descriptor.__get__") [.builtin "list_iterator.__next__", .ref it, .type "list_iterator"]) >>= ret) _ _ _
  refine wpAny_bind (wpAny_holding (wpAny_call (codeAny_call_builtin slot_wd_get.plain entry_wd_get (slot_wd_get.check _ _ _ _ _ _ _ _ g2 (args_wd_get _ _ _) ?_))))
  repeat k_node
  exact h

theorem call_wrap {it wr : Addr} {R : Result → Shared → Prop} (hw : s.heap.get? wr = some (wrapObj it))
    (h : wpAny (model prog w) A.in1 (Builtin.«list_iterator.__next__» ⟨[.ref it], []⟩) (fun fin s' => match fin with | .done f => R (.ok f) s' | .again c' => c'.quiet = true ∧ codeAny (model prog w) A c' R s') (fun e s' => R (.error e) s') s) :
    codeAny (model prog w) A (.call (.ref wr) ⟨[], []⟩) R s := by
  obtain ⟨hp, g, d, tk, os⟩ := s
  refine codeAny_of_tree ?_
  show wpAny _ _ (callAny (.ref wr) _) _ _ _
  refine nd_load hw ?_
  show wpAny _ _ (do checkBoundCall "list_iterator.__next__" ⟨[.ref it], []⟩; again (.builtin "list_iterator.__next__" ⟨[.ref it], []⟩)) _ _ _
  have hc : checkBoundCall "list_iterator.__next__" ⟨[.ref it], []⟩ = pure () := by kernel_rfl
  rw [hc]
  refine wpAny_bind (wpAny_pure (wpAny_pure ⟨plainId_quiet slot_listiter_next.plain _, codeAny_builtin entry_listiter_next ?_⟩))
  rw [Around.under_plainId slot_listiter_next.plain _]
  exact h

theorem entry_iter : entryFor table "iter" = some Builtin.«iter» := entryFor_of_tree (by kernel_rfl)
theorem check_iter (v : Value) : checkBuiltinCall "iter" ⟨[v], []⟩ = pure () := by kernel_rfl
theorem next_item {it l : Addr} {i : Int} {vs : List Value} {k : Nat} {x : Value} {Q : Fin → Shared → Prop} (ho : s.heap.get? it = some (iterObj l i)) (hl : s.heap.get? l = some (lstObj vs k)) (hx : vs[i.toNat]? = some x)
    (hQ : ∀ h', h'.get? it = some (iterObj l (i + 1)) → Heap.SameBut it s.heap h' → Q (.done (.ret x)) { s with heap := h' }) : wpAny (model prog w) A (Builtin.«list_iterator.__next__» ⟨[.ref it], []⟩) Q E s := by
  show wpAny _ _ (field (.ref it) 0 >>= _) _ _ s
  refine wpAny_bind (wpAny_field ho rfl (x := .ref l) rfl ?_)
  show wpAny _ _ (if (Value.ref l == Value.none) = true then _ else _) _ _ s
  rw [if_neg (show ¬ ((Value.ref l == Value.none) = true) from Bool.false_ne_true)]
  show wpAny _ _ (field (.ref it) 1 >>= _) _ _ s
  refine wpAny_bind (wpAny_field ho rfl (x := .int i 0) rfl ?_)
  show wpAny _ _ (seqItems? (.ref l) >>= _) _ _ s
  refine wpAny_bind (wpAny_seqItems hl rfl ?_)
  simp only [List.getElem?_toArray, hx]
  refine wpAny_bind (wpAny_setField ho rfl (by simp) (wpAny_pure (hQ _ ?_ (Heap.SameBut.update ..))))
  exact (Heap.get?_update_self _ ho rfl).trans (by simp [Obj.mapFields, rawInt])
theorem next_stop {it l : Addr} {i : Int} {vs : List Value} {k : Nat} {Q : Fin → Shared → Prop} (hh : A.handled = none) (ho : s.heap.get? it = some (iterObj l i)) (hl : s.heap.get? l = some (lstObj vs k)) (hx : vs[i.toNat]? = none)
    (hQ : ∀ h' e oe ws, Heap.ExtBut it s.heap h' → s.heap.get? e = none → h'.get? e = some oe → oe.cls = .type "StopIteration" → oe.data = .fields ws → ws[1]? = some .none → E (.ref e) { s with heap := h' }) : wpAny (model prog w) A (Builtin.«list_iterator.__next__» ⟨[.ref it], []⟩) Q E s := by
  show wpAny _ _ (field (.ref it) 0 >>= _) _ _ s
  refine wpAny_bind (wpAny_field ho rfl (x := .ref l) rfl ?_)
  show wpAny _ _ (if (Value.ref l == Value.none) = true then _ else _) _ _ s
  rw [if_neg (show ¬ ((Value.ref l == Value.none) = true) from Bool.false_ne_true)]
  show wpAny _ _ (field (.ref it) 1 >>= _) _ _ s
  refine wpAny_bind (wpAny_field ho rfl (x := .int i 0) rfl ?_)
  show wpAny _ _ (seqItems? (.ref l) >>= _) _ _ s
  refine wpAny_bind (wpAny_seqItems hl rfl ?_)
  simp only [List.getElem?_toArray, hx]
  refine wpAny_bind (wpAny_rule (wpAny_bind (wpAny_setField ho rfl (by simp) ?_)))
  show wpAny _ _ (newExc (.type "StopIteration") [] >>= _) _ _ _
  refine wpAny_bind ?_
  simp only [newExc, newTuple]
  refine wpAny_bind (wpAny_newObj_type ?_ (by size_fits))
  refine wpAny_bind (m := firstArgMember _ _) (wpAny_of_eq (a := Value.none) (by first | rfl | (simp only [firstArgMember]; rfl)) ?_)
  refine wpAny_newObj_type ?_ (by size_fits)
  simp only [raiseNew]
  refine wpAny_bind (wpAny_handled ?_)
  rw [hh]
  refine wpAny_bind (wpAny_pure (wpAny_throw ?_))
  refine hQ _ _ _ _ (((Heap.SameBut.update ..).extBut.push _).push _) ?_ (Heap.get?_push_size _ rfl) rfl rfl rfl
  refine Heap.get?_none_of_le ?_
  simp

section
variable {p : PC} {n : Nat} {b : Mode} {env : Env} {X : Value → St → Prop} {st : St}
theorem call_iter {l : Addr} {vs : List AV} {Q : AV → St → Prop} (e : st.σ l = some (.list vs)) (h : ∀ it, st.σ it = none → Q (.ref it) (st.put it (.raw (iterObj l 0)))) : CW p n b env (.builtin "iter") [.ref l] Q X st :=
  GF.mk fun _ _ _ s _ _ _ S hv => by
    obtain ⟨v, rfl, hv1⟩ := hv.one
    cases hv1
    obtain ⟨ws, k, e1, r⟩ := (S.obj _ _ e).1
    refine wpAny_call (codeAny_call_builtin (show plainId "iter" = true by decide +kernel) (entry_iter) ?_)
    rw [check_iter]
    refine wpAny_pure ?_
    refine wpAny_bind (m := someArgs "iter" 1 2 _) (wpAny_of_eq (a := [Value.ref l]) (by kernel_rfl) ?_)
    refine wpAny_bind (wpAny_pyIter_list (lst_is e1) ?_)
    obtain ⟨f, S'⟩ := S.pushO (s' := { s with heap := s.heap.push (iterObj l 0) }) (.raw (iterObj l 0)) rfl rfl rfl (Heap.get?_push_size _ rfl)
    exact wpAny_pure (NP.mk S' (.refl _) (.ref _) (h _ f))
theorem ga_next {it l : Addr} {i : Int} {Q : AV → St → Prop} (e : st.σ it = some (.raw (iterObj l i))) (h : ∀ wr, st.σ wr = none → Q (.ref wr) (st.put wr (.raw (wrapObj it)))) : GA p n b env (.ref it) (Str.ofString "__next__") Q X st :=
  GF.mk fun _ _ _ s _ _ _ S hv => by
    cases hv
    have e1 : s.heap.get? it = some (iterObj l i) := (S.obj _ _ e).1
    refine getAttr_next e1 ?_
    obtain ⟨f, S'⟩ := S.pushO (s' := { s with heap := s.heap.push (wrapObj it), toks := s.toks + 1 }) (.raw (wrapObj it)) rfl rfl rfl (Heap.get?_push_size _ rfl)
    exact NP.mk S' (.refl _) (.ref _) (h _ f)
theorem call_next {wr it l : Addr} {i : Int} {vs : List AV} {a : AV} {Q : AV → St → Prop} (ew : st.σ wr = some (.raw (wrapObj it))) (ei : st.σ it = some (.raw (iterObj l i))) (el : st.σ l = some (.list vs)) (ha : vs[i.toNat]? = some a)
    (h : Q a (st.put it (.raw (iterObj l (i + 1))))) : CW p n b env (.ref wr) [] Q X st :=
  GF.mk fun _ _ _ s _ _ _ S hv => by
    cases hv
    have e1 : s.heap.get? wr = some (wrapObj it) := (S.obj _ _ ew).1
    have e2 : s.heap.get? it = some (iterObj l i) := (S.obj _ _ ei).1
    obtain ⟨ws, k, e3, r⟩ := (S.obj _ _ el).1
    obtain ⟨x, e4, e5⟩ := r.get ha
    refine wpAny_call (call_wrap e1 (next_item e2 e3 e4 fun h' e' hs => ?_))
    exact NP.mk (S.setO (s' := { s with heap := h' }) (ao' := .raw (iterObj l (i + 1))) ei hs rfl rfl e') (.refl _) e5 h
theorem call_stop {wr it l : Addr} {i : Int} {vs : List AV} {Q : AV → St → Prop} (hb : b ≠ .handler) (ew : st.σ wr = some (.raw (wrapObj it))) (ei : st.σ it = some (.raw (iterObj l i))) (el : st.σ l = some (.list vs)) (ha : vs[i.toNat]? = none)
    (h : X (.type "StopIteration") (st.del it)) : CW p n b env (.ref wr) [] Q X st :=
  GF.mk fun _ _ h₀ s hid _ hA S hv => by
    cases hv
    have e1 : s.heap.get? wr = some (wrapObj it) := (S.obj _ _ ew).1
    have e2 : s.heap.get? it = some (iterObj l i) := (S.obj _ _ ei).1
    obtain ⟨ws, k, e3, r⟩ := (S.obj _ _ el).1
    refine wpAny_call (call_wrap e1 (next_stop (hA.handled hb) e2 e3 ?_ fun h' e oe us hx hn he hc hd h1 => ?_))
    · rw [List.getElem?_eq_none_iff] at ha ⊢
      rw [r.length]; exact ha
    · have S1 := S.forget (st' := st.del it) (fun _ _ z => z) fun x o z => (era_some z).2
      have hu : Unt h₀ env.locals (st.del it) hid it := ⟨(S.obj _ _ ei).2.1, priv_false.mpr ⟨(by intro z; rw [z, S.locS] at ei; cases ei), era_same _ _, (S.obj _ _ ei).2.2⟩⟩
      exact ⟨h₀, _, st.del it, .refl _, S1.extB hu hx rfl rfl, ⟨e, oe, us, rfl, unt_new S1 hn, he, hc, hd, .inl ⟨trivial, h1⟩⟩, h⟩

/-- a call of what an expression gives -/
theorem EW.callE {f : Expr} {pos : Pos} {wr it : Addr} {Q : AV → St → Prop} (H : EW p n b env f (fun a st1 => a = .ref wr ∧ st1.σ wr = some (.raw (wrapObj it)) ∧ CW p n b env (.ref wr) [] Q X st1) X st)
    (he : eval (.Call f [] [] pos) env = (do callWith pos (← eval f env) [] (backTo pos (starEach [] env)) (backToKw pos (keywordEach [] env))) := by rfl) : EW p n b env (.Call f [] [] pos) Q X st :=
  GW.mk fun _ _ _ _ _ hA S => by
    rw [he]
    refine wpAny_bind (H.use hA S (.refl _) fun v s1 h1 a st1 k1 _ S1 hv ⟨q1, q2, q3⟩ => ?_)
    subst q1
    cases hv
    refine callWith_of (P := fun h => h.get? wr = some (wrapObj it)) rfl (fun h hh => ⟨.machine, .inr (.inl rfl), (Looks.ld (part := none) hh).andThen .now⟩) (evalArgs_nil3 ⟨(S1.obj _ _ q2).1, ?_⟩)
    exact GF.at (f := fun vs => call (.ref wr) vs) (v := []) q3 hA S1 .nil k1
end

end Mine

end

section
open PySem PySem.W PyProof.Rows PySem.Calls
set_option maxRecDepth 100000
namespace Mine

section
variable {p : PC} {n : Nat} {b : Mode} {env : Env} {X : Value → St → Prop} {st : St}

/-! dicts are walked -/
theorem DRs.at {h : Heap} {es : List (Str × AV)} {ds : List (Str × Value)} (r : DRs h es ds) {i : Nat} {k : Str} {a : AV} (e : es[i]? = some (k, a)) : ∃ v, ds[i]? = some (k, v) ∧ VR h a v := by
  induction r generalizing i with
  | nil => simp at e
  | cons hv _ ih =>
    cases i with
    | zero => simp only [List.getElem?_cons_zero, Option.some.injEq, Prod.mk.injEq] at e; obtain ⟨rfl, rfl⟩ := e; exact ⟨_, rfl, hv⟩
    | succ i => simp only [List.getElem?_cons_succ] at e ⊢; exact ih e

noncomputable abbrev kitObj (d : Addr) (m ep : Nat) : Obj := { cls := .type "dict_keyiterator", data := .fields #[.ref d, .int 0 0, .int m 0, .int ep 0] }
theorem iter_dict {target : Expr} {d : Addr} {es : List (Str × AV)} {ep : Nat} (e : st.σ d = some (.dict es ep)) : IterW p n b env target (.ref d) (es.map fun x => .str x.1) (fun σ => σ d = some (.dict es ep)) st := by
  intro A outer h₀ s hid v E P hA S hv K
  cases hv
  obtain ⟨ds, D, r, z⟩ := (S.obj _ _ e).1
  refine wpAny_pyIter_dict z D ?_
  obtain ⟨hno, S1⟩ := S.pushH (s' := { s with heap := s.heap.push (kitObj d ds.length ep) }) (o := kitObj d ds.length ep) rfl rfl rfl rfl
  have hl := r.length
  refine K _ _ (.ref s.heap.objs.size) [s.heap.objs.size] [_] (fun rest os => ∃ (i : Nat) (o : Obj), os = [o] ∧ o.cls = .type "dict_keyiterator" ∧ o.data = .fields #[.ref d, .int i 0, .int es.length 0, .int ep 0] ∧ (es.drop i).map (fun x => AV.str x.1) = rest) (.refl _) ?_ (by simpa using hno) rfl ⟨0, _, rfl, rfl, by rw [← hl]; rfl, rfl⟩ S1
  refine ⟨by simp, ?_, ?_, ?_⟩
  · rintro v' r' os A' L' outer' h₁ s₁ st₁ hid' E' P' ⟨i, o, rfl, hc, hd', hr⟩ hh hf S1 kk hG K1
    replace S1 : Sat p L' outer' h₁ s₁ st₁ (upd hid' s.heap.objs.size (.raw o)) := S1
    obtain ⟨ds', D', r1, z'⟩ := (S1.obj _ _ hG).1
    have hl' := r1.length
    cases hq : es.drop i with
    | nil => rw [hq] at hr; cases hr
    | cons kv rest =>
      rw [hq] at hr
      simp only [List.map_cons, List.cons.injEq] at hr
      obtain ⟨hr1, hr2⟩ := hr
      obtain ⟨hx, hr'⟩ := drop_cons hq
      obtain ⟨k, a⟩ := kv
      obtain ⟨u, hu1, hu2⟩ := r1.at hx
      have ho := (S1.hidd _ _ (upd_same hid' s.heap.objs.size (HC.raw o))).1
      refine wpAny_pyNext_dict_item ⟨o, ho, hc, by rw [hl']; exact hd'⟩ D' hu1 fun key h' hkey hit hs => ⟨key, rfl, ?_⟩
      obtain ⟨o', ho', hc', hd''⟩ := hit
      refine letOwned_other (nm := "dict_keyiterator") ho' hc' (by decide) ?_
      have S2 := S1.setH (s' := { s₁ with heap := h' }) (upd_same hid' s.heap.objs.size (HC.raw o)) hs ho' rfl rfl
      rw [upd_upd] at S2
      obtain ⟨t, rfl⟩ := Value.isStrOf_shape hkey
      refine K1 _ _ [o'] _ (.refl _) ⟨i + 1, o', rfl, hc', by rw [← hl']; exact hd'', by rw [hr']; exact hr2⟩ S2 ?_
      rw [← hr1]; exact .str _ _
  · rintro l' os A' L' outer' h₁ s₁ st₁ hid' E' P' ⟨i, o, rfl, hc, hd', hr⟩ hf S1 hP
    exact wpAny_pyIter_keyiter ⟨o, (S1.hidd _ _ (upd_same hid' s.heap.objs.size (HC.raw o))).1, hc, hd'⟩ hP
  · rintro os A' L' outer' h₁ s₁ st₁ hid' E' P' ⟨i, o, rfl, hc, hd', hr⟩ hh hf S1 kk hG K1
    replace S1 : Sat p L' outer' h₁ s₁ st₁ (upd hid' s.heap.objs.size (.raw o)) := S1
    obtain ⟨ds', D', r1, z'⟩ := (S1.obj _ _ hG).1
    have hl' := r1.length
    have ho := (S1.hidd _ _ (upd_same hid' s.heap.objs.size (HC.raw o))).1
    have hn : ds'[i]? = none := by
      have : es.drop i = [] := by simpa using hr
      rw [List.drop_eq_nil_iff] at this
      rw [List.getElem?_eq_none_iff]; (first | lia | omega)
    refine wpAny_pyNext_dict_end hh ⟨o, ho, hc, by rw [hl']; exact hd'⟩ D' hn fun h' hs => ⟨rfl, ?_⟩
    obtain ⟨S2, u⟩ := S1.unhide (hf _ (.head _))
    exact K1 _ _ (.refl _) (S2.extB (s' := { s₁ with heap := h' }) u hs rfl rfl)

noncomputable abbrev viewObj (d : Addr) : Obj := { cls := .type "dict_values", data := .fields #[.ref d] }
theorem call_values {d : Addr} {es : List (Str × AV)} {ep : Nat} {Q : AV → St → Prop} (e : st.σ d = some (.dict es ep)) (h : ∀ v, st.σ v = none → Q (.ref v) (st.put v (.raw (viewObj d)))) : CW p n b env (.builtin "dict.values") [.ref d] Q X st :=
  GF.mk fun _ _ _ s _ _ _ S hv => by
    obtain ⟨v, rfl, hv1⟩ := hv.one
    cases hv1
    obtain ⟨ds, D, r, z⟩ := (S.obj _ _ e).1
    obtain ⟨f, S'⟩ := S.pushO (s' := { s with heap := s.heap.push (viewObj d) }) (.raw (viewObj d)) rfl rfl rfl (Heap.get?_push_size _ rfl)
    exact call_meetsIn F.slot_dict_values D.dictOf.typeIs F.entry_dict_values (F.args_dict_values_1 _) (meets_dict_values (PySem.strKind p.prog p.w) d z) ⟨⟨_, D.dictOf⟩, NP.mk S' (.refl _) (.ref _) (h _ f)⟩
noncomputable abbrev vitObj (d : Addr) (m ep : Nat) : Obj := { cls := .type "dict_valueiterator", data := .fields #[.ref d, .int 0 0, .int m 0, .int ep 0] }
theorem iter_values {target : Expr} {w d : Addr} {es : List (Str × AV)} {ep : Nat} (ew : st.σ w = some (.raw (viewObj d))) (e : st.σ d = some (.dict es ep)) : IterW p n b env target (.ref w) (es.map fun x => x.2) (fun σ => σ d = some (.dict es ep)) st := by
  intro A outer h₀ s hid v E P hA S hv K
  cases hv
  obtain ⟨ds, D, r, z⟩ := (S.obj _ _ e).1
  have eW : s.heap.get? w = some (viewObj d) := (S.obj _ _ ew).1
  refine wpAny_pyIter_values ⟨_, eW, rfl, rfl⟩ D ?_
  obtain ⟨hno, S1⟩ := S.pushH (s' := { s with heap := s.heap.push (vitObj d ds.length ep) }) (o := vitObj d ds.length ep) rfl rfl rfl rfl
  have hl := r.length
  refine K _ _ (.ref s.heap.objs.size) [s.heap.objs.size] [_] (fun rest os => ∃ (i : Nat) (o : Obj), os = [o] ∧ o.cls = .type "dict_valueiterator" ∧ o.data = .fields #[.ref d, .int i 0, .int es.length 0, .int ep 0] ∧ (es.drop i).map (fun x => x.2) = rest) (.refl _) ?_ (by simpa using hno) rfl ⟨0, _, rfl, rfl, by rw [← hl]; rfl, rfl⟩ S1
  refine ⟨by simp, ?_, ?_, ?_⟩
  · rintro v' r' os A' L' outer' h₁ s₁ st₁ hid' E' P' ⟨i, o, rfl, hc, hd', hr⟩ hh hf S1 kk hG K1
    replace S1 : Sat p L' outer' h₁ s₁ st₁ (upd hid' s.heap.objs.size (.raw o)) := S1
    obtain ⟨ds', D', r1, z'⟩ := (S1.obj _ _ hG).1
    have hl' := r1.length
    cases hq : es.drop i with
    | nil => rw [hq] at hr; cases hr
    | cons kv rest =>
      rw [hq] at hr
      simp only [List.map_cons, List.cons.injEq] at hr
      obtain ⟨hr1, hr2⟩ := hr
      obtain ⟨hx, hr'⟩ := drop_cons hq
      obtain ⟨k, a⟩ := kv
      obtain ⟨u, hu1, hu2⟩ := r1.at hx
      have ho := (S1.hidd _ _ (upd_same hid' s.heap.objs.size (HC.raw o))).1
      refine wpAny_pyNext_values_item ⟨o, ho, hc, by rw [hl']; exact hd'⟩ D' hu1 fun h' hit hs => ⟨u, rfl, ?_⟩
      obtain ⟨o', ho', hc', hd''⟩ := hit
      refine letOwned_other (nm := "dict_valueiterator") ho' hc' (by decide) ?_
      have S2 := S1.setH (s' := { s₁ with heap := h' }) (upd_same hid' s.heap.objs.size (HC.raw o)) hs ho' rfl rfl
      rw [upd_upd] at S2
      refine K1 _ _ [o'] _ (.refl _) ⟨i + 1, o', rfl, hc', by rw [← hl']; exact hd'', by rw [hr']; exact hr2⟩ S2 ?_
      rw [← hr1]; exact hu2
  · rintro l' os A' L' outer' h₁ s₁ st₁ hid' E' P' ⟨i, o, rfl, hc, hd', hr⟩ hf S1 hP
    exact wpAny_pyIter_valiter ⟨o, (S1.hidd _ _ (upd_same hid' s.heap.objs.size (HC.raw o))).1, hc, hd'⟩ hP
  · rintro os A' L' outer' h₁ s₁ st₁ hid' E' P' ⟨i, o, rfl, hc, hd', hr⟩ hh hf S1 kk hG K1
    replace S1 : Sat p L' outer' h₁ s₁ st₁ (upd hid' s.heap.objs.size (.raw o)) := S1
    obtain ⟨ds', D', r1, z'⟩ := (S1.obj _ _ hG).1
    have hl' := r1.length
    have ho := (S1.hidd _ _ (upd_same hid' s.heap.objs.size (HC.raw o))).1
    have hn : ds'[i]? = none := by
      have : es.drop i = [] := by simpa using hr
      rw [List.drop_eq_nil_iff] at this
      rw [List.getElem?_eq_none_iff]; (first | lia | omega)
    refine wpAny_pyNext_values_end hh ⟨o, ho, hc, by rw [hl']; exact hd'⟩ D' hn fun h' hs => ⟨rfl, ?_⟩
    obtain ⟨S2, u⟩ := S1.unhide (hf _ (.head _))
    exact K1 _ _ (.refl _) (S2.extB (s' := { s₁ with heap := h' }) u hs rfl rfl)

/-! bool of a list -/
theorem meets_bool_list (l : Addr) (vs : List Value) (k : Nat) (hz : vs.length ≤ 16777216) :
    Meets (Builtin.«bool.__new__» ⟨[.type "bool", .ref l], []⟩) (fun _ R s => s.heap.get? l = some (lstObj vs k) ∧ R (.ok (.ret (.bool (!vs.toArray.isEmpty)))) { s with toks := s.toks + 1 + 1 }) :=
  Meets.of_wp fun prog w A R s hs => by
    obtain ⟨hp, g, d, tk, os⟩ := s
    obtain ⟨hl, hs⟩ := hs
    have f1 := F.conv_sub_bool
    have hfit : (vs.toArray.size : Int) < 2 ^ 63 := by rw [List.size_toArray]; (first | lia | omega)
    have hL : Heap.IsList hp l vs.toArray := lst_is hl
    repeat (any_goals (first | assumption | (with_reducible refine wpAny_truthy_list hL hfit ?_) | wp_step))
    all_goals first | exact ⟨_, rfl, hs⟩ | exact hs | skip
theorem call_boolL {a : AV} {l : List AV} {Q : AV → St → Prop} (hl : IsL st.σ a l) (h : Q (.bool (!l.isEmpty)) st) (hz : l.length ≤ 16777216) : CW p n b env (.type "bool") [a] Q X st :=
  GF.mk fun _ _ _ s _ _ _ S hv => by
    obtain ⟨v, rfl, hv1⟩ := hv.one
    obtain ⟨y, vs, k, rfl, e, r⟩ := hl.at S hv1
    have hlen := r.length
    refine call_bool_1 (meets_bool_list y vs k (by rw [hlen]; exact hz)) ⟨e, rfl, ?_⟩
    have : (!vs.toArray.isEmpty) = !l.isEmpty := by cases l <;> cases vs <;> simp_all
    rw [this]
    exact NP.mk (S.of_eq rfl rfl rfl) (.refl _) (.bool _) h

/-! a method of an own class, with a rest of arguments -/
theorem evalArgs_any {M : Model} {A : Around} {E : Value → Shared → Prop} {s : Shared} {f : Value} {x y : Sem Value} {c : Bool} {Q : Args → Shared → Prop}
    (h : wpAny M A (spliced [(false, x), (c, y)]) (fun vs s₁ => Q ⟨vs, []⟩ s₁) E s) : wpAny M A (evalArgs f true [(false, x), (c, y)] []) Q E s := by
  unfold evalArgs
  show wpAny M A (spliced [(false, x), (c, y)] >>= _) Q E s
  refine wpAny_bind (wpAny_mono h (fun vs s₁ h₁ => wpAny_bind (wpAny_pure ?_)) fun _ _ e => e)
  refine wpAny_holding ?_
  exact wpAny_bind (wpAny_pure (wpAny_bind (wpAny_pure (wpAny_pure h₁))))
theorem spliced_star {M : Model} {A : Around} {E : Value → Shared → Prop} {s : Shared} {x : Sem Value} {Q : List Value → Shared → Prop}
    (h : wpAny M A x (fun v s₁ => wpAny M A (notIterableAtAll v) (fun c s₂ => c = false ∧ wpAny M A (collect v) Q E s₂) E s₁) E s) : wpAny M A (spliced [(true, x)]) Q E s := by
  unfold spliced
  refine wpAny_bind (wpAny_mono h (fun v s₁ h₁ => ?_) fun _ _ e => e)
  simp only [if_true]
  refine wpAny_bind (wpAny_mono h₁ (fun c s₂ ⟨hc, h₂⟩ => ?_) fun _ _ e => e)
  subst hc
  simp only [Bool.false_eq_true, if_false]
  refine wpAny_bind (wpAny_mono h₂ (fun vs s₃ h₃ => ?_) fun _ _ e => e)
  exact wpAny_bind (wpAny_holding (spliced_nil (wpAny_pure (by simpa using h₃))))
theorem iterable_list {M : Model} {A : Around} {E : Value → Shared → Prop} {s : Shared} {l : Addr} {vs : List Value} {k : Nat} {Q : Bool → Shared → Prop} (hl : s.heap.get? l = some (lstObj vs k)) (h : Q false s) : wpAny M A (notIterableAtAll (.ref l)) Q E s := by
  unfold notIterableAtAll
  refine wpAny_bind (wpAny_specialOf (T := "list") ⟨_, hl, rfl⟩ F.slot_list_iter.lookup ?_)
  exact wpAny_pure h

theorem EW.callStar {o e₁ e₂ : Expr} {name : Str} {apos spos pos : Pos} {x C dx f : Addr} {Q : AV → St → Prop} (hC : KCls p C) (hm : KMeth p C name f)
    (H : EW p n b env o (fun a st1 => a = .ref x ∧ (∃ es ep, st1.σ x = some (.inst C dx) ∧ st1.σ dx = some (.dict es ep) ∧ aget es name = none) ∧
      EW p n b env e₁ (fun c st2 => EW p n b env e₂ (fun d st3 => ∃ l, IsL st3.σ d l ∧ l.length ≤ 1000 ∧ CC p n b env (.ref f) (.ref x :: c :: l) Q X st3) X st2) X st1) X st)
    (he : eval (.Call (.Attribute o name apos) [e₁, .Starred e₂ spos] [] pos) env = (do
      let ov ← eval o env
      standAt apos.atName
      let (f, first) ← holding [ov] (do pure (← getAttr ov name true, []))
      callWith pos f first [(false, eval e₁ env), (true, do let v ← eval e₂ env; standAt pos; pure v)] []) := by rfl) : EW p n b env (.Call (.Attribute o name apos) [e₁, .Starred e₂ spos] [] pos) Q X st :=
  GW.mk fun A outer h₀ s hid hA S => by
    rw [he]
    refine wpAny_bind (H.use hA S (.refl _) fun v s1 h1 a st1 k1 _ S1 hv hq => wpAny_bind (wpAny_standAt (wpAny_bind (wpAny_holding (wpAny_bind ?_)))))
    obtain ⟨rfl, ⟨es, ep, q1, q2, q3⟩, H1⟩ := hq
    cases hv
    obtain ⟨od, ds, I, ho, D, r, hl⟩ := inst_at S1 q1 q2
    have hfo := hm.bind od (fun nm => ⟨_, hl nm⟩) ((hl name).trans (by rw [(r.get name).2 q3]))
    refine get_bind S1.inK I hC.ga hfo hC.gm (wpAny_call (fn_get (s := { s1 with toks := s1.toks + 1 }) S1.inK hm.type (handed_on rfl ?_)))
    obtain ⟨h2, k12, S2, e2⟩ := S1.pushF (s' := { s1 with heap := s1.heap.push (methodObj (.ref f) (.ref x)), toks := s1.toks + 1 }) (methodObj (.ref f) (.ref x)) rfl rfl rfl rfl
    refine wpAny_pure ?_
    dsimp only
    unfold callWith
    refine wpAny_bind (wpAny_holding (evalArgs_any (spliced_cons (H1.use hA S2 (k1.trans k12) fun u s3 h3 c st3 k3 k23 S3 hu H3 => ?_))))
    refine spliced_star (wpAny_bind (H3.use hA S3 k3 fun w s4 h4 d st4 k4 k34 S4 hw ⟨l, hl4, hz, H4⟩ => wpAny_bind (wpAny_standAt (wpAny_pure ?_))))
    obtain ⟨y, vs, k, rfl, e4, r4⟩ := hl4.at S4 hw
    refine iterable_list e4 ⟨rfl, wpAny_collect_seq y (.inl rfl) e4 rfl rfl (fun h5 hk5 => ?_) (by rw [List.size_toArray, r4.length, sizeLine_val]; (first | lia | omega))⟩
    have S5 := S4.grow (s' := { s4 with heap := h5 }) hk5 rfl S4.gens
    refine wpAny_bind (wpAny_standAt ?_)
    have hq := (k23.trans k34) _ _ e2
    have hq5 : h5.get? s1.heap.objs.size = some (methodObj (.ref f) (.ref x)) := S5.sub _ _ hq
    have hfn := hm.fn
    unfold fnIn at hfn
    split at hfn
    · rename_i oc od' fd sl ef
      have hf5 := S5.inK _ _ ef
      have L : Looks (model p.prog p.w) h5 (keeperOf (.ref s1.heap.objs.size)) .boundFrame := (Looks.ld (part := none) hq5).andThen ((Looks.ld (part := none) hf5).andThen .now)
      refine wpAny_bind (L _ _ _ _ (fun _ _ z => z) ?_)
      simp only [List.any_cons, Bool.false_or, Bool.true_or, List.any_nil, Bool.or_false]
      refine wpAny_bind (wpAny_operateT (wpAny_call (method_call (s := { s4 with heap := h5 }) hq5 ?_)))
      have := H4 A outer h4 { s4 with heap := h5 } hid (.ref x :: u :: vs) hA S5 (.cons (.ref _) (.cons (hu.mono k34) r4))
      refine codeAny_mono this fun res s6 z => ?_
      cases res with
      | error ex => exact EP.mono k4 (fun _ _ z => z) z
      | ok fl =>
        cases fl with
        | ret v =>
          obtain ⟨h6, y6, st6, k6, S6, r6, q6⟩ := z
          exact wpAny_bind (wpAny_holding (wpAny_point (wpAny_pure ⟨h6, y6, st6, k4.trans k6, S6, r6, q6⟩)))
        | _ => exact z.elim
    · cases hfn

/-! texts in braces -/
theorem EW.fstr1 {e : Expr} {pos : Pos} {Q : AV → St → Prop} (H : EW p n b env e Q X st) : EW p n b env (.JoinedStr [e] pos) Q X st :=
  GW.mk fun _ _ _ _ _ hA S => wpAny_JoinedStr_one (H _ _ _ _ _ hA S)
theorem EW.fstr3 {x : String} {c d : Str} {k1 k2 : Nat} {p1 p2 p3 np pos : Pos} {y : Str} {Q : AV → St → Prop} (hy : st.ρ x = some (.str y)) (h : Q (.str (Str.empty ++ c ++ reprText y ++ d)) st) (hz : c.length + (reprText y).length + d.length ≤ 16777216)
    (hl : env.kindOf (Str.ofString x) = some .local := by rfl) (hd : (Str.ofString x == ("__debug__" : Str)) = false := by decide +kernel) :
    EW p n b env (.JoinedStr [.Constant (.str c) k1 p1, .FormattedValue (.Name (Str.ofString x) np) 114 none p2, .Constant (.str d) k2 p3] pos) Q X st :=
  GW.mk fun _ _ _ s _ hA S => by
    have he : (Str.empty : Str).length = 0 := rfl
    refine wpAny_JoinedStr ?_
    refine Constant_str ⟨c, _, rfl, ?_, ?_⟩
    · rw [strLen_append, he, sizeLine_val]; (first | lia | omega)
    have S1 := S.of_eq (s' := { s with toks := s.toks + 1 }) rfl rfl rfl
    obtain ⟨m, hn, hm⟩ := S1.loc
    obtain ⟨u, e1, e2⟩ := hm x _ hy
    cases e2
    have fin : ∀ tk t, (NP p env.locals _ _ _ VR Q) (Value.str (Str.empty ++ c ++ reprText y ++ d) t) { s with toks := tk } := fun tk t => NP.mk (S.of_eq rfl rfl rfl) (.refl _) (.str _ _) h
    have fits : (Str.empty ++ c ++ reprText y).length ≤ sizeLine := by rw [strLen_append, strLen_append, he, sizeLine_val]; (first | lia | omega)
    have fits2 : (Str.empty ++ c ++ reprText y ++ d).length ≤ sizeLine := by rw [strLen_append, strLen_append, strLen_append, he, sizeLine_val]; (first | lia | omega)
    refine wpAny_FormattedValue_repr (wpAny_Name (wpAny_loadName_local hA.kind hl hn e1 (pyReprObj_str (wpAny_formatField_str ?_ ?_ (by rw [sizeLine_val]; (first | lia | omega))) (by rw [sizeLine_val]; (first | lia | omega)))) hd)
    · exact ⟨_, _, rfl, fits, Constant_str ⟨d, _, rfl, fits2, fits2, fin _ _⟩⟩
    · exact ⟨_, _, rfl, fits, Constant_str ⟨d, _, rfl, fits2, fits2, fin _ _⟩⟩
end

end Mine

end

section
open PySem PySem.W PyProof.Rows PySem.Calls
set_option maxRecDepth 100000
namespace Mine

/-! list(g), g a generator: g walks, whatever becomes of the list S -/
noncomputable abbrev accObj (acc : Array Value) (c : Nat) : Obj := { cls := .type "list", dict := none, data := .seq acc c, slots := #[] }
structure GWalk (prog : Program) (w : World) (A : Around) (I S : Addr) (n : Nat) (P : Nat → Value → Prop) (St : Nat → Shared → Prop) (Fi : Shared → Prop) : Prop where
  ne : S ≠ I
  put : ∀ i (s : Shared) f acc c, St i s → s.heap.get? S = some (accObj acc c) → St i { s with heap := s.heap.update S (Obj.mapSeq f) }
  type : ∀ i s, St i s → s.TypeIs (.ref I) "generator"
  self : ∀ i (s : Shared) (Q : Value → Shared → Prop) (E : Value → Shared → Prop) A', St i s → Q (.ref I) s → wpAny (model prog w) A' (pyIter (.ref I)) Q E s
  item : ∀ i (s : Shared) (Q : Option Value → Shared → Prop) (E : Value → Shared → Prop), i < n → St i s →
    (∀ v s', P i v → St (i + 1) s' → (∀ acc c, s.heap.get? S = some (accObj acc c) → s'.heap.get? S = some (accObj acc c)) → Q (some v) s') → wpAny (model prog w) A (pyNext (.ref I)) Q E s
  done : ∀ (s : Shared) (Q : Option Value → Shared → Prop) (E : Value → Shared → Prop), St n s → (∀ s', Fi s' → (∀ acc c, s.heap.get? S = some (accObj acc c) → s'.heap.get? S = some (accObj acc c)) → Q none s') → wpAny (model prog w) A (pyNext (.ref I)) Q E s

section
variable {prog : Program} {w : World} {A : Around} {R : Result → Shared → Prop} {I S : Addr} {n : Nat} {P : Nat → Value → Prop} {St : Nat → Shared → Prop} {Fi : Shared → Prop}
theorem gw_loop (W : GWalk prog w A.in1 I S n P St Fi) (hn : n ≤ 1000) (res : Value) :
    ∀ (k i : Nat) (s : Shared) (acc : Array Value) (c : Nat), n - i = k → i ≤ n → St i s → s.heap.get? S = some (accObj acc c) → ItemsOf P acc i →
    (∀ s' acc' c', Fi s' → s'.heap.get? S = some (accObj acc' c') → ItemsOf P acc' n → R (.ok (.ret res)) s') →
    codeAny (model prog w) A (.builtin "list.extend.loop" ⟨[.ref S, .ref I, res], []⟩) R s := by
  intro k
  induction k with
  | zero =>
    intro i s acc c hk hi hst hS hacc hR
    have hin : i = n := by (first | lia | omega)
    subst hin
    refine codeAny_builtin F.entry_extend_loop ?_
    rw [Around.under_plainId F.plain_extend_loop _]
    show wpAny _ A.in1 (pyNext (.ref I) >>= _) _ _ s
    refine wpAny_bind (W.done s _ _ hst fun s' hf hm => ?_)
    exact wpAny_pure (hR s' acc c hf (hm _ _ hS) hacc)
  | succ k ih =>
    intro i s acc c hk hi hst hS hacc hR
    have hlt : i < n := by (first | lia | omega)
    refine codeAny_builtin F.entry_extend_loop ?_
    rw [Around.under_plainId F.plain_extend_loop _]
    show wpAny _ A.in1 (pyNext (.ref I) >>= _) _ _ s
    refine wpAny_bind (W.item i s _ _ hlt hst fun v s' hP hst' hm => ?_)
    have hS' := hm _ _ hS
    show wpAny _ A.in1 (updateSeq S (·.push v) >>= _) _ _ _
    refine wpAny_bind ?_
    refine wpAny_updateSeq hS' rfl (wpAny_pure ⟨plainId_quiet F.plain_extend_loop _, ih (i + 1) _ (acc.push v) _ (by (first | lia | omega)) hlt (W.put _ _ _ _ _ hst' hS') (Heap.get?_update_self _ hS' rfl) (hacc.push hP) hR⟩)
      (by rw [hacc.1, sizeLine_val]; (first | lia | omega)) (by show (acc.push v).size ≤ sizeLine + 1; rw [Array.size_push, hacc.1, sizeLine_val]; (first | lia | omega))

theorem gw_extend {s : Shared} (W : GWalk prog w A.in1 I S n P St Fi) (hn : n ≤ 1000) (res : Value) (c₀ : Nat) (hst : St 0 s) (hS : s.heap.get? S = some (accObj #[] c₀))
    (hR : ∀ s' acc' c', Fi s' → s'.heap.get? S = some (accObj acc' c') → ItemsOf P acc' n → R (.ok (.ret res)) s') :
    wpAny (model prog w) A.in1 (Builtin.List.listExtendWith (.ref S) (.ref I) res)
      (fun fin s' => match fin with | .done f => R (.ok f) s' | .again c' => c'.quiet = true ∧ codeAny (model prog w) A c' R s') (fun e s' => R (.error e) s') s := by
  unfold Builtin.List.listExtendWith
  refine wpAny_bind (wpAny_typeOf (W.type 0 _ hst) ?_)
  have h1 : Builtin.List.listSameRef (.ref S) (.ref I) = false := by simp [Builtin.List.listSameRef, W.ne]
  have h2 : (Value.type "generator" == Value.type "list") = false := by decide
  have h3 : (Value.type "generator" == Value.type "tuple") = false := by decide
  simp only [h1, h2, h3, Bool.or_false, Bool.false_eq_true, if_false]
  refine wpAny_bind (W.self 0 _ _ _ _ hst ?_)
  refine wpAny_bind (wpAny_holding ?_)
  unfold Builtin.List.listLengthHint
  refine wpAny_bind (wpAny_specialOf (W.type 0 _ hst) F.gen_no_len ?_)
  show wpAny _ A.in1 (specialOf (Value.ref I) (Str.ofString "__length_hint__") >>= _) _ _ _
  refine wpAny_bind (wpAny_specialOf (W.type 0 _ hst) F.gen_no_hint ?_)
  refine wpAny_pure ?_
  show wpAny _ A.in1 (rule "list.extend.makes-room" >>= fun _ => Builtin.List.listTouch (.ref S) >>= fun _ =>
    again (.builtin "list.extend.loop" ⟨[.ref S, .ref I, res], []⟩)) _ _ _
  refine wpAny_bind (wpAny_rule ?_)
  refine wpAny_bind ?_
  show wpAny _ A.in1 (updateSeq S (·.push .none) >>= fun _ => updateSeq S (·.pop)) _ _ _
  refine wpAny_bind (wpAny_updateSeq hS rfl ?_)
  have hS₂ := Heap.get?_update_self (Obj.mapSeq (·.push Value.none)) hS rfl
  refine wpAny_updateSeq (hz := by seq_fits) hS₂ rfl ?_
  have hS₃ := Heap.get?_update_self (Obj.mapSeq (·.pop)) hS₂ rfl
  exact wpAny_pure ⟨plainId_quiet F.plain_extend_loop _, gw_loop W hn _ n 0 _ _ _ rfl (Nat.zero_le _) (W.put _ _ _ _ _ (W.put _ _ _ _ _ hst hS) hS₂) hS₃ (ItemsOf.nil P) hR⟩

theorem gw_init {s : Shared} (W : GWalk prog w A.in1 I S n P St Fi) (hn : n ≤ 1000) (hst : St 0 s) (hS : s.heap.get? S = some { cls := .type "list", data := .seq #[] })
    (hR : ∀ s' acc' c', Fi s' → s'.heap.get? S = some (accObj acc' c') → ItemsOf P acc' n → R (.ok (.ret .none)) s') :
    wpAny (model prog w) A.in1 (Builtin.«list.__init__» ⟨[.ref S, .ref I], []⟩)
      (fun fin s' => match fin with | .done f => R (.ok f) s' | .again c' => c'.quiet = true ∧ codeAny (model prog w) A c' R s') (fun e s' => R (.error e) s') s := by
  show wpAny _ A.in1 (do let old ← Builtin.List.listItems (.ref S); Builtin.List.listUpdate (.ref S) (fun _ => #[]); letGo old.toList.reverse; Builtin.List.listExtendWith (.ref S) (.ref I) .none) _ _ s
  refine wpAny_bind ?_
  unfold Builtin.List.listItems
  refine wpAny_bind (wpAny_seqItems hS rfl (wpAny_pure ?_))
  show wpAny _ A.in1 (updateSeq S (fun _ => #[]) >>= fun _ => letGo (#[] : Array Value).toList.reverse >>= fun _ => Builtin.List.listExtendWith (.ref S) (.ref I) .none) _ _ s
  refine wpAny_bind (wpAny_updateSeq hS rfl ?_)
  have hS₂ := Heap.get?_update_self (Obj.mapSeq (fun _ => (#[] : Array Value))) hS rfl
  refine wpAny_bind (wpAny_letGo ?_)
  exact gw_extend W hn .none _ (W.put _ _ _ _ _ hst hS) hS₂ hR
end

theorem gw_list {prog : Program} {w : World} {A : Around} {E : Value → Shared → Prop} {s : Shared} {I : Addr} {n : Nat} {P : Nat → Value → Prop} {St : Nat → Shared → Prop} {Fi : Shared → Prop} {Q : Value → Shared → Prop}
    (W : GWalk prog w A.in1.in1 I s.heap.objs.size n P St Fi) (hn : n ≤ 1000) (hst : St 0 { s with heap := s.heap.push { cls := .type "list", data := .seq #[] } })
    (hQ : ∀ s' acc' c', Fi s' → s'.heap.get? s.heap.objs.size = some (accObj acc' c') → ItemsOf P acc' n → Q (.ref s.heap.objs.size) s') :
    wpAny (model prog w) A (call (.type "list") [.ref I]) Q E s := by
  refine callType_codes (Q₁ := fun obj s₁ => obj = .ref s.heap.objs.size ∧ s₁ = { s with heap := s.heap.push { cls := .type "list", data := .seq #[] } }) F.called_list (F.typeCall_list_1 _) F.entry_list_init
    (code_list_new _ ⟨rfl, rfl⟩) fun obj s₁ h₁ => ?_
  obtain ⟨rfl, rfl⟩ := h₁
  have hS : (s.heap.push { cls := .type "list", data := .seq #[] }).get? s.heap.objs.size = some { cls := .type "list", data := .seq #[] } := Heap.get?_push_size _ rfl
  exact ⟨⟨_, hS, rfl⟩, F.args_list_init_2 _ _, gw_init W hn hst hS fun s' acc' c' hf hS' hacc => ⟨rfl, hQ s' acc' c' hf hS' hacc⟩⟩

/-! the trees of a generator -/
section
variable {prog : Program} {w : World} {A : Around} {R : GenEnd} {Y : Protocol} {n : Nat} {s₀ : Shared} {c : Code} {fs : List Frame} {s : Shared} {env : Env} {K : Flow → Sem Fin} {H : Value → Sem Fin} {gd : Bool → Bool} {lv : List Value → List Value}

theorem seg_If {test : Expr} {body orelse : List Stmt} {pos : Pos}
    (h : wpAny (model prog w) (A.over c fs) (isTrue test env (eval test env)) (fun b s' => if b = true then Seg (model prog w) A R Y n s₀ c ((execs body env).wrap K H gd lv) fs s' else Seg (model prog w) A R Y n s₀ c ((execs orelse env).wrap K H gd lv) fs s')
      (fun _ _ => False) s) : Seg (model prog w) A R Y n s₀ c ((exec (.If test body orelse pos) env).wrap K H gd lv) fs s := by
  have e : exec (.If test body orelse pos) env = (do
    standAt pos
    if ← isTrue test env (eval test env) then execs body env else execs orelse env) := rfl
  rw [e]
  refine seg_bind_wrap (wpAny_standAt ?_)
  refine seg_bind_wrap (wpAny_mono h (fun b s' hb => ?_) fun _ _ z => z.elim)
  cases b with
  | true => exact hb
  | false => exact hb

theorem seg_For {target iter : Expr} {body orelse : List Stmt} {pos : Pos}
    (h : wpAny (model prog w) (A.over c fs) (eval iter env) (fun x s' => wpAny (model prog w) (A.over c fs) (pyIter x) (fun it s'' => ∀ p,
      Seg (model prog w) A R Y n s₀ (.forLoop target it body orelse env) ((model prog w).den (.forLoop target it body orelse env))
      (.ret (fun r => ((match r with | .ok f => (.pure f : Sem Flow) | .error e => .raise e).onRaise fun (x : Value) => do
        if (← field x 1) == Value.none then unsupported "frame.own-activation:exception-without-traceback"
        setFlight x env.frame).wrap K H gd lv) none (gd false) (lv []) c p [] :: fs) s'') (fun _ _ => False) s') (fun _ _ => False) s)
    (hs : ∀ x, foldedSetIterable iter env x = pure x := by intro _; rfl) : Seg (model prog w) A R Y n s₀ c ((exec (.For target iter body orelse pos) env).wrap K H gd lv) fs s := by
  rw [exec_For]
  refine seg_bind_wrap (wpAny_standAt ?_)
  refine seg_bind_wrap (wpAny_mono h (fun x s' hx => ?_) fun _ _ z => z.elim)
  refine seg_bind_wrap (wpAny_of_eq (hs x) ?_)
  refine seg_bind_wrap (wpAny_standAt ?_)
  refine seg_bind_wrap (wpAny_holding (wpAny_mono hx (fun it s'' hit => ?_) fun _ _ z => z.elim))
  exact seg_call hit

theorem seg_forLoop {target : Expr} {it : Value} {body orelse : List Stmt}
    (h : wpAny (model prog w) (A.over (.forLoop target it body orelse env) fs) (pyNext it) (fun r s' => match r with
        | none => Seg (model prog w) A R Y n s₀ (.block orelse env) ((model prog w).den (.block orelse env)) fs s'
        | some v => wpAny (model prog w) (A.over (.forLoop target it body orelse env) fs) (letOwnedTupleGo target it v) (fun _ s₁ => wpAny (model prog w) (A.over (.forLoop target it body orelse env) fs) (PySem.assign target env v) (fun _ s₂ =>
            Seg (model prog w) A R Y n s₀ (.forLoop target it body orelse env) ((execs body env).wrap (fun f => match f with
            | .next | .cont => .pure (.again (.forLoop target it body orelse env))
            | .brk => .pure (.done .next)
            | .ret v => .pure (.done (.ret v))) (fun e => (do noteFrame e env; theTreesLotGoes e : Sem Unit).wrap (fun _ => .raise e) .raise id id) id id) fs s₂) (fun _ _ => False) s₁) (fun _ _ => False) s')
      (fun _ _ => False) s) :
    Seg (model prog w) A R Y n s₀ (.forLoop target it body orelse env) ((model prog w).den (.forLoop target it body orelse env)) fs s := by
  show Seg _ A R Y n s₀ _ ((forTurn target it body orelse env).onRaise (fun x => do noteFrame x env; theTreesLotGoes x)) fs s
  unfold forTurn
  rw [Sem.onRaise_eq_wrap]
  refine seg_bind_wrap (wpAny_standAt ?_)
  refine seg_bind_wrap (wpAny_onRaise (wpAny_mono h (fun r s' hr => ?_) fun _ _ z => z.elim))
  cases r with
  | none => exact seg_again rfl hr
  | some v =>
    refine seg_bind_wrap (wpAny_mono hr (fun _ s₁ h₁ => ?_) fun _ _ z => z.elim)
    refine seg_bind_wrap (wpAny_mono h₁ (fun _ s₂ h₂ => ?_) fun _ _ z => z.elim)
    rw [Sem.bind_eq_wrap', Sem.wrap_wrap]
    rw [Sem.wrap_congr (execs body env) _ _ (K' := fun f => match f with
            | .next | .cont => .pure (.again (.forLoop target it body orelse env))
            | .brk => .pure (.done .next)
            | .ret v => .pure (.done (.ret v))) (H' := (fun e => (do noteFrame e env; theTreesLotGoes e : Sem Unit).wrap (fun _ => .raise e) .raise id id))
        (fun f => by cases f <;> rfl) (fun e => by first | exact Sem.bind_eq_wrap _ _ | (show (do noteFrame e env; theTreesLotGoes e : Sem Unit).bind (fun _ => .raise e) = _; rw [Sem.bind_eq_wrap]))]
    exact h₂
theorem seg_block_nil {k : Result → Sem Fin} {h : Option Value} {g : Bool} {l : List Value} {c₁ : Code} {p₁ : Pos} {kp : List Value} (hk : Seg (model prog w) A R Y n s₀ c₁ (k (.ok .next)) fs s) :
    Seg (model prog w) A R Y n s₀ (.block [] env) ((model prog w).den (.block [] env)) (.ret k h g l c₁ p₁ kp :: fs) s := by
  exact seg_leaf (.ok .next) hk
end

end Mine

end

section
open PySem PySem.W PyProof.Rows PySem.Calls
set_option maxRecDepth 100000
namespace Mine

theorem pyNext_genQ {prog : Program} {w : World} {A : Around} {E : Value → Shared → Prop} {s : Shared} {a : Addr} {g n : Nat} {gs : GenState} {P : Nat → Shared → Shared → Prop} {Y : Protocol} {Q : Option Value → Shared → Prop} (hh : A.handled = none)
    (hl : s.heap.NoLimit) (hroom : A.depth < recursionLimit) (hg : s.heap.IsGen a g) (hgs : s.gens[g]? = some gs)
    (hgo : gs.Goes (model prog w) A.in1 (fun n s₀ r s₁ => r = .ok (.ret .none) ∧ P n s₀ s₁) Y n (.send .none) (s.setGen g .running))
    (hY : ∀ v s₁ gs', gs'.bare = true → Y (n - 1) (s.setGen g .running) v s₁ (fun r' s'' => match n with
        | 0 => False
        | m + 1 => gs'.Goes (model prog w) A.in1 (fun n s₀ r s₁ => r = .ok (.ret .none) ∧ P n s₀ s₁) Y m r' s'') → Q (some v) (s₁.setGen g gs'))
    (hP : ∀ s₁, P n (s.setGen g .running) s₁ → ∀ h', (∀ b o, s₁.heap.get? b = some o → h'.get? b = some o) → Q none { s₁.setGen g .finished with heap := h' }) :
    wpAny (model prog w) A (pyNext (.ref a)) Q E s := by
  unfold pyNext
  refine wpAny_bind (wpAny_attempt (wpAny_callSpecial?_slot (name := Str.ofString "__next__") hg.typeIs slot_gen_next
    (wpAny_call_entry slot_gen_next hg.typeIs entry_gen_next ?_ (args_gen_next _))))
  show wpAny _ A.in1 (Builtin.Generator.genWake (.ref a) (.send .none)) _ _ s
  unfold Builtin.Generator.genWake
  refine wpAny_bind (wpAny_holding (wpAny_genNumber hg (wpAny_bind (wpAny_genState hgs ?_))))
  cases gs with
  | running => exact hgo.elim
  | finished => exact hgo.elim
  | _ =>
    refine wpAny_bind (wpAny_roomToWake hl hroom ?_)
    show wpAny _ A.in1 (.resume g (.send .none) [] _) _ _ s
    refine wpAny_resumeQ hgs hgo (fun x s₁ hx => ?_) (fun v s₁ gs' hb hv => ?_)
    · obtain ⟨rfl, hp⟩ := hx
      show wpAny _ A.in1 (newExc (.type "StopIteration") [] >>= _) _ _ _
      refine wpAny_bind ?_
      simp only [newExc, newTuple]
      refine wpAny_bind (wpAny_newObj_type ?_ (by size_fits))
      refine wpAny_bind (m := firstArgMember _ _) (wpAny_of_eq (a := Value.none) (by first | rfl | (simp only [firstArgMember]; rfl)) ?_)
      refine wpAny_newObj_type ?_ (by size_fits)
      simp only [raiseNew]
      refine wpAny_bind (wpAny_bind (wpAny_handled ?_))
      first | rw [show A.in1.handled = none from hh] | rw [hh]
      refine wpAny_throw ?_
      refine wpAny_bind (wpAny_isInstance (T := "StopIteration") (b := true) ⟨_, Heap.get?_push_size _ rfl, rfl⟩ isSubtype_stop ?_)
      exact wpAny_pure (hP s₁ hp _ fun b o hb => Heap.get?_push_of_some _ (Heap.get?_push_of_some _ hb))
    · exact wpAny_pure ⟨v, rfl, wpAny_pure (hY v s₁ gs' hb hv)⟩

section
variable {p : PC} {n : Nat} {env : Env} {A : Around} {outer : List Env} {body : List Stmt}
/-- where a generator's trees stand -/
structure GOK (n : Nat) (A : Around) (outer : List Env) : Prop where
  frames : A.frames = some outer
  handled : A.handled = none
  depth : A.depth + 20 * (n + 1) ≤ 900
  units : A.units + 100 * (n + 1) ≤ 9000
theorem GOK.func (hA : GOK n A outer) (hk : env.scope.kind = .function) (hf : env.frame = some env.locals) (hg : env.globals = mainGlobals) (hb : env.builtins = builtinsNs) : AOK n .body (A.over (.func body env) []) env outer := by
  refine ⟨?_, fun _ => hA.handled, ?_, ?_, hk, fun _ => hf, hg, hb⟩
  · show pushEnvs [env] (pushEnvs [] A.frames) = _
    rw [hA.frames]; rfl
  · have := hA.depth
    show A.depth + 0 + (Code.func body env).weight + 20 * n ≤ 900
    have e : (Code.func body env).weight = 1 := rfl
    (first | lia | omega)
  · have := hA.units
    show A.units + 0 + (Code.func body env).cUnits + 100 * n ≤ 9000
    have e : (Code.func body env).cUnits = 3 := rfl
    (first | lia | omega)
theorem GOK.loop (hA : GOK n A outer) (hk : env.scope.kind = .function) (hf : env.frame = some env.locals) (hg : env.globals = mainGlobals) (hb : env.builtins = builtinsNs) {target : Expr} {it : Value} {b1 b2 : List Stmt} {k : Result → Sem Fin} {g : Bool} {l kp : List Value} {q : Pos} :
    AOK n .body (A.over (.forLoop target it b1 b2 env) [.ret k none g l (.func body env) q kp]) env outer := by
  refine ⟨?_, fun _ => ?_, ?_, ?_, hk, fun _ => hf, hg, hb⟩
  · show pushEnvs [] (pushEnvs [env] A.frames) = _
    rw [hA.frames]; rfl
  · have : (A.over (.forLoop target it b1 b2 env) [.ret k none g l (.func body env) q kp]).handled = A.handled := by
      show markOver none A.handled A.handled = A.handled
      rw [hA.handled]; rfl
    rw [this]; exact hA.handled
  · have := hA.depth
    show A.depth + frameCount [(Code.func body env, q)] + (Code.forLoop target it b1 b2 env).weight + 20 * n ≤ 900
    have e : frameCount [(Code.func body env, q)] = 1 := rfl
    have e2 : (Code.forLoop target it b1 b2 env).weight = 0 := rfl
    (first | lia | omega)
  · have := hA.units
    show A.units + unitsOf [(Code.func body env, q)] + (Code.forLoop target it b1 b2 env).cUnits + 100 * n ≤ 9000
    have e : unitsOf [(Code.func body env, q)] = 3 := rfl
    have e2 : (Code.forLoop target it b1 b2 env).cUnits = 0 := rfl
    (first | lia | omega)
end

/-! the generator's states -/
section
variable (p : PC) (L : Addr) (outer : List Env) (hB : Heap) (σ : Addr → Option AObj) (hidC : Hid) (Sa : Addr) (items : List Str)
noncomputable def GR : GenEnd := fun n s₀ r s₁ => r = .ok (.ret .none) ∧ (n = 0 ∧ ∃ oS h, ∃ st' : St, s₀.heap.get? Sa = some oS ∧ Sub hB h ∧ st'.σ = σ ∧ Sat p L outer h s₁ st' (upd hidC Sa (.raw oS)))
noncomputable def GY : Protocol := fun m s₀ v s kap => ∃ x t oS h st' hd, v = .str x t ∧ items[items.length - 1 - m]? = some x ∧ s₀.heap.get? Sa = some oS ∧ Sub hB h ∧ hd Sa = none ∧ Ext hidC hd ∧ Sat p L outer h s st' (upd hd Sa (.raw oS)) ∧
  ∀ s'' h'' oS', Sub h h'' → Sat p L outer h'' s'' st' (upd hd Sa (.raw oS')) → kap (.send .none) s''
noncomputable def GSt (A : Around) (g : Nat) (i : Nat) (s : Shared) : Prop := ∃ gs h st' hd oS, s.gens[g]? = some gs ∧ Sub hB h ∧ hd Sa = none ∧ Ext hidC hd ∧ Sat p L outer h s st' (upd hd Sa (.raw oS)) ∧
  ∀ s'' h'' oS', Sub h h'' → Sat p L outer h'' s'' st' (upd hd Sa (.raw oS')) → gs.Goes (model p.prog p.w) A.in1 (GR p L outer hB σ hidC Sa) (GY p L outer hB hidC Sa items) (items.length - i) (.send .none) s''
noncomputable def GFi (s : Shared) : Prop := ∃ oS h st', Sub hB h ∧ st'.σ = σ ∧ Sat p L outer h s st' (upd hidC Sa (.raw oS))
end

/-- the same top, with so many generators -/
noncomputable def PC.gens (p : PC) (N : Nat) : PC := { p with gp := fun gens => AllBare gens ∧ gens.size = N }
theorem bare_set {p : PC} {N : Nat} {g : Nat} {x : GenState} {s : Shared} (h : (p.gens N).gp s.gens) (hx : x.bare = true) : (p.gens N).gp (s.setGen g x).gens := by
  refine ⟨?_, by simpa [Shared.setGen] using h.2⟩
  replace h := h.1
  intro y hy
  unfold Shared.setGen at hy
  rcases Array.mem_or_eq_of_mem_setIfInBounds hy with h1 | h1
  · exact h y h1
  · rw [h1]; exact hx

section
variable {p : PC} {n : Nat} {L : Addr} {outer : List Env} {hB : Heap} {σ : Addr → Option AObj} {hidC : Hid} {Sa I : Addr} {items : List Str} {A : Around} {g N : Nat} {nm qn : Value}
theorem gen_walk (hne : Sa ≠ I) (hI : hidC I = some (.raw { cls := .type "generator", data := .fields #[.int g 0, nm, qn] })) (hSn : hidC Sa = none) (hh : A.handled = none) (hroom : A.depth < recursionLimit) (hN : g < N) :
    GWalk p.prog p.w A I Sa items.length (fun i v => ∃ x t, v = .str x t ∧ items[i]? = some x) (GSt (p.gens N) L outer hB σ hidC Sa items A g) (GFi (p.gens N) L outer hB σ hidC Sa) := by
  have gen : ∀ {h s st' hd oS}, Ext hidC hd → Sat (p.gens N) L outer h s st' (upd hd Sa (.raw oS)) → s.heap.IsGen I g := fun {h s st' hd oS} hx S => by
    have e : upd hd Sa (.raw oS) I = some (.raw { cls := .type "generator", data := .fields #[.int g 0, nm, qn] }) := by
      rw [upd_ne _ _ hne.symm]; exact hx _ _ hI
    exact ⟨_, nm, qn, (S.hidd _ _ e).1, rfl, rfl, rfl⟩
  have old : ∀ {h s st' hd oS}, Sat (p.gens N) L outer h s st' (upd hd Sa (.raw oS)) → s.heap.get? Sa = some oS := fun S => (S.hidd _ _ (upd_same ..)).1
  refine ⟨hne, ?_, ?_, ?_, ?_, ?_⟩
  · rintro i s f acc c ⟨gs, h, st', hd, oS, hgs, hk, hn, hx, S, K⟩ hS
    have S2 := S.setH (s' := { s with heap := s.heap.update Sa (Obj.mapSeq f) }) (upd_same hd Sa (HC.raw oS)) (Heap.SameBut.update ..) (Heap.get?_update_self (Obj.mapSeq f) hS rfl) rfl rfl
    rw [upd_upd] at S2
    exact ⟨gs, h, st', hd, _, hgs, hk, hn, hx, S2, K⟩
  · rintro i s ⟨gs, h, st', hd, oS, hgs, hk, hn, hx, S, K⟩
    exact (gen hx S).typeIs
  · rintro i s Q E A' ⟨gs, h, st', hd, oS, hgs, hk, hn, hx, S, K⟩ hQ
    exact wpAny_pyIter_gen (gen hx S) hQ
  · rintro i s Q E hi ⟨gs, h, st', hd, oS, hgs, hk, hn, hx, S, K⟩ hQ
    obtain ⟨m, hm⟩ : ∃ m, items.length - i = m + 1 := ⟨items.length - i - 1, by (first | lia | omega)⟩
    rw [hm] at K
    have Sr : Sat (p.gens N) L outer h (s.setGen g .running) st' (upd hd Sa (.raw oS)) := ⟨S.base, S.sub, S.loc, S.locF, S.locS, S.locH, S.obj, S.hidd, S.out, S.os, bare_set S.gens rfl⟩
    refine pyNext_genQ (P := fun n s₀ s₁ => n = 0 ∧ ∃ oS h, ∃ st' : St, s₀.heap.get? Sa = some oS ∧ Sub hB h ∧ st'.σ = σ ∧ Sat (p.gens N) L outer h s₁ st' (upd hidC Sa (.raw oS))) (Y := GY (p.gens N) L outer hB hidC Sa items) hh (p.hT.nolimit.keeps (S.base.trans S.sub)) hroom (gen hx S) hgs (K _ h oS (.refl _) Sr) (fun v s₁ gs' hb hv => ?_) (fun s₁ hp h' hk => ?_)
    · obtain ⟨x, t, oS1, h1, st1, hd1, rfl, hxi, ho, hk1, hn1, hx1, S1, K1⟩ := hv
      have e1 : items.length - 1 - (m + 1 - 1) = i := by (first | lia | omega)
      rw [e1] at hxi
      refine hQ _ _ ⟨x, t, rfl, hxi⟩ ⟨gs', h1, st1, hd1, oS1, ?_, hk1, hn1, hx1, ⟨S1.base, S1.sub, S1.loc, S1.locF, S1.locS, S1.locH, S1.obj, S1.hidd, S1.out, S1.os, bare_set S1.gens hb⟩, fun s'' h'' oS' k'' S'' => ?_⟩ fun acc c hS => ?_
      · have hz := S1.gens.2
        have : g < s₁.gens.size := by rw [hz]; exact hN
        simp [Shared.setGen, this]
      · have e2 : items.length - (i + 1) = m := by (first | lia | omega)
        rw [e2]
        exact K1 s'' h'' oS' k'' S''
      · have : oS1 = accObj acc c := Option.some.inj (ho.symm.trans hS)
        rw [← this]; exact (show s₁.heap.get? Sa = some oS1 from old S1)
    · exact absurd hp.1 (Nat.succ_ne_zero m)
  · rintro s Q E ⟨gs, h, st', hd, oS, hgs, hk, hn, hx, S, K⟩ hQ
    rw [Nat.sub_self] at K
    have Sr : Sat (p.gens N) L outer h (s.setGen g .running) st' (upd hd Sa (.raw oS)) := ⟨S.base, S.sub, S.loc, S.locF, S.locS, S.locH, S.obj, S.hidd, S.out, S.os, bare_set S.gens rfl⟩
    refine pyNext_genQ (P := fun n s₀ s₁ => n = 0 ∧ ∃ oS h, ∃ st' : St, s₀.heap.get? Sa = some oS ∧ Sub hB h ∧ st'.σ = σ ∧ Sat (p.gens N) L outer h s₁ st' (upd hidC Sa (.raw oS))) (Y := GY (p.gens N) L outer hB hidC Sa items) hh (p.hT.nolimit.keeps (S.base.trans S.sub)) hroom (gen hx S) hgs (K _ h oS (.refl _) Sr) (fun v s₁ gs' hb hv => ?_) (fun s₁ hp h' hk => ?_)
    · obtain ⟨x, t, oS1, h1, st1, hd1, rfl, hxi, ho, hk1, hn1, hx1, S1, K1⟩ := hv
      exact (K1 s₁ h1 oS1 (.refl _) S1).elim
    · obtain ⟨_, oS1, h1, st1, ho, hk1, hσ, S1⟩ := hp
      refine hQ _ ⟨oS1, h1, st1, hk1, hσ, (Sat.grow (s' := { s₁.setGen g .finished with heap := h' }) S1 hk rfl (bare_set S1.gens rfl))⟩ fun acc c hS => ?_
      have : oS1 = accObj acc c := Option.some.inj (ho.symm.trans hS)
      exact hk _ _ (by rw [← this]; exact old S1)
end

end Mine

end

section
open PySem PySem.W PyProof.Rows PySem.Calls
set_option maxRecDepth 100000
namespace Mine

section
variable {p : PC} {n : Nat} {env : Env} {A : Around} {outer : List Env} {body : List Stmt} {hB hs : Heap} {σ : Addr → Option AObj} {hidC : Hid} {Sa : Addr} {items : List Str}

/-- the loop of a generator: for x in ..: if test: yield e -/
theorem gen_loop {x : String} {tp ip yp ep q : Pos} {test e : Expr} {F : Str → Option Str} {D : Str → Prop} {Inv : St → Prop} {it : Value} {as : List Addr} {G : (Addr → Option AObj) → Prop} {J : List AV → List Obj → Prop} {kF : Result → Sem Fin} {l kp : List Value}
    (hA : GOK n A outer) (hk : env.scope.kind = .function) (hf : env.frame = some env.locals) (hg : env.globals = mainGlobals) (hb : env.builtins = builtinsNs) (hco : env.scope.isCoroutine = false) (hx : env.kindOf (Str.ofString x) = some .local) (hi : interactive env = false)
    (hset : ∀ st y, Inv st → Inv (st.set x (.str y)))
    (htest : ∀ st y, D y → Inv st → st.ρ x = some (.str y) → TW p n .body env test (fun c st1 => c = (F y).isSome ∧ st1 = st) (fun _ _ => False) st)
    (helt : ∀ st y z, D y → Inv st → st.ρ x = some (.str y) → F y = some z → EW p n .body env e (fun a st1 => a = .str z ∧ st1 = st) (fun _ _ => False) st)
    (hσ : ∀ st, Inv st → st.σ = σ) (hG : ∀ st, Inv st → G st.σ) (I : ItrOK p (.Name (Str.ofString x) tp) it as hs G J) (hSn : hidC Sa = none) (has : ∀ a ∈ as, hidC a = none) (hSas : Sa ∉ as)
    (hEnd : ∀ s₀ s, GR p env.locals outer hB σ hidC Sa 0 s₀ (.ok (.ret .none)) s → Seg (model p.prog p.w) A (GR p env.locals outer hB σ hidC Sa) (GY p env.locals outer hB hidC Sa items) 0 s₀ (.func body env) (kF (.ok .next)) [] s) :
    ∀ (r : List Str) (dn : List Str) (os : List Obj) (s₀ s : Shared) (h : Heap) (st : St) (oS : Obj), (∀ y ∈ r, D y) → items = dn ++ r.filterMap F → J (r.map .str) os → Inv st → s₀.heap.get? Sa = some oS → Sub hB h → Sub hs h →
      Sat p env.locals outer h s st (over (upd hidC Sa (.raw oS)) as os) →
      Seg (model p.prog p.w) A (GR p env.locals outer hB σ hidC Sa) (GY p env.locals outer hB hidC Sa items) (r.filterMap F).length s₀
        (.forLoop (.Name (Str.ofString x) tp) it [.If test [.Expr (.Yield (some e) yp) ep] [] ip] [] env) ((model p.prog p.w).den (.forLoop (.Name (Str.ofString x) tp) it [.If test [.Expr (.Yield (some e) yp) ep] [] ip] [] env))
        [.ret kF none false l (.func body env) q kp] s := by
  have hO := hA.loop hk hf hg hb (body := body) (target := .Name (Str.ofString x) tp) (it := it) (b1 := [.If test [.Expr (.Yield (some e) yp) ep] [] ip]) (b2 := []) (k := kF) (g := false) (l := l) (kp := kp) (q := q)
  have hh := hO.handled (by decide)
  have hfree : ∀ oS, ∀ a ∈ as, upd hidC Sa (HC.raw oS) a = none := fun oS a ha => by
    have hne : a ≠ Sa := fun z => hSas (by rw [← z]; exact ha)
    rw [upd_ne _ _ hne]; exact has a ha
  intro r
  induction r with
  | nil =>
    intro dn os s₀ s h st oS hD hit hJ hI hS hkB hks S
    refine seg_forLoop (wpAny_mono (I.stop (P := fun s4 => Seg (model p.prog p.w) A (GR p env.locals outer hB σ hidC Sa) (GY p env.locals outer hB hidC Sa items) 0 s₀ (.block [] env) ((model p.prog p.w).den (.block [] env)) [.ret kF none false l (.func body env) q kp] s4)
      hJ hh (hfree oS) S hks (hG st hI) fun s4 h4 k4 S4 => ?_) (fun r' s4 ⟨e1, q1⟩ => ?_) fun _ _ z => z)
    · exact seg_block_nil (hEnd s₀ s4 ⟨rfl, rfl, oS, h4, st, hS, hkB.trans k4, hσ st hI, S4⟩)
    · subst e1; exact q1
  | cons y r ih =>
    intro dn os s₀ s h st oS hD hit hJ hI hS hkB hks S
    refine seg_forLoop (wpAny_mono (I.next (v := .str y) (r := r.map .str) (E := fun _ _ => False) (P := fun u s4 => wpAny (model p.prog p.w) (A.over (.forLoop (.Name (Str.ofString x) tp) it [.If test [.Expr (.Yield (some e) yp) ep] [] ip] [] env) [.ret kF none false l (.func body env) q kp])
      (PySem.assign (.Name (Str.ofString x) tp) env u) (fun _ s₂ => Seg (model p.prog p.w) A (GR p env.locals outer hB σ hidC Sa) (GY p env.locals outer hB hidC Sa items) ((y :: r).filterMap F).length s₀
        (.forLoop (.Name (Str.ofString x) tp) it [.If test [.Expr (.Yield (some e) yp) ep] [] ip] [] env) ((execs [.If test [.Expr (.Yield (some e) yp) ep] [] ip] env).wrap (fun f => match f with
            | .next | .cont => .pure (.again (.forLoop (.Name (Str.ofString x) tp) it [.If test [.Expr (.Yield (some e) yp) ep] [] ip] [] env))
            | .brk => .pure (.done .next)
            | .ret v => .pure (.done (.ret v))) (fun e => (do noteFrame e env; theTreesLotGoes e : Sem Unit).wrap (fun _ => .raise e) .raise id id) id id) [.ret kF none false l (.func body env) q kp] s₂) (fun _ _ => False) s4)
      hJ hh (hfree oS) S hks (hG st hI) fun s4 h4 os4 u k4 j4 S4 hu => ?_) (fun r' s4 ⟨u, e1, q1⟩ => ?_) fun _ _ z => z)
    · refine wpAny_mono ((AsW.name (p := p) (n := n) (b := .body) (X := fun _ _ => False) (Q := fun _ st1 => st1 = st.set x (.str y)) rfl hx) _ _ _ _ _ _ hO S4 hu) (fun _ s5 z_ => z_.elim fun h5 _ st5 k5 S5 _ q5 => ?_) fun _ _ z => z.never
      subst q5
      have hI5 := hset st y hI
      have hρ : (st.set x (.str y)).ρ x = some (.str y) := upd_same ..
      refine seg_execs_cons (seg_If (wpAny_mono (htest _ y (hD y (.head _)) hI5 hρ _ _ _ _ _ hO S5) (fun c s6 z_ => z_.elim fun h6 c' st6 k6 S6 r6 q6 => ?_) fun _ _ z => z.never))
      obtain rfl : c' = c := r6
      obtain ⟨hc, rfl⟩ := q6
      have kk6 : Sub h h6 := (k4.trans k5).trans k6
      cases hF : F y with
      | none =>
        rw [hF] at hc
        subst hc
        rw [if_neg (by simp)]
        have hfm : (y :: r).filterMap F = r.filterMap F := by simp [hF]
        rw [hfm] at hit ⊢
        exact seg_again rfl (ih dn os4 s₀ s6 h6 _ oS (fun y hy => hD y (.tail _ hy)) hit j4 hI5 hS (hkB.trans kk6) (hks.trans kk6) S6)
      | some z =>
        rw [hF] at hc
        subst hc
        rw [if_pos (by simp)]
        have hfm : (y :: r).filterMap F = z :: r.filterMap F := by simp [hF]
        rw [hfm] at hit ⊢
        rw [List.length_cons]
        refine seg_execs_cons (seg_Expr_Yield rfl rfl rfl (wpAny_mono (helt _ y z (hD y (.head _)) hI5 hρ hF _ _ _ _ _ hO S6) (fun v s7 z_ => z_.elim fun h7 a st7 k7 S7 r7 q7 => ?_) fun _ _ z => z.never.elim) hco hi)
        obtain ⟨rfl, rfl⟩ := q7
        cases r7
        intro kap hkap
        have e8 : over (upd hidC Sa (.raw oS)) as os4 = upd (over hidC as os4) Sa (.raw oS) := (over_upd as os4 hSas).symm
        rw [e8] at S7
        refine ⟨z, _, oS, h7, st.set x (.str y), over hidC as os4, rfl, ?_, hS, (hkB.trans kk6).trans k7, ?_, ext_over as os4 I.nodup has, S7, fun s8 h8 oS8 k8 S8 => hkap .none s8 ?_⟩
        · have e1 : items.length - 1 - (r.filterMap F).length = dn.length := by
            rw [hit, List.length_append, List.length_cons]; (first | lia | omega)
          rw [e1, hit, List.getElem?_append_right (Nat.le_refl _), Nat.sub_self]; rfl
        · have : ∀ (as : List Addr) (os : List Obj) (hid : Hid), Sa ∉ as → hid Sa = none → over hid as os Sa = none := by
            intro as
            induction as with
            | nil => intro os hid _ h; exact h
            | cons a as iha =>
              intro os hid hns h
              cases os with
              | nil => exact h
              | cons o os =>
                have hne : Sa ≠ a := fun z => hns (z ▸ .head _)
                exact iha os (upd hid a (.raw o)) (fun z => hns (.tail _ z)) (by rw [upd_ne _ _ hne]; exact h)
          exact this as os4 hidC hSas hSn
        · rw [over_upd as os4 hSas] at S8
          have kk8 : Sub h h8 := (kk6.trans k7).trans k8
          refine seg_again rfl (ih (dn ++ [z]) os4 s8 s8 h8 _ oS8 (fun y hy => hD y (.tail _ hy)) (by rw [hit]; simp) j4 hI5 ?_ (hkB.trans kk8) (hks.trans kk8) S8)
          have : over (upd hidC Sa (.raw oS8)) as os4 Sa = some (.raw oS8) := by
            rw [← over_upd as os4 hSas]; exact upd_same ..
          exact (S8.hidd _ _ this).1
    · subst e1; exact q1
end

end Mine

end

section
open PySem PySem.W PyProof.Rows PySem.Calls
set_option maxRecDepth 100000
namespace Mine

/-! the same top with other generators -/
theorem Sat.toGens {p : PC} {N : Nat} {L : Addr} {outer : List Env} {h : Heap} {s s' : Shared} {st : St} {hid : Hid} (S : Sat p L outer h s st hid) (hh : s'.heap = s.heap) (ho : s'.os = s.os) (hg : AllBare s'.gens) (hz : s'.gens.size = N) : Sat (p.gens N) L outer h s' st hid :=
  ⟨S.base, hh ▸ S.sub, hh ▸ S.loc, S.locF, S.locS, S.locH, hh ▸ S.obj, hh ▸ S.hidd, S.out, ho.trans S.os, hg, hz⟩
theorem Sat.ofGens {p : PC} {N : Nat} {L : Addr} {outer : List Env} {h : Heap} {s : Shared} {st : St} {hid : Hid} (S : Sat (p.gens N) L outer h s st hid) (hp : p.gp = AllBare) : Sat p L outer h s st hid :=
  ⟨S.base, S.sub, S.loc, S.locF, S.locS, S.locH, S.obj, S.hidd, S.out, S.os, by rw [hp]; exact S.gens.1⟩

/-- what a generator's body does -/
noncomputable def GenGo (p : PC) (n : Nat) (body : List Stmt) (scope : Scope) (f : Addr) (bs : List (String × AV)) (items : List Str) (σ : Addr → Option AObj) : Prop :=
  ∀ (A : Around) (N : Nat) (L : Addr) (q : Str) (cd : Value) (outer : List Env) (hB h : Heap) (hidC : Hid) (Sa : Addr) (s : Shared) (oS : Obj), GOK n A outer → hidC Sa = none → Sub hB h →
    Sat (p.gens N) L outer h s ⟨fun x => bs.reverse.lookup x, σ⟩ (upd hidC Sa (.raw oS)) →
    Seg (model p.prog p.w) A (GR (p.gens N) L outer hB σ hidC Sa) (GY (p.gens N) L outer hB hidC Sa items) items.length s (.func body (mkEnv scope L f q cd)) ((model p.prog p.w).den (.func body (mkEnv scope L f q cd))) [] s

theorem vrs_strs {h : Heap} : ∀ (items : List Str) (vs : List Value), vs.length = items.length → (∀ (j : Nat) (v : Value), vs[j]? = some v → ∃ x t, v = Value.str x t ∧ items[j]? = some x) → VRs h (items.map AV.str) vs
  | [], [], _, _ => .nil
  | x :: xs, v :: vs, hl, hj => by
    obtain ⟨y, t, rfl, e⟩ := hj 0 v rfl
    cases e
    exact .cons (.str _ _) (vrs_strs xs vs (by simpa using hl) fun j v e => hj (j + 1) v e)
  | [], _ :: _, hl, _ => by simp at hl
  | _ :: _, [], hl, _ => by simp at hl

section
variable {p : PC} {n : Nat} {env : Env} {X : Value → St → Prop} {st : St}
/-- list(f(..)), f a generator of the top -/
theorem EW.listGen {fname : Str} {f : Addr} {params : Arguments} {body : List Stmt} {scope : Scope} {dV : Value} {fo : Obj} {fd : FuncData} {bs : List (String × AV)} {items : List Str} {lp np ipos pos : Pos} {l : List Expr} {Q : AV → St → Prop}
    (F : FnOK p f params body scope dV fo fd) (hp : p.gp = AllBare) (eL : nsIn p.K mainGlobals (Str.ofString "list") = some none) (eF : nsIn p.K mainGlobals fname = some (some (.ref f)))
    (hloc : ∀ x ∈ bs, scope.names.lookup (Str.ofString x.1) = some .local) (hcell : ∀ x ∈ scope.names, x.2 ≠ .cell) (hco : scope.isCoroutine = false) (hgen : scope.isGenerator = true) (hk : scope.kind = .function) (hz : items.length ≤ 1000)
    (H : AW p (n + 2) .body env (.ref f) ipos l (fun as st1 => BindA p fd as bs ∧ GenGo p n body scope f bs items st1.σ ∧ Q (.lst (items.map .str)) st1) X st)
    (hs : backTo pos (starEach [.Call (.Name fname np) l [] ipos] env) = [(false, eval (.Call (.Name fname np) l [] ipos) env)] := by rfl)
    (hxL : env.kindOf (Str.ofString "list") = some .globalImplicit := by rfl) (hxF : env.kindOf fname = some .globalImplicit := by rfl) (hdF : (fname == ("__debug__" : Str)) = false := by decide +kernel) :
    EW p (n + 2) .body env (.Call (.Name (Str.ofString "list") lp) [.Call (.Name fname np) l [] ipos] [] pos) Q X st := by
  refine GW.mk fun A outer h₀ s hid hA S => ?_
  refine wpAny_Call_Name_kw (builtinName hA S eL (v := .type "list") (by decide +kernel) (by decide +kernel) ?_ hxL (by decide +kernel))
  rw [hs]
  refine PyProof.Rows.callWith_type rfl (evalArgs_plain (spliced_cons ?_))
  refine wpAny_Call_Name_kw ?_
  have hN : EW p (n + 2) .body env (.Name fname np) (fun a st1 => a = .ref f ∧ st1 = st) X st := EW.glob eF (.ref f) ⟨rfl, rfl⟩ hxF hdF
  refine hN.use hA S (.refl _) fun v s1 h1 a st1 k1 _ S1 hv hq => ?_
  obtain ⟨rfl, rfl⟩ := hq
  cases hv
  refine callWith_function (o := fo) (fd := fd) (H.use hA S1 k1 fun ar s2 h2 as st2 k2 _ S2 ha H2 => ?_)
  obtain ⟨ap, ak⟩ := ar
  obtain ⟨ha1, ha2⟩ := ha
  obtain rfl : ak = [] := ha2
  obtain ⟨hbind, hgo, hQ⟩ := H2
  have hold : ∀ {h : Heap}, Sub p.base h → h.get? f = some fo := fun {h} k => k _ _ (p.hK _ _ F.look)
  refine ⟨⟨hold (S2.base.trans S2.sub), F.data⟩, ?_⟩
  refine wpAny_call (codeAny_call_generator (fd := fd) (by have := hA.depth; show A.depth < 1000; (first | lia | omega)) (hold (S2.base.trans S2.sub)) F.data (by rw [F.scope]; exact hco) (by rw [F.scope]; exact hgen) F.body ((codeRec_of p.hK F.code).keeps (S2.base.trans S2.sub)) ?_)
  refine hbind _ _ _ _ _ _ _ _ _ _ S2 ha1 fun h₃ s₃ ws k₃ S₃ hw => ?_
  obtain ⟨m₃, hn₃, hm₃⟩ := S₃.loc
  refine wpAny_newFunctionEnv (by rw [F.scope]; exact hcell) (fun x hx => ?_) (fun h' hns hsb => ⟨?_, ?_⟩) (by rw [F.scope]; exact hk)
  · have hx1 := (List.of_mem_zip hx).1
    obtain ⟨y, hy, e⟩ := List.mem_map.mp hx1
    rw [F.scope, ← e]
    exact hloc y hy
  · exact (p.hT.nolimit.keeps (S₃.base.trans S₃.sub)).fresh _ hsb
  have kk : Sub s₃.heap h' := fun a o e => hsb.extBut a o (Nat.ne_of_lt (Heap.lt_size e)) (Heap.get?_push_of_some _ e)
  have hse : ∀ e, e ∈ (env :: outer) → e ∈ outer ∨ (e.scope.kind ≠ .module ∧ e.frame = some env.locals) := fun e he => by
    rcases List.mem_cons.mp he with rfl | he
    · exact .inr ⟨by rw [hA.kind]; decide, hA.frame (by decide)⟩
    · exact .inl he
  have SE := S₃.enter (s' := { s₃ with heap := h', toks := s₃.toks + ((bs.map fun x => Str.ofString x.1).zip ws).length }) (ρ' := fun x => bs.reverse.lookup x) hn₃ rfl hns kk (fun x av e => lookup_zip_rev hw e) rfl rfl hse
  have henv : newEnv fd.scope s₃.heap.objs.size fd.globals fd.closure (fd.qualname ++ ".<locals>.") (some f) fd.code none fd.builtins = mkEnv scope s₃.heap.objs.size f (fd.qualname ++ Str.ofString ".<locals>.") fd.code := by
    unfold newEnv mkEnv
    rw [F.scope, F.glob, F.bi, F.clos]
  rw [henv]
  refine spliced_nil ?_
  have bare : AllBare s₃.gens := by have := S₃.gens; rw [hp] at this; exact this
  have SG := SE.toGens (N := s₃.gens.size + 1) (s' := { s₃ with heap := h', toks := s₃.toks + ((bs.map fun x => Str.ofString x.1).zip ws).length, gens := s₃.gens.push (.fresh (.func body (mkEnv scope s₃.heap.objs.size f (fd.qualname ++ Str.ofString ".<locals>.") fd.code))) }) rfl rfl (bare.push rfl) (by simp)
  obtain ⟨f1, SI⟩ := SG.pushH (s' := { s₃ with gens := s₃.gens.push (.fresh (.func body (mkEnv scope s₃.heap.objs.size f (fd.qualname ++ Str.ofString ".<locals>.") fd.code))), toks := s₃.toks + ((bs.map fun x => Str.ofString x.1).zip ws).length + 1 + 1, heap := h'.push { cls := .type "generator", data := .fields #[.int s₃.gens.size 0, .str fd.name (s₃.toks + ((bs.map fun x => Str.ofString x.1).zip ws).length), .str fd.qualname (s₃.toks + ((bs.map fun x => Str.ofString x.1).zip ws).length + 1)] } })
    (o := { cls := .type "generator", data := .fields #[.int s₃.gens.size 0, .str fd.name (s₃.toks + ((bs.map fun x => Str.ofString x.1).zip ws).length), .str fd.qualname (s₃.toks + ((bs.map fun x => Str.ofString x.1).zip ws).length + 1)] }) rfl rfl rfl rfl
  have hGOK : GOK n A.in1.in1.in1 (env :: outer) := ⟨hA.frames, hA.handled (by decide), by show A.depth + 20 * (n + 1) ≤ 900; have := hA.depth; (first | lia | omega), by show A.units + 1 + 1 + 1 + 100 * (n + 1) ≤ 9000; have := hA.units; (first | lia | omega)⟩
  obtain ⟨f2, SS⟩ := SI.pushH (s' := { s₃ with gens := s₃.gens.push (.fresh (.func body (mkEnv scope s₃.heap.objs.size f (fd.qualname ++ Str.ofString ".<locals>.") fd.code))), toks := s₃.toks + ((bs.map fun x => Str.ofString x.1).zip ws).length + 1 + 1, heap := (h'.push { cls := .type "generator", data := .fields #[.int s₃.gens.size 0, .str fd.name (s₃.toks + ((bs.map fun x => Str.ofString x.1).zip ws).length), .str fd.qualname (s₃.toks + ((bs.map fun x => Str.ofString x.1).zip ws).length + 1)] }).push { cls := .type "list", data := .seq #[] } })
    (o := { cls := .type "list", data := .seq #[] }) rfl rfl rfl rfl
  refine gw_list (gen_walk (p := p) (N := s₃.gens.size + 1) (L := s₃.heap.objs.size) (outer := env :: outer) (hB := h₃) (σ := st2.σ) (hidC := upd (upd hid env.locals (.frame m₃)) h'.objs.size (.raw { cls := .type "generator", data := .fields #[.int s₃.gens.size 0, .str fd.name (s₃.toks + ((bs.map fun x => Str.ofString x.1).zip ws).length), .str fd.qualname (s₃.toks + ((bs.map fun x => Str.ofString x.1).zip ws).length + 1)] }))
    (items := items) (g := s₃.gens.size) ?_ (upd_same ..) f2 (hA.handled (by decide)) (by have := hA.depth; show A.depth < 1000; (first | lia | omega)) (Nat.lt_succ_self _)) hz ?_ fun s' acc' c' hfi hS hacc => ?_
  · show (h'.push _).objs.size ≠ h'.objs.size
    rw [Heap.size_push]; exact Nat.succ_ne_self _
  · refine ⟨.fresh (.func body (mkEnv scope s₃.heap.objs.size f (fd.qualname ++ Str.ofString ".<locals>.") fd.code)), h₃, _, _, _, ?_, .refl _, f2, .refl _, SS, fun s'' h'' oS' k'' S'' => ⟨rfl, ?_⟩⟩
    · show (s₃.gens.push _)[s₃.gens.size]? = _
      simp
    · rw [Nat.sub_zero]
      exact hgo _ _ _ _ _ _ _ _ _ _ _ _ hGOK f2 k'' S''
  · obtain ⟨oS, h4, st4, k4, hσ4, S4⟩ := hfi
    have heS : oS = accObj acc' c' := Option.some.inj ((S4.hidd _ _ (upd_same ..)).1.symm.trans hS)
    obtain ⟨S5, u5⟩ := S4.unhide f2
    obtain ⟨S6, _⟩ := S5.unhide f1
    have S7 := S6.ofGens hp
    have S8 := S₃.leave k4 hm₃ S7
    have hσ : (⟨st2.ρ, st4.σ⟩ : St) = st2 := by rw [hσ4]
    rw [hσ] at S8
    obtain ⟨k9, S9⟩ := S8.refreeze
    refine ⟨_, .lst (items.map .str), st2, ((k2.trans k₃).trans k4).trans k9, S9, .lst (vs := acc'.toList) (n := c') ?_ (vrs_strs items _ ?_ fun j v e => hacc.2 j v (by simpa using e)), hQ⟩
    · rw [mask_get]
      have hp' : priv env.locals st2 hid (h'.push { cls := .type "generator", data := .fields #[.int s₃.gens.size 0, .str fd.name (s₃.toks + ((bs.map fun x => Str.ofString x.1).zip ws).length), .str fd.qualname (s₃.toks + ((bs.map fun x => Str.ofString x.1).zip ws).length + 1)] } : Heap).objs.size = false := by
        refine priv_false.mpr ⟨?_, ?_, ?_⟩
        · intro z
          have := hn₃.lt
          have h5 : s₃.heap.objs.size ≤ h'.objs.size := by
            have h6 := hsb.1
            rw [Heap.size_push] at h6
            (first | lia | omega)
          have z' : h'.objs.size + 1 = env.locals := by rw [← z]; exact (Heap.size_push ..).symm
          have t' : (env.locals : Nat) < s₃.heap.objs.size := this
          have e' : (h'.objs.size + 1 : Nat) = (env.locals : Nat) := z'
          exact absurd t' (by rw [← e']; exact Nat.not_lt.mpr (Nat.le_succ_of_le h5))
        · cases q : st2.σ _ with
          | none => rfl
          | some o =>
            have := (S4.obj _ o (by rw [hσ4]; exact q)).2.2
            rw [upd_same] at this; cases this
        · have := f2
          rw [upd_ne _ _ (by rw [Heap.size_push]; exact Nat.succ_ne_self _)] at this
          by_cases z : (h'.push { cls := .type "generator", data := .fields #[.int s₃.gens.size 0, .str fd.name (s₃.toks + ((bs.map fun x => Str.ofString x.1).zip ws).length), .str fd.qualname (s₃.toks + ((bs.map fun x => Str.ofString x.1).zip ws).length + 1)] } : Heap).objs.size = env.locals
          · rw [z, upd_same] at this; cases this
          · rw [upd_ne _ _ z] at this; exact this
      rw [hp']
      simpa using hS
    · have := hacc.1
      simpa using this
end

end Mine

end

section
open PySem PySem.W PyProof.Rows PySem.Calls
set_option maxRecDepth 100000
namespace Mine

section
variable {p : PC} {n : Nat} {b : Mode} {env : Env} {X : Value → St → Prop} {st : St}

/-- a loop with an invariant -/
theorem ForW.run {target : Expr} {body orelse : List Stmt} {G : (Addr → Option AObj) → Prop} {Q : AF → St → Prop} (I : List AV → St → Prop) (hG : ∀ r st, I r st → G st.σ) (hnil : ∀ st, I [] st → SW p n b env orelse Q X st)
    (hcons : ∀ v r st, I (v :: r) st → AsW p n b env target v (fun _ st1 => SW p n b env body (fun f st2 => match f with
      | .next | .cont => I r st2
      | .brk => Q .next st2
      | .ret w => Q (.ret w) st2) X st1) X st) : ∀ (r : List AV) (st : St), I r st → ForW p n b env target body orelse G X r Q st
  | [], st, h => ⟨hG _ _ h, hnil st h⟩
  | v :: r, st, h => by
    refine ⟨hG _ _ h, GF.mk fun A outer h₀ s hid u hA S hu => wpAny_mono (hcons v r st h A outer h₀ s hid u hA S hu) (fun _ s1 z_ => z_.elim fun h1 y st1 k1 S1 _ q => ⟨h1, (), st1, k1, S1, trivial, q.mono (fun f st2 hq => ?_) fun _ _ z => z⟩) fun _ _ e => e⟩
    cases f with
    | next => exact ForW.run I hG hnil hcons r st2 hq
    | cont => exact ForW.run I hG hnil hcons r st2 hq
    | brk => exact hq
    | ret w => exact hq

/-- try, where nothing is raised -/
theorem XW.tryNo {body : List Stmt} {h₀ : ExceptHandler} {hs : List ExceptHandler} {pos : Pos} {Q : AF → St → Prop} (H : SW p n b env body Q (fun _ _ => False) st) : XW p n b env (.Try body (h₀ :: hs) [] [] pos) Q X st := by
  refine GW.mk fun A outer h₀ s hid hA S => ?_
  refine wpAny_Try_except (wpAny_mono (H _ _ _ _ _ hA S) (fun f s1 z_ => z_.elim fun h1 y st1 k1 S1 r q => ?_) fun x s1 he => he.never.elim)
  cases r with
  | next => exact wpAny_execs_nil ⟨h1, _, st1, k1, S1, .next, q⟩
  | brk => exact ⟨h1, _, st1, k1, S1, .brk, q⟩
  | cont => exact ⟨h1, _, st1, k1, S1, .cont, q⟩
  | ret hv => exact ⟨h1, _, st1, k1, S1, .ret hv, q⟩
theorem is_int {prog : Program} {w : World} (i : Int) (t : Tok) : (PySem.intKind prog w).is i (.int i t) = true := by simp [PySem.intKind, Value.isInt]
/-- {c1: t1, c2: t2}[i] -/
theorem EW.tab2 {c1 c2 : Int} {t1 t2 : Str} {k1 k2 k3 k4 : Nat} {p1 p2 p3 p4 dpos pos : Pos} {slice : Expr} {Q : AV → St → Prop} (hne : c1 ≠ c2)
    (H : EW p n b env slice (fun c st1 => ∃ j, c = .int j ∧ ((j = c1 ∧ Q (.str t1) st1) ∨ (j = c2 ∧ Q (.str t2) st1))) X st) (hs : isSlice slice = false := by rfl) :
    EW p n b env (.Subscript (.Dict [some (.Constant (.int c1) k1 p1), some (.Constant (.int c2) k2 p2)] [.Constant (.str t1) k3 p3, .Constant (.str t2) k4 p4] dpos) slice pos) Q X st := by
  refine GW.mk fun A outer h₀ s hid hA S => ?_
  refine Subscript_ ?_
  have hall : ([some (Expr.Constant (.int c1) k1 p1), some (Expr.Constant (.int c2) k2 p2)].all (·.isSome)) = true := rfl
  refine wpAny_Dict_walk (knd := intKind p.prog p.w) hall rfl (List.cons_ne_nil _ _) (by show 2 ≤ 15; decide) ?_
  refine pairTrees_cons_walk ?_
  refine wpAny_Constant_int ?_
  refine Constant_str ?_
  refine pairTrees_cons_walk ?_
  refine wpAny_Constant_int ?_
  refine Constant_str ?_
  refine pairTrees_nil_walk ?_
  have S1 := S.grow (s' := { s with heap := s.heap.push { cls := .type "dict", data := .dict #[] } }) (Sub.push _ _) rfl S.gens
  have hu : Unt h₀ env.locals st hid s.heap.objs.size := unt_ge S (Nat.le_refl _)
  refine display_done_int (prog := p.prog) (w := p.w) rfl (by simp [intKeyPairs, hne]) (Heap.DictOf.new s.heap) fun h' hd hsb => ?_
  obtain ⟨o, es, ep, ho, hx, hr⟩ := id hd
  have S2 : Sat p env.locals outer h₀ { s with heap := h' } st hid := S1.extB (s' := { s with heap := h' }) hu hsb.extBut rfl rfl
  obtain ⟨k2, S3⟩ := S2.refreeze
  have e3 : (mask h' (priv env.locals st hid)).get? s.heap.objs.size = some o := by
    rw [mask_get, hu.2]; exact ho
  have S4 : ∀ tk, Sat p env.locals outer (mask h' (priv env.locals st hid)) { s with heap := h', toks := tk } st hid := fun tk => S3.of_eq rfl rfl rfl
  refine H.use hA (S4 _) k2 fun v s5 h5 c st5 k5 k35 S5 hv ⟨j, hc, hq⟩ => ?_
  subst hc
  cases hv with | int _ t =>
  obtain ⟨ta, tb, hd5⟩ : ∃ ta tb, s5.heap.DictOf (PySem.intKind p.prog p.w) s.heap.objs.size [(c1, Value.str t1 ta), (c2, Value.str t2 tb)] := ⟨_, _, o, es, ep, S5.sub _ _ (k35 _ _ e3), hx, hr⟩
  rcases hq with ⟨rfl, hq⟩ | ⟨rfl, hq⟩
  · exact tail_any hd5.typeIs slot_dict_getitem.lookup (wpAny_getItem_of (k := j) (v := .str t1 ta) (is_int _ _) hd5.mapOf (by simp [valueAt]) (NP.mk (S5.of_eq rfl rfl rfl) k5 (.str _ _) hq)) (subscripted_plain hs)
  · exact tail_any hd5.typeIs slot_dict_getitem.lookup (wpAny_getItem_of (k := j) (v := .str t2 tb) (is_int _ _) hd5.mapOf (by simp [valueAt, hne]) (NP.mk (S5.of_eq rfl rfl rfl) k5 (.str _ _) hq)) (subscripted_plain hs)
end

end Mine

end

section
open PySem PySem.W PyProof.Rows PySem.Calls
set_option maxRecDepth 100000
namespace Mine

noncomputable def nthS (p : Program) (i : Nat) : Stmt := p.main.body.getD i (.Pass ⟨0, 0, 0, 0⟩)
noncomputable def fnBody : Stmt → List Stmt
  | .FunctionDef _ _ b _ _ _ _ _ _ _ => b
  | _ => []
noncomputable def fnArgs : Stmt → Arguments
  | .FunctionDef _ a _ _ _ _ _ _ _ _ => a
  | _ => ⟨[], [], none, [], [], none, []⟩
noncomputable def fnScope : Stmt → Scope
  | .FunctionDef _ _ _ _ _ _ s _ _ _ => s
  | _ => { kind := .module, names := [], isGenerator := false, isCoroutine := false, more := [] }
noncomputable def clsBody : Stmt → List Stmt
  | .ClassDef _ _ _ b _ _ _ _ _ _ _ => b
  | _ => []

noncomputable abbrev P1 := PySem.Challenge.pw_nq0159_01

variable {p : PC} {n : Nat} {b : Mode} {env : Env} {X : Value → St → Prop} {st : St}


/-! rows -/
structure Row where
  kind : Int
  mark : Str
  text : Str
noncomputable def rowA (r : Row) : AV := .tup [.int r.kind, .str r.mark, .str r.text]
noncomputable def stepOf (pace k : Int) : Int := if k = 0 then 1 else if k = 1 then -pace else if k = 2 then 1 - pace else 0
noncomputable def leadsOf (pace : Int) : Int → List Row → List (Int × Int)
  | _, [] => []
  | l, r :: rs => if r.kind = 3 then leadsOf pace (l + stepOf pace r.kind) rs else (r.kind, l + stepOf pace r.kind) :: leadsOf pace (l + stepOf pace r.kind) rs
noncomputable def leadA (r : Int × Int) : AV := .tup [.int r.1, .int r.2]
theorem leadsOf_length (pace : Int) : ∀ (rs : List Row) (l : Int), (leadsOf pace l rs).length ≤ rs.length
  | [], _ => Nat.le_refl _
  | r :: rs, l => by
    unfold leadsOf
    split
    · exact Nat.le_succ_of_le (leadsOf_length pace rs _)
    · exact Nat.succ_le_succ (leadsOf_length pace rs _)

theorem leads_body {L' f : Addr} {q : Str} {cd : Value} {rows : List Row} {pace : Int} {σ : Addr → Option AObj} {Q : AF → St → Prop} (hz : rows.length ≤ 1000) (hk : ∀ r ∈ rows, 0 ≤ r.kind ∧ r.kind ≤ 3)
    (h : ∀ st', st'.σ = σ → Q (.ret (.lst ((leadsOf pace 0 rows).map leadA))) st') :
    SW p n .body (mkEnv (fnScope (nthS P1 11)) L' f q cd) (fnBody (nthS P1 11)) Q X ⟨fun x => [("turn", AV.lst (rows.map rowA)), ("pace", AV.int pace)].reverse.lookup x, σ⟩ := by
  iterate 5 (first | refine SW.cons ?_ | refine XW.assign ?_ | refine EW.var (by first | exact rfl | assumption) ?_ | refine EW.int ?_ | refine EW.str ?_ | refine EW.binop ?_ | refine EW.unop ?_ | refine EW.tup ?_ | refine EW.list ?_ | refine EW.cut ?_ | refine EW.sub ?_ | refine LW.nil ?_ | refine LW.cons ?_ | refine XW.iff ?_ | refine TW.cmp ?_ | refine TW.not ?_ | refine TW.and ?_ | refine TW.or ?_ | refine TW.and_nil ?_ | refine TW.or_nil ?_ | refine truthy_bool ?_ | refine Mine.add_int ?_ | refine Mine.sub_int ?_ | refine Mine.iadd_int ?_ | refine Mine.neg_int ?_ | refine Mine.lt_int ?_ | refine Mine.eq_int ?_ | refine Mine.ne_int ?_ | refine AsW.name ?_ | refine AsW.tup (by decide) ?_ | refine EW.bool ?_ | refine EW.noneC ?_ | refine EW.cmp ?_ | refine XW.ret ?_ | refine XW.aug (by first | exact rfl | assumption) ?_ | refine XW.cont ?_ | refine XW.brk ?_ | exact SW.nil (by assumption))
  refine EW.listM ?_
  refine LW.nil ?_
  refine ⟨fun a ha => ?_, by simp⟩
  dsimp only
  refine SW.cons ?_
  refine XW.for rfl (ItE.of (EW.var rfl ⟨_, _, iter_list (.inl rfl), ?_⟩))
  refine ForW.run (fun r st => ∃ rs acc l, r = rs.map rowA ∧ st.ρ "pace" = some (.int pace) ∧ st.ρ "lead" = some (.int l) ∧ st.ρ "leads" = some (.ref a) ∧ st.σ = upd σ a (.list (acc.map leadA)) ∧ leadsOf pace 0 rows = acc ++ leadsOf pace l rs ∧ (∀ r ∈ rs, 0 ≤ r.kind ∧ r.kind ≤ 3))
    (fun r st h => .inl rfl) ?_ ?_ _ _ ⟨rows, [], 0, rfl, rfl, rfl, rfl, rfl, rfl, hk⟩
  · rintro st ⟨rs, acc, l, hr, h1, h2, h3, h4, h5, h6⟩
    cases rs with
    | cons _ _ => cases hr
    | nil =>
      refine SW.nil ?_
      dsimp only
      refine SW.cons ?_
      refine XW.ret ?_
      refine GW.frz ?_
      refine EW.var h3 ⟨a, acc.map leadA, rfl, by rw [h4]; exact upd_same .., ?_⟩
      have : leadsOf pace 0 rows = acc := by rw [h5]; simp [leadsOf]
      dsimp only
      rw [← this]
      refine h _ ?_
      show era st.σ a = σ
      rw [h4]
      funext x
      by_cases hx : x = a
      · subst hx; rw [era_same]; exact ha.symm
      · rw [era_ne _ hx, upd_ne _ _ hx]
  · rintro v r st ⟨rs, acc, l, hr, h1, h2, h3, h4, h5, h6⟩
    cases rs with
    | nil => cases hr
    | cons rw' rs =>
      cases hr
      have hkk := h6 rw' (.head _)
      refine AsW.tup (by decide) ?_
      iterate 3 refine AsW.name ?_
      refine SW.cons ?_
      refine XW.aug h2 ?_
      refine EW.sub ?_
      refine EW.list ?_
      refine LW.cons ?_
      refine EW.int ?_
      refine LW.cons ?_
      refine EW.unop ?_
      refine EW.var h1 ?_
      refine neg_int ?_
      refine LW.cons ?_
      refine EW.binop ?_
      refine EW.int ?_
      refine EW.var h1 ?_
      refine sub_int ?_
      refine LW.cons ?_
      refine EW.int ?_
      refine LW.nil ?_
      refine ⟨?_, by simp⟩
      refine EW.var rfl ?_
      refine idx_list (x := .int (stepOf pace rw'.kind)) (.inl rfl) hkk.1 ?_ ?_
      · have : rw'.kind = 0 ∨ rw'.kind = 1 ∨ rw'.kind = 2 ∨ rw'.kind = 3 := by (first | lia | omega)
        rcases this with e | e | e | e <;> simp [e, stepOf]
      refine iadd_int ?_
      dsimp only
      refine SW.cons ?_
      refine XW.iff ?_
      refine TW.cmp ?_
      refine EW.var rfl ?_
      refine EW.int ?_
      refine ne_int ?_
      refine truthy_bool ?_
      by_cases hk3 : rw'.kind = 3
      · rw [if_neg (by simp [hk3])]
        refine SW.nil ?_
        refine SW.nil ?_
        refine ⟨rs, acc, l + stepOf pace rw'.kind, rfl, h1, rfl, h3, h4, ?_, fun r hr => h6 r (.tail _ hr)⟩
        rw [h5, leadsOf, if_pos hk3]
      · rw [if_pos (by simp [hk3])]
        refine SW.cons ?_
        refine XW.append ?_
        refine EW.var h3 ⟨a, rfl, ?_, _, by show st.σ a = _; rw [h4]; exact upd_same ..⟩
        refine EW.tup ?_
        refine LW.cons ?_
        refine EW.var rfl ?_
        refine LW.cons ?_
        refine EW.var rfl ?_
        refine LW.nil ?_
        refine ⟨⟨acc.map leadA, by show st.σ a = _; rw [h4]; exact upd_same .., ?_, ?_⟩, by simp⟩
        · have := leadsOf_length pace rows 0
          rw [h5] at this
          simp at this ⊢
          (first | lia | omega)
        refine SW.nil ?_
        refine SW.nil ?_
        refine ⟨rs, acc ++ [(rw'.kind, l + stepOf pace rw'.kind)], l + stepOf pace rw'.kind, rfl, h1, rfl, h3, ?_, ?_, fun r hr => h6 r (.tail _ hr)⟩
        · show upd st.σ a _ = _
          rw [h4, upd_upd]
          simp [leadA]
        · rw [h5, leadsOf, if_neg hk3]
          simp
end Mine

end

section
open PySem PySem.W PyProof.Rows PySem.Calls
set_option maxRecDepth 100000
namespace Mine

/-- the built-in names that no line of the text binds -/
structure KB (p : PC) : Prop where
  enumerate : nsIn p.K mainGlobals (Str.ofString "enumerate") = some none
  str : nsIn p.K mainGlobals (Str.ofString "str") = some none
  sum : nsIn p.K mainGlobals (Str.ofString "sum") = some none
  len : nsIn p.K mainGlobals (Str.ofString "len") = some none
  range : nsIn p.K mainGlobals (Str.ofString "range") = some none
  list : nsIn p.K mainGlobals (Str.ofString "list") = some none
  max : nsIn p.K mainGlobals (Str.ofString "max") = some none
  min : nsIn p.K mainGlobals (Str.ofString "min") = some none
  int : nsIn p.K mainGlobals (Str.ofString "int") = some none
  set : nsIn p.K mainGlobals (Str.ofString "set") = some none
  iter : nsIn p.K mainGlobals (Str.ofString "iter") = some none
  tuple : nsIn p.K mainGlobals (Str.ofString "tuple") = some none
  bool : nsIn p.K mainGlobals (Str.ofString "bool") = some none
  stop : nsIn p.K mainGlobals (Str.ofString "StopIteration") = some none
  value : nsIn p.K mainGlobals (Str.ofString "ValueError") = some none
  key : nsIn p.K mainGlobals (Str.ofString "KeyError") = some none

theorem bb_str : bootBuiltins (Str.ofString "str") = some (.type "str") := by decide +kernel
theorem bb_sum : bootBuiltins (Str.ofString "sum") = some (.builtin "sum") := by decide +kernel
theorem bb_len : bootBuiltins (Str.ofString "len") = some (.builtin "len") := by decide +kernel
theorem bb_max : bootBuiltins (Str.ofString "max") = some (.builtin "max") := by decide +kernel
theorem bb_min : bootBuiltins (Str.ofString "min") = some (.builtin "min") := by decide +kernel
theorem bb_int : bootBuiltins (Str.ofString "int") = some (.type "int") := by decide +kernel
theorem bb_set : bootBuiltins (Str.ofString "set") = some (.type "set") := by decide +kernel
theorem bb_iter : bootBuiltins (Str.ofString "iter") = some (.builtin "iter") := by decide +kernel
theorem bb_tuple : bootBuiltins (Str.ofString "tuple") = some (.type "tuple") := by decide +kernel
theorem bb_bool : bootBuiltins (Str.ofString "bool") = some (.type "bool") := by decide +kernel
theorem bb_stop : bootBuiltins (Str.ofString "StopIteration") = some (.type "StopIteration") := by decide +kernel
theorem bb_value : bootBuiltins (Str.ofString "ValueError") = some (.type "ValueError") := by decide +kernel
theorem bb_key : bootBuiltins (Str.ofString "KeyError") = some (.type "KeyError") := by decide +kernel

variable {p : PC} {n : Nat} {b : Mode} {env : Env} {X : Value → St → Prop} {st : St}

noncomputable def cellStep (c : List Int) (k : Nat) (x : Int) : List Int := if k < 6 then c.set k (c[k]?.getD 0 + x.fmod 30) else c ++ [x.fmod 30]
noncomputable def cellsFrom : List Int → Nat → List Int → List Int
  | c, _, [] => c
  | c, k, x :: r => cellsFrom (cellStep c k x) (k + 1) r
noncomputable def cellsOf (script : List Int) : List Int := cellsFrom [0, 3, 0, 4, 0, 5] 0 (script.take 9)
noncomputable def moreOf (cell : Int) : Nat := ((cell.fdiv 6).fmod 5).toNat
noncomputable def kindOf (cell : Int) : Int := ([0, 0, 0, 1, 2, 3] : List Int).getD (cell.fmod 6).toNat 0
noncomputable def neitherOf (m : Nat) : Str := ([Str.ofString "? ", Str.ofString "--", Str.ofString "++", Str.ofString " -", Str.ofString "-"]).getD m (Str.ofString "")
noncomputable def markOf (k : Int) (m : Nat) : Str := ([Str.ofString "- ", Str.ofString "+ ", Str.ofString "  ", neitherOf m]).getD k.toNat (Str.ofString "")
noncomputable def textOf (m : Nat) (place : Nat) : Str := ([Str.ofString "", Str.ofString "- ", Str.ofString "+ ", Str.ofString "  ", Str.ofString "? "]).getD m (Str.ofString "") ++ Str.ofString (toString (place : Int))
noncomputable def rowOf (place : Nat) (cell : Int) : Row := ⟨kindOf cell, markOf (kindOf cell) (moreOf cell) ++ textOf (moreOf cell) place, textOf (moreOf cell) place⟩
noncomputable def rowsFrom : Nat → List Int → List Row
  | _, [] => []
  | i, c :: r => rowOf i c :: rowsFrom (i + 1) r
noncomputable def rowsOf (cells : List Int) : List Row := rowsFrom 0 cells
noncomputable def paceOf (cells : List Int) : Int := 1 + cells.sum.fmod 3

theorem fmod_lt {a m : Int} (h : 0 < m) : 0 ≤ a.fmod m ∧ a.fmod m < m := ⟨Int.fmod_nonneg_of_pos _ h, Int.fmod_lt_of_pos _ h⟩
theorem kind_range (c : Int) : 0 ≤ kindOf c ∧ kindOf c ≤ 3 := by
  have := fmod_lt (a := c) (m := 6) (by decide)
  unfold kindOf
  generalize (c.fmod 6) = k at *
  obtain ⟨k, rfl⟩ := Int.eq_ofNat_of_zero_le this.1
  have : k = 0 ∨ k = 1 ∨ k = 2 ∨ k = 3 ∨ k = 4 ∨ k = 5 := by (first | lia | omega)
  rcases this with e | e | e | e | e | e <;> subst e <;> decide
theorem more_lt (c : Int) : moreOf c < 5 := by
  have := fmod_lt (a := c.fdiv 6) (m := 5) (by decide)
  unfold moreOf
  (first | lia | omega)

theorem cellStep_length (c : List Int) (k : Nat) (x : Int) : (cellStep c k x).length = if k < 6 then c.length else c.length + 1 := by
  unfold cellStep
  split <;> simp
theorem div6 (c : Int) : Builtin.divisionGoesByPylong c 6 = false := by
  unfold Builtin.divisionGoesByPylong
  have : decide ((if (6 : Int) == 0 then 0 else (6 : Int).natAbs.log2 / 30 + 1) > 300) = false := by decide
  show (decide ((if (6 : Int) == 0 then 0 else (6 : Int).natAbs.log2 / 30 + 1) > 300) && _) = false
  rw [this]; rfl
theorem place_len : ∀ k : Nat, k < 16 → (Str.ofString (toString (k : Int))).length ≤ 2 := by decide +kernel
theorem pre_len : ∀ m : Nat, m < 5 → (([Str.ofString "", Str.ofString "- ", Str.ofString "+ ", Str.ofString "  ", Str.ofString "? "]).getD m (Str.ofString "")).length ≤ 2 := by decide +kernel
theorem mark_len' : ∀ k : Nat, k < 4 → ∀ m : Nat, m < 5 → (markOf k m).length ≤ 2 := by decide +kernel
theorem text_len {k m : Nat} (hk : k < 16) (hm : m < 5) : (textOf m k).length ≤ 4 := by
  unfold textOf
  rw [strLen_append]
  have := pre_len m hm
  have := place_len k hk
  (first | lia | omega)
theorem mark_len {k : Int} {m : Nat} (h0 : 0 ≤ k) (h3 : k ≤ 3) (hm : m < 5) : (markOf k m).length ≤ 2 := by
  obtain ⟨k, rfl⟩ := Int.eq_ofNat_of_zero_le h0
  exact mark_len' k (by (first | lia | omega)) m hm
theorem enumA_cons {i : Int} {v : AV} {l : List AV} : enumA i (v :: l) = .tup [.int i, v] :: enumA (i + 1) l := rfl

theorem rows_body {L' f : Addr} {q : Str} {cd : Value} {script : List Int} {σ : Addr → Option AObj} {Q : AF → St → Prop} (hB : KB p) (hs : script.length ≤ 63)
    (h : ∀ st', st'.σ = σ → Q (.ret (.tup [.lst ((rowsOf (cellsOf script)).map rowA), .int (paceOf (cellsOf script))])) st') :
    SW p n .body (mkEnv (fnScope (nthS P1 10)) L' f q cd) (fnBody (nthS P1 10)) Q X ⟨fun x => [("script", AV.lst (script.map .int))].reverse.lookup x, σ⟩ := by
  refine SW.cons ?_
  refine XW.assign ?_
  refine EW.listM ?_
  iterate 6 (refine LW.cons ?_; refine EW.int ?_)
  refine LW.nil ?_
  refine ⟨fun a ha => ?_, by simp⟩
  dsimp only
  refine SW.cons ?_
  refine XW.for rfl (ItE.enum hB.enumerate ?_)
  refine EW.cut ?_
  refine EW.var rfl ?_
  refine OW.no ?_
  refine OW.yes ?_
  refine EW.int ?_
  refine cut_upto (.inl rfl) ?_ (by simp; (first | lia | omega))
  refine ⟨_, .inl rfl, ?_⟩
  refine ForW.run (fun r st => ∃ (xs : List Int) (k : Nat) (c : List Int), r = enumA k (xs.map .int) ∧ st.ρ "cells" = some (.ref a) ∧ st.σ = upd σ a (.list (c.map .int)) ∧ cellsFrom c k xs = cellsOf script ∧ 6 ≤ c.length ∧ c.length + xs.length ≤ 15)
    (fun r st h => .inl rfl) ?_ ?_ _ _ ⟨script.take 9, 0, [0, 3, 0, 4, 0, 5], by simp, rfl, rfl, rfl, by simp, by simp; (first | lia | omega)⟩
  · rintro st ⟨xs, k, c, hr, h1, h2, h3, h4, h5⟩
    cases xs with
    | cons _ _ => cases hr
    | nil =>
      have hc : c = cellsOf script := h3
      subst hc
      refine SW.nil ?_
      dsimp only
      refine GW.frzV (a := a) (x := "cells") h1 (by rw [h2]; exact upd_same ..) ?_
      refine SW.cons ?_
      refine XW.assign ?_
      refine EW.listM ?_
      refine LW.nil ?_
      refine ⟨fun a2 ha2 => ?_, by simp⟩
      dsimp only
      have hσ0 : era st.σ a = σ := by
        rw [h2]
        funext x
        by_cases hx : x = a
        · subst hx; rw [era_same]; exact ha.symm
        · rw [era_ne _ hx, upd_ne _ _ hx]
      refine SW.cons ?_
      refine XW.for rfl (ItE.enum hB.enumerate ?_)
      refine EW.var rfl ⟨_, .inl rfl, ?_⟩
      refine ForW.run (fun r st => ∃ (cs : List Int) (k : Nat) (acc : List Row), r = enumA k (cs.map .int) ∧ st.ρ "cells" = some (.lst ((cellsOf script).map .int)) ∧ st.ρ "rows" = some (.ref a2) ∧ st.σ = upd σ a2 (.list (acc.map rowA)) ∧ rowsOf (cellsOf script) = acc ++ rowsFrom k cs ∧ acc.length = k ∧ k + cs.length ≤ 15)
        (fun r st h => .inl rfl) ?_ ?_ _ _ ⟨cellsOf script, 0, [], rfl, rfl, rfl, ?_, rfl, rfl, by simp at h5; (first | lia | omega)⟩
      · rintro st3 ⟨cs, k3, acc, hr3, g1, g2, g3, g4, g5, g6⟩
        cases cs with
        | cons _ _ => cases hr3
        | nil =>
          have hacc : acc = rowsOf (cellsOf script) := by rw [g4]; simp [rowsFrom]
          subst hacc
          refine SW.nil ?_
          dsimp only
          refine GW.frzV (a := a2) (x := "rows") g2 (by rw [g3]; exact upd_same ..) ?_
          refine SW.cons ?_
          refine XW.ret ?_
          refine EW.tup ?_
          refine LW.cons ?_
          refine EW.var rfl ?_
          refine LW.cons ?_
          refine EW.binop ?_
          refine EW.int ?_
          refine EW.binop ?_
          refine EW.callB hB.sum bb_sum ?_
          refine AW.cons (LW.cons ?_)
          refine EW.var g1 ?_
          refine LW.nil ?_
          refine call_sum (.inl rfl) ?_ (by decide)
          refine EW.int ?_
          refine mod_int ?_
          refine add_int ?_
          refine LW.nil ?_
          refine ⟨?_, by simp⟩
          refine h _ ?_
          show era st3.σ a2 = σ
          rw [g3]
          have ha2' : σ a2 = none := by
            have : era st.σ a a2 = none := ha2
            rw [hσ0] at this; exact this
          funext x
          by_cases hx : x = a2
          · subst hx; rw [era_same]; exact ha2'.symm
          · rw [era_ne _ hx, upd_ne _ _ hx]
      · rintro v r st3 ⟨cs, k3, acc, hr3, g1, g2, g3, g4, g5, g6⟩
        cases cs with
        | nil => cases hr3
        | cons cell cs =>
          cases hr3
          have hm6 := fmod_lt (a := cell) (m := 6) (by decide)
          have hm5 := fmod_lt (a := cell.fdiv 6) (m := 5) (by decide)
          have hkr := kind_range cell
          have hmr := more_lt cell
          refine AsW.tup (by decide) ?_
          iterate 2 refine AsW.name ?_
          refine SW.cons ?_
          refine XW.assign ?_
          refine EW.sub ?_
          refine EW.list ?_
          iterate 6 (refine LW.cons ?_; refine EW.int ?_)
          refine LW.nil ?_
          refine ⟨?_, by simp⟩
          refine EW.binop ?_
          refine EW.var rfl ?_
          refine EW.int ?_
          refine mod_int ?_
          refine idx_list (x := .int (kindOf cell)) (.inl rfl) hm6.1 ?_ ?_
          · unfold kindOf
            generalize cell.fmod 6 = k at hm6
            obtain ⟨k, rfl⟩ := Int.eq_ofNat_of_zero_le hm6.1
            have hk : k < 6 := by (first | lia | omega)
            have : k = 0 ∨ k = 1 ∨ k = 2 ∨ k = 3 ∨ k = 4 ∨ k = 5 := by (first | lia | omega)
            rcases this with e | e | e | e | e | e <;> subst e <;> rfl
          dsimp only
          refine SW.cons ?_
          refine XW.assign ?_
          refine EW.binop ?_
          refine EW.binop ?_
          refine EW.var rfl ?_
          refine EW.int ?_
          refine div_int ?_ (div6 _)
          refine EW.int ?_
          refine mod_int ?_
          dsimp only
          refine SW.cons ?_
          refine XW.assign ?_
          refine EW.sub ?_
          refine EW.list ?_
          iterate 3 (refine LW.cons ?_; refine EW.str ?_)
          refine LW.cons ?_
          refine EW.sub ?_
          refine EW.list ?_
          iterate 5 (refine LW.cons ?_; refine EW.str ?_)
          refine LW.nil ?_
          refine ⟨?_, by simp⟩
          refine EW.var rfl ?_
          refine idx_list (x := .str (neitherOf (moreOf cell))) (.inl rfl) hm5.1 ?_ ?_
          · unfold neitherOf moreOf
            generalize (cell.fdiv 6).fmod 5 = k at hm5
            obtain ⟨k, rfl⟩ := Int.eq_ofNat_of_zero_le hm5.1
            have : k = 0 ∨ k = 1 ∨ k = 2 ∨ k = 3 ∨ k = 4 := by (first | lia | omega)
            rcases this with e | e | e | e | e <;> subst e <;> rfl
          refine LW.nil ?_
          refine ⟨?_, by simp⟩
          refine EW.var rfl ?_
          refine idx_list (x := .str (markOf (kindOf cell) (moreOf cell))) (.inl rfl) hkr.1 ?_ ?_
          · unfold markOf
            generalize kindOf cell = k at hkr
            obtain ⟨k, rfl⟩ := Int.eq_ofNat_of_zero_le hkr.1
            have : k = 0 ∨ k = 1 ∨ k = 2 ∨ k = 3 := by (first | lia | omega)
            rcases this with e | e | e | e <;> subst e <;> rfl
          dsimp only
          refine SW.cons ?_
          refine XW.assign ?_
          refine EW.binop ?_
          refine EW.sub ?_
          refine EW.list ?_
          iterate 5 (refine LW.cons ?_; refine EW.str ?_)
          refine LW.nil ?_
          refine ⟨?_, by simp⟩
          refine EW.var rfl ?_
          refine idx_list (x := .str (([Str.ofString "", Str.ofString "- ", Str.ofString "+ ", Str.ofString "  ", Str.ofString "? "]).getD (moreOf cell) (Str.ofString ""))) (.inl rfl) hm5.1 ?_ ?_
          · unfold moreOf
            generalize (cell.fdiv 6).fmod 5 = k at hm5
            obtain ⟨k, rfl⟩ := Int.eq_ofNat_of_zero_le hm5.1
            have : k = 0 ∨ k = 1 ∨ k = 2 ∨ k = 3 ∨ k = 4 := by (first | lia | omega)
            rcases this with e | e | e | e | e <;> subst e <;> rfl
          refine EW.callT hB.str bb_str ?_
          refine AW.cons (LW.cons ?_)
          refine EW.var rfl ?_
          refine LW.nil ?_
          have hk16 : k3 < 16 := by simp at g6; (first | lia | omega)
          refine call_str_int ?_ (by
            have : ∀ k : Nat, k < 16 → (k : Int).natAbs.log2 < 1920 := by decide +kernel
            exact this k3 hk16)
          refine add_str ?_ (by have := pre_len _ hmr; have := place_len k3 hk16; (first | lia | omega))
          dsimp only
          refine SW.cons ?_
          refine XW.append ?_
          refine EW.var g2 ⟨a2, rfl, ?_, _, by show st3.σ a2 = _; rw [g3]; exact upd_same ..⟩
          refine EW.tup ?_
          refine LW.cons ?_
          refine EW.var rfl ?_
          refine LW.cons ?_
          refine EW.binop ?_
          refine EW.var rfl ?_
          refine EW.var rfl ?_
          refine add_str ?_ (by have := mark_len hkr.1 hkr.2 hmr; have := text_len hk16 hmr; unfold textOf at this; (first | lia | omega))
          refine LW.cons ?_
          refine EW.var rfl ?_
          refine LW.nil ?_
          refine ⟨⟨acc.map rowA, by show st3.σ a2 = _; rw [g3]; exact upd_same .., by simp; (first | lia | omega), ?_⟩, by simp⟩
          refine SW.nil ?_
          refine ⟨cs, k3 + 1, acc ++ [rowOf k3 cell], rfl, g1, g2, ?_, ?_, by simp [g5], by simp at g6 ⊢; (first | lia | omega)⟩
          · show upd st3.σ a2 _ = _
            rw [g3, upd_upd]
            simp [rowA, rowOf, textOf]
          · rw [g4, rowsFrom]; simp
      · show upd (era st.σ a) a2 (.list []) = _
        rw [hσ0]; rfl
  · rintro v r st ⟨xs, k, c, hr, h1, h2, h3, h4, h5⟩
    cases xs with
    | nil => cases hr
    | cons x xs =>
      cases hr
      refine AsW.tup (by decide) ?_
      iterate 2 refine AsW.name ?_
      refine SW.cons ?_
      refine XW.iff ?_
      refine TW.cmp ?_
      refine EW.var rfl ?_
      refine EW.int ?_
      refine lt_int ?_
      refine truthy_bool ?_
      have hget : st.σ a = some (.list (c.map .int)) := by rw [h2]; exact upd_same ..
      by_cases hk6 : k < 6
      · rw [if_pos (by simp; (first | lia | omega))]
        obtain ⟨y, hy⟩ : ∃ y, c[k]? = some y := ⟨c[k], by simp⟩
        refine SW.cons ?_
        refine XW.augSub ?_
        refine EW.var h1 ?_
        refine EW.var rfl ?_
        refine get_list (x := .int y) (.inr ⟨a, rfl, hget⟩) (by (first | lia | omega)) (by simp [hy]) ?_
        refine EW.binop ?_
        refine EW.var rfl ?_
        refine EW.int ?_
        refine mod_int ?_
        refine iadd_int ?_
        refine si_list hget (by (first | lia | omega)) (by simp; (first | lia | omega)) ?_
        refine SW.nil ?_
        refine SW.nil ?_
        refine ⟨xs, k + 1, cellStep c k x, rfl, h1, ?_, h3, ?_, ?_⟩
        · show upd st.σ a _ = _
          rw [h2, upd_upd]
          unfold cellStep
          rw [if_pos hk6, hy]
          simp
        · rw [cellStep_length, if_pos hk6]; exact h4
        · rw [cellStep_length, if_pos hk6]; simp at h5; (first | lia | omega)
      · rw [if_neg (by simp; (first | lia | omega))]
        refine SW.cons ?_
        refine XW.append ?_
        refine EW.var h1 ⟨a, rfl, ?_, _, hget⟩
        refine EW.binop ?_
        refine EW.var rfl ?_
        refine EW.int ?_
        refine mod_int ?_
        refine ⟨c.map .int, hget, by simp; (first | lia | omega), ?_⟩
        refine SW.nil ?_
        refine SW.nil ?_
        refine ⟨xs, k + 1, cellStep c k x, rfl, h1, ?_, h3, ?_, ?_⟩
        · show upd st.σ a _ = _
          rw [h2, upd_upd]
          unfold cellStep
          rw [if_neg hk6]
          simp
        · rw [cellStep_length, if_neg hk6]; (first | lia | omega)
        · rw [cellStep_length, if_neg hk6]; simp at h5; (first | lia | omega)
end Mine

end

section
open PySem PySem.W PyProof.Rows PySem.Calls
set_option maxRecDepth 100000
namespace Mine

theorem KB.gens {p : PC} {N : Nat} (h : KB p) : KB (p.gens N) := ⟨h.1, h.2, h.3, h.4, h.5, h.6, h.7, h.8, h.9, h.10, h.11, h.12, h.13, h.14, h.15, h.16⟩

noncomputable def tagOf (which : Int) : Str := if which = 1 then Str.ofString "- " else Str.ofString "+ "
noncomputable def restF (tag line : Str) : Option Str := if (Str.ofString "  " == Txt.slice line none (some 2)) || (tag == Txt.slice line none (some 2)) then some (Txt.slice line (some 2) none) else none

theorem in2 (a b x : Str) : ((toDs [.str a, .str b]).any fun y => PyData.eqv y (toD (.str x))) = (a == x || b == x) := by
  simp [toDs, toD, PyData.eqv]

theorem isSub_key : isSubtype (.type "KeyError") (.type "BaseException") = pure true := kr_isExc_KeyError
noncomputable def rS1 : Stmt := (fnBody (nthS P1 2)).headD (.Pass ⟨0, 0, 0, 0⟩)
noncomputable def rS2 : Stmt := (fnBody (nthS P1 2)).getD 1 (.Pass ⟨0, 0, 0, 0⟩)
noncomputable def rS3 : Stmt := (fnBody (nthS P1 2)).getD 2 (.Pass ⟨0, 0, 0, 0⟩)
theorem rS_all : fnBody (nthS P1 2) = [rS1, rS2, rS3] := rfl
section
variable {p : PC} {n : Nat} {L f : Addr} {q : Str} {cd : Value} {delta : List Str} {which : Int} {σ : Addr → Option AObj}
noncomputable def rst0 (delta : List Str) (which : Int) (σ : Addr → Option AObj) : St := ⟨fun x => [("delta", AV.lst (delta.map .str)), ("which", AV.int which)].reverse.lookup x, σ⟩
noncomputable def rst1 (delta : List Str) (which : Int) (σ : Addr → Option AObj) : St := (rst0 delta which σ).set "tag" (.str (tagOf which))
noncomputable def rst2 (delta : List Str) (which : Int) (σ : Addr → Option AObj) : St := (rst1 delta which σ).set "prefixes" (.tup [.str (Str.ofString "  "), .str (tagOf which)])
theorem restore_1 (hB : KB p) (hw : which = 1 ∨ which = 2) : XW p n .body (mkEnv (fnScope (nthS P1 2)) L f q cd) rS1 (fun fl st1 => fl = .next ∧ st1 = rst1 delta which σ) (fun _ _ => False) (rst0 delta which σ) := by
  refine XW.tryNo ?_
  refine SW.cons ?_
  refine XW.assign ?_
  refine EW.tab2 ?h1 ?h2 ?h3
  case h1 => decide
  case h3 => rfl
  refine EW.callT (T := "int") ?c1 ?c2 ?c3 ?c4 ?c5 ?c6 ?c7
  case c1 => exact hB.int
  case c2 => exact bb_int
  case c4 => rfl
  case c5 => rfl
  case c6 => decide +kernel
  case c7 => decide +kernel
  refine AW.cons (LW.cons ?_)
  refine EW.var rfl ?_
  refine LW.nil ?_
  refine call_int_int' ?_
  refine ⟨which, rfl, ?_⟩
  rcases hw with rfl | rfl
  · exact .inl ⟨rfl, SW.nil ⟨rfl, rfl⟩⟩
  · exact .inr ⟨rfl, SW.nil ⟨rfl, rfl⟩⟩
theorem restore_2 : XW p n .body (mkEnv (fnScope (nthS P1 2)) L f q cd) rS2 (fun fl st1 => fl = .next ∧ st1 = rst2 delta which σ) (fun _ _ => False) (rst1 delta which σ) := by
  refine XW.assign ?_
  refine EW.tup ?_
  refine LW.cons ?_
  refine EW.str ?_
  refine LW.cons ?_
  refine EW.var rfl ?_
  refine LW.nil ?_
  exact ⟨⟨rfl, rfl⟩, by simp⟩

theorem restore_3 {x : Str} {st : St} (hy : st.ρ "line" = some (.str x)) (hp : st.ρ "prefixes" = some (.tup [.str (Str.ofString "  "), .str (tagOf which)])) (hz : x.length ≤ 1000) (hd : Dat (.str (Txt.slice x none (some 2)))) (ht : Dat (.tup [.str (Str.ofString "  "), .str (tagOf which)]))
    {test : Expr} (he : test = .Compare (.Subscript (.Name (Str.ofString "line") ⟨12, 11, 12, 15⟩) (.Slice none (some (.Constant (.int 2) 0 ⟨12, 17, 12, 18⟩)) none ⟨12, 16, 12, 18⟩) ⟨12, 11, 12, 19⟩) [.In] [.Name (Str.ofString "prefixes") ⟨12, 23, 12, 31⟩] ⟨12, 11, 12, 31⟩) :
    TW p n .body (mkEnv (fnScope (nthS P1 2)) L f q cd) test (fun c st1 => c = (restF (tagOf which) x).isSome ∧ st1 = st) (fun _ _ => False) st := by
  subst he
  refine TW.cmp ?_
  refine EW.cut ?_
  refine EW.var hy ?_
  refine OW.no ?_
  refine OW.yes ?_
  refine EW.int ?_
  refine cut_str .none (.int _) ?_ (by (first | lia | omega))
  refine EW.var hp ?_
  refine in_tup hd ht ?_
  refine truthy_bool ?_
  refine ⟨?_, rfl⟩
  rw [in2]
  unfold restF
  split <;> simp_all
end

theorem restore_go {p : PC} {n : Nat} {f : Addr} {delta : List Str} {which : Int} {σ : Addr → Option AObj} (hB : KB p) (hw : which = 1 ∨ which = 2) 
    (hd : ∀ y ∈ delta, y.length ≤ 1000 ∧ Dat (.str (Txt.slice y none (some 2)))) (ht : Dat (.tup [.str (Str.ofString "  "), .str (tagOf which)])) :
    GenGo p n (fnBody (nthS P1 2)) (fnScope (nthS P1 2)) f [("delta", .lst (delta.map .str)), ("which", .int which)] (delta.filterMap (restF (tagOf which))) σ := by
  intro A N L q cd outer hBh h hidC Sa s oS hG hSn hk S
  have hO : AOK n .body (A.over (.func (fnBody (nthS P1 2)) (mkEnv (fnScope (nthS P1 2)) L f q cd)) []) (mkEnv (fnScope (nthS P1 2)) L f q cd) outer := hG.func rfl rfl rfl rfl
  refine seg_func ?_
  rw [show execs (fnBody (nthS P1 2)) (mkEnv (fnScope (nthS P1 2)) L f q cd) = execs [rS1, rS2, rS3] (mkEnv (fnScope (nthS P1 2)) L f q cd) from by rw [rS_all]]
  have R1 := restore_1 (p := p.gens N) (n := n) (L := L) (f := f) (q := q) (cd := cd) (delta := delta) (σ := σ) hB.gens hw
  have R2 := restore_2 (p := p.gens N) (n := n) (L := L) (f := f) (q := q) (cd := cd) (delta := delta) (which := which) (σ := σ)
  generalize rS1 = s1 at *
  generalize rS2 = s2 at *
  refine seg_execs_cons (seg_wrap ?_)
  refine wpAny_mono (R1.run _ _ _ _ _ hO S) (fun fl t1 z_ => z_.elim fun h1 y st1 k1 S1 r1 q1 => ?_) fun _ _ z => z.never.elim
  obtain ⟨rfl, rfl⟩ := q1
  cases r1
  refine seg_execs_cons (seg_wrap ?_)
  refine wpAny_mono (R2.run _ _ _ _ _ hO S1) (fun fl t2 z_ => z_.elim fun h2 y st2 k2 S2 r2 q2 => ?_) fun _ _ z => z.never.elim
  obtain ⟨rfl, rfl⟩ := q2
  cases r2
  refine seg_execs_cons (seg_For ?_)
  refine wpAny_mono ((ItE.of (p := p.gens N) (n := n) (b := .body) (target := .Name (Str.ofString "line") ⟨11, 8, 11, 12⟩) (X := fun _ _ => False) (Q := fun its G st1 => its = delta.map .str ∧ G = (fun σ => IsL σ (.lst (delta.map .str)) (delta.map .str)) ∧ st1 = rst2 delta which σ)
    (EW.var rfl ⟨_, _, iter_list (.inl rfl), rfl, rfl, rfl⟩)) _ _ _ _ _ _ hO S2 fun t3 h3 it as os J its G st3 k3 I hfr hlen hJ S3 hq => ?_) (fun x s3 hx => wpAny_mono hx (fun _ _ z => z) fun _ _ z => z.never) fun _ _ z => z.never
  obtain ⟨rfl, rfl, rfl⟩ := hq
  intro pp
  have hSas : Sa ∉ as := fun hm => by have := hfr Sa hm; rw [upd_same] at this; cases this
  have has : ∀ a ∈ as, hidC a = none := fun a ha => by
    have := hfr a ha
    have hne : a ≠ Sa := fun z => hSas (z ▸ ha)
    rw [upd_ne _ _ hne] at this; exact this
  refine gen_loop (p := p.gens N) (x := "line") (F := restF (tagOf which)) (D := fun y => y.length ≤ 1000 ∧ Dat (.str (Txt.slice y none (some 2)))) (Inv := fun st => st.σ = σ ∧ st.ρ "prefixes" = some (.tup [.str (Str.ofString "  "), .str (tagOf which)])) (hs := h3)
    hG rfl rfl rfl rfl rfl rfl rfl (fun st y ⟨a, b⟩ => ⟨a, b⟩) (fun st y hy ⟨_, hp⟩ hl => restore_3 hl hp hy.1 hy.2 ht rfl) ?_ (fun st h => h.1) (fun st h => .inl rfl) I hSn has hSas ?_ delta [] os s t3 h3 _ oS (fun y hy => hd y hy) rfl hJ ⟨rfl, rfl⟩ ?_ ?_ (.refl _) S3
  · intro st y z hy hI hl hF
    have hz : z = Txt.slice y (some 2) none := by
      unfold restF at hF
      split at hF
      · cases hF; rfl
      · cases hF
    subst hz
    refine EW.cut ?_
    refine EW.var hl ?_
    refine OW.yes ?_
    refine EW.int ?_
    refine OW.no ?_
    refine cut_str (.int _) .none ?_ (by have := hy.1; (first | lia | omega))
    exact ⟨rfl, rfl⟩
  · intro u₀ u hR
    exact seg_end (.ok (.ret .none)) hR
  · exact (S.hidd _ _ (upd_same ..)).1
  · exact hk.trans ((k1.trans k2).trans k3)
end Mine

end

section
open PySem PySem.W PyProof.Rows PySem.Calls
set_option maxRecDepth 100000
namespace Mine

noncomputable def methS (s : Stmt) (j : Nat) : Stmt := (clsBody s).getD j (.Pass ⟨0, 0, 0, 0⟩)

/-- where the sorter's classes and methods lie -/
structure Ad where
  (cN iN dN dP dS cT iT get add prep ready act done find cyc : Addr)

structure FnK (p : PC) (f : Addr) (s : Stmt) (dV : Value) : Prop where
  ex : ∃ fo fd, FnOK p f (fnArgs s) (fnBody s) (fnScope s) dV fo fd

structure KS (p : PC) (a : Ad) : Prop where
  clsN : KCls p a.cN
  sNode : KSlot p a.cN (Str.ofString "node") a.dN 0
  sPred : KSlot p a.cN (Str.ofString "npredecessors") a.dP 1
  sSucc : KSlot p a.cN (Str.ofString "successors") a.dS 2
  initN : FnK p a.iN (methS (nthS P1 6) 1) .none
  nsN : nsIn p.K mainGlobals (Str.ofString "_NodeInfo") = some (some (.ref a.cN))
  keepN : keepIn p.K (.ref a.cN) = true
  makesN : makesIn p.K a.cN = true
  findN : findIn p.K (.ref a.cN) "__init__" = some (some (.ref a.iN))
  typeN : typeIn p.K (.ref a.iN) = some (.type "function")
  mGet : KMeth p a.cT (Str.ofString "_get_nodeinfo") a.get
  fGet : FnK p a.get (methS (nthS P1 8) 1) .none
  clsT : KCls p a.cT
  dictT : hasDictIn p.K a.cT = true
  t1 : takerIn p.K a.cT (Str.ofString "_node2info") = some none
  t2 : takerIn p.K a.cT (Str.ofString "_ready_nodes") = some none
  t3 : takerIn p.K a.cT (Str.ofString "_npassedout") = some none
  t4 : takerIn p.K a.cT (Str.ofString "_nfinished") = some none
  f1 : findIn p.K (.ref a.cT) (Str.ofString "_node2info") = some none
  f2 : findIn p.K (.ref a.cT) (Str.ofString "_ready_nodes") = some none
  f3 : findIn p.K (.ref a.cT) (Str.ofString "_npassedout") = some none
  f4 : findIn p.K (.ref a.cT) (Str.ofString "_nfinished") = some none

variable {p : PC} {n : Nat} {b : Mode} {env : Env} {X : Value → St → Prop} {st : St} {ad : Ad}

theorem sset0 {a : AV} : sset [] 0 a = [some a] := rfl

theorem initN_body {L' f : Addr} {q : Str} {cd : Value} {σ : Addr → Option AObj} {x : Addr} {node : Str} {Q : AF → St → Prop} (hS : KS p ad) (hx : σ x = some (.slots ad.cN []))
    (h : ∀ l st', σ l = none → l ≠ x → st'.σ = upd (upd σ l (.list [])) x (.slots ad.cN [some (.str node), some (.int 0), some (.ref l)]) → Q .next st') :
    SW p n .body (mkEnv (fnScope (methS (nthS P1 6) 1)) L' f q cd) (fnBody (methS (nthS P1 6) 1)) Q X ⟨fun y => [("self", AV.ref x), ("node", AV.str node)].reverse.lookup y, σ⟩ := by
  refine SW.cons ?_
  refine XW.assignAttr ?_
  refine EW.var rfl ?_
  refine EW.var rfl ?_
  refine sa_slot hx hS.clsN hS.sNode ?_
  dsimp only
  refine SW.cons ?_
  refine XW.assignAttr ?_
  refine EW.int ?_
  refine EW.var rfl ?_
  refine sa_slot (upd_same ..) hS.clsN hS.sPred ?_
  dsimp only
  refine SW.cons ?_
  refine XW.assignAttr ?_
  refine EW.listM ?_
  refine LW.nil ?_
  refine ⟨fun l hl => ?_, by simp⟩
  have hlx : l ≠ x := fun z => by
    subst z
    have : upd (upd σ l (.slots ad.cN (sset [] 0 (.str node)))) l _ l = none := hl
    rw [upd_same] at this; cases this
  have hl0 : σ l = none := by
    have : upd (upd σ x (.slots ad.cN (sset [] 0 (.str node)))) x _ l = none := hl
    rwa [upd_ne _ _ hlx, upd_ne _ _ hlx] at this
  refine EW.var rfl ?_
  refine sa_slot (vs := sset (sset [] 0 (.str node)) 1 (.int 0)) (C := ad.cN) ?_ hS.clsN hS.sSucc ?_
  · show upd (upd (upd σ x _) x _) l _ x = _
    rw [upd_ne _ _ hlx.symm, upd_same]
  dsimp only
  refine SW.nil ?_
  refine h l _ hl0 hlx ?_
  show upd (upd (upd (upd σ x _) x _) l _) x _ = _
  funext y
  by_cases h1 : y = x
  · subst h1; rw [upd_same, upd_same]; rfl
  · rw [upd_ne _ _ h1, upd_ne _ _ h1]
    by_cases h2 : y = l
    · subst h2; rw [upd_same, upd_same]
    · rw [upd_ne _ _ h2, upd_ne _ _ h2, upd_ne _ _ h1, upd_ne _ _ h1]

theorem aset_le {es : List (Str × AV)} {k : Str} {v : AV} {m : Nat} (h : es.length ≤ m) : (aset es k v).length ≤ m + 1 := by
  unfold aset; split <;> simp <;> (first | lia | omega)
noncomputable def attrs (nd : Addr) (r : AV) (po nf : Int) : List (Str × AV) := [(Str.ofString "_node2info", .ref nd), (Str.ofString "_ready_nodes", r), (Str.ofString "_npassedout", .int po), (Str.ofString "_nfinished", .int nf)]
theorem initT_body {L' f : Addr} {q : Str} {cd : Value} {σ : Addr → Option AObj} {x dx : Addr} {Q : AF → St → Prop} (hS : KS p ad) (hx : σ x = some (.inst ad.cT dx)) (hdx : σ dx = some (.dict [] 0)) (hne : x ≠ dx)
    (h : ∀ nd ep st', σ nd = none → st'.σ = upd (upd σ nd (.dict [] 0)) dx (.dict (attrs nd .none 0 0) ep) → Q .next st') :
    SW p n .body (mkEnv (fnScope (methS (nthS P1 8) 0)) L' f q cd) (fnBody (methS (nthS P1 8) 0)) Q X ⟨fun y => [("self", AV.ref x), ("graph", AV.none)].reverse.lookup y, σ⟩ := by
  refine SW.cons ?_
  refine XW.assignAttr ?_
  refine EW.dict0 fun nd hnd => ?_
  replace hnd : σ nd = none := hnd
  have hnx : x ≠ nd := fun z => by rw [← z, hx] at hnd; cases hnd
  have hnd' : dx ≠ nd := fun z => by rw [← z, hdx] at hnd; cases hnd
  refine EW.var rfl ?_
  refine sa_dict (C := ad.cT) (dx := dx) (es := []) (ep := 0) ?_ ?_ hS.clsT hS.dictT hS.t1 (fun ep1 => ?_) (by simp)
  · show upd σ nd _ x = _; rw [upd_ne _ _ hnx]; exact hx
  · show upd σ nd _ dx = _; rw [upd_ne _ _ hnd']; exact hdx
  dsimp only
  refine SW.cons ?_
  refine XW.assignAttr ?_
  refine EW.noneC ?_
  refine EW.var rfl ?_
  refine sa_dict (C := ad.cT) (dx := dx) (ep := ep1) ?_ (upd_same ..) hS.clsT hS.dictT hS.t2 (fun ep2 => ?_) (by simp [aset])
  · show upd (upd σ nd _) dx _ x = _; rw [upd_ne _ _ hne, upd_ne _ _ hnx]; exact hx
  dsimp only
  refine SW.cons ?_
  refine XW.assignAttr ?_
  refine EW.int ?_
  refine EW.var rfl ?_
  refine sa_dict (C := ad.cT) (dx := dx) (ep := ep2) ?_ (upd_same ..) hS.clsT hS.dictT hS.t3 (fun ep3 => ?_) (aset_le (m := 999) (aset_le (m := 998) (by decide)))
  · show upd (upd (upd σ nd _) dx _) dx _ x = _; rw [upd_ne _ _ hne, upd_ne _ _ hne, upd_ne _ _ hnx]; exact hx
  dsimp only
  refine SW.cons ?_
  refine XW.assignAttr ?_
  refine EW.int ?_
  refine EW.var rfl ?_
  refine sa_dict (C := ad.cT) (dx := dx) (ep := ep3) ?_ (upd_same ..) hS.clsT hS.dictT hS.t4 (fun ep4 => ?_) (aset_le (m := 999) (aset_le (m := 998) (aset_le (m := 997) (by decide))))
  · show upd (upd (upd (upd σ nd _) dx _) dx _) dx _ x = _; rw [upd_ne _ _ hne, upd_ne _ _ hne, upd_ne _ _ hne, upd_ne _ _ hnx]; exact hx
  dsimp only
  refine SW.cons ?_
  refine XW.iff ?_
  refine TW.cmp ?_
  refine EW.var rfl ?_
  refine EW.noneC ?_
  refine isnot_none_f ?_
  refine truthy_bool ?_
  rw [if_neg (by decide)]
  refine SW.nil ?_
  refine SW.nil ?_
  refine h nd ep4 _ hnd ?_
  show upd (upd (upd (upd (upd σ nd _) dx _) dx _) dx _) dx _ = _
  rw [upd_upd, upd_upd, upd_upd]
  rfl
end Mine

end

section
open PySem PySem.W PyProof.Rows PySem.Calls
set_option maxRecDepth 100000
namespace Mine

variable {p : PC} {n : Nat} {b : Mode} {env : Env} {X : Value → St → Prop} {st : St} {ad : Ad}

structure Info where
  name : Str
  addr : Addr
  succ : Addr
  np : Int
  ss : List Str
structure Srt where
  x : Addr
  dx : Addr
  nd : Addr
  infos : List Info
  ready : Option (Addr × List Str)
  po : Int
  nf : Int
noncomputable def readyA : Option (Addr × List Str) → AV
  | none => .none
  | some (a, _) => .ref a
noncomputable def infoD (l : List Info) : List (Str × AV) := l.map fun i => (i.name, .ref i.addr)
noncomputable def infoO (ad : Ad) (i : Info) : AObj := .slots ad.cN [some (.str i.name), some (.int i.np), some (.ref i.succ)]

/-- the sorter stands at S -/
structure SR (ad : Ad) (σ : Addr → Option AObj) (S : Srt) : Prop where
  hx : σ S.x = some (.inst ad.cT S.dx)
  hdx : ∃ ep, σ S.dx = some (.dict (attrs S.nd (readyA S.ready) S.po S.nf) ep)
  hnd : ∃ ep, σ S.nd = some (.dict (infoD S.infos) ep)
  hin : ∀ i ∈ S.infos, σ i.addr = some (infoO ad i) ∧ σ i.succ = some (.list (i.ss.map .str))
  hrd : ∀ a l, S.ready = some (a, l) → σ a = some (.list (l.map .str)) ∧ ∀ i ∈ S.infos, i.succ ≠ a
  names : (S.infos.map (·.name)).Nodup
  addrs : (S.infos.map (·.addr)).Nodup
  succs : (S.infos.map (·.succ)).Nodup
  ne : S.dx ≠ S.nd

theorem aget_info {l : List Info} {nm : Str} : (∀ i ∈ l, i.name = nm → (l.map (·.name)).Nodup → aget (infoD l) nm = some (.ref i.addr)) ∧ ((∀ i ∈ l, i.name ≠ nm) → aget (infoD l) nm = none) := by
  unfold aget infoD
  induction l with
  | nil => simp
  | cons j l ih =>
    constructor
    · intro i hi hn hnd
      simp only [List.map_cons, List.nodup_cons] at hnd
      simp only [List.map_cons, List.find?_cons]
      rcases List.mem_cons.mp hi with rfl | hi'
      · simp [hn]
      · have hj : j.name ≠ nm := fun z => hnd.1 (by rw [z, ← hn]; exact List.mem_map_of_mem hi')
        simp only [hj, decide_false]
        exact ih.1 i hi' hn hnd.2
    · intro h
      simp only [List.map_cons, List.find?_cons]
      have hj := h j (.head _)
      simp only [hj, decide_false]
      exact ih.2 fun i hi => h i (.tail _ hi)
theorem aset_new {l : List Info} {nm : Str} {v : AV} (h : ∀ i ∈ l, i.name ≠ nm) : aset (infoD l) nm v = infoD l ++ [(nm, v)] := by
  unfold aset
  rw [if_neg]
  simp only [infoD, List.any_map, List.any_eq_true, Function.comp, decide_eq_true_eq, not_exists, not_and]
  exact h
theorem bind2 {p : PC} {f : Addr} {fo : Obj} {fd : FuncData} {x y : AV} (F : FnOK p f (fnArgs (methS (nthS P1 6) 1)) (fnBody (methS (nthS P1 6) 1)) (fnScope (methS (nthS P1 6) 1)) .none fo fd) : BindA p fd [x, y] [("self", x), ("node", y)] := by
  refine BindA.plain rfl fun vs hl => ?_
  obtain ⟨v, vs, rfl⟩ : ∃ v r, vs = v :: r := by cases vs with | nil => cases hl | cons v r => exact ⟨v, r, rfl⟩
  obtain ⟨u, vs, rfl⟩ : ∃ v r, vs = v :: r := by cases vs with | nil => cases hl | cons v r => exact ⟨v, r, rfl⟩
  cases vs with
  | cons _ _ => simp at hl
  | nil =>
    have h1 := F.params
    have h2 := F.dflt
    have h3 := F.kwd
    obtain ⟨a1, a2, a3, a4, a5, a6, a7, a8⟩ := fd
    simp only at h1 h2 h3
    subst h1 h2 h3
    rfl

/-- _NodeInfo(node) -/
theorem makeN {σ : Addr → Option AObj} {ρ : String → Option AV} {node : Str} {Q : AV → St → Prop} (hS : KS p ad) (hb : b ≠ .handler)
    (h : ∀ x l, σ x = none → σ l = none → l ≠ x → Q (.ref x) ⟨ρ, upd (upd σ l (.list [])) x (infoO ad ⟨node, x, l, 0, []⟩)⟩) : CC p (n + 2) b env (.ref ad.cN) [.str node] Q X ⟨ρ, σ⟩ := by
  refine makeS hS.makesN hS.findN hS.typeN fun x hx => ?_
  obtain ⟨fo, fd, F⟩ := hS.initN.ex
  refine callFnC F (bind2 F) hb (by intro y hy; simp only [List.mem_cons, List.not_mem_nil, or_false] at hy; rcases hy with rfl | rfl <;> rfl) (by decide +kernel) rfl rfl rfl fun L' q cd => ?_
  refine initN_body hS (upd_same ..) fun l st' hl hne hσ => ⟨rfl, ?_⟩
  have hl' : σ l = none := by
    have : upd σ x _ l = none := hl
    rwa [upd_ne _ _ hne] at this
  have := h x l hx hl' hne
  rw [hσ]
  have e : upd (upd (upd σ x (.slots ad.cN [])) l (.list [])) x (.slots ad.cN [some (.str node), some (.int 0), some (.ref l)]) = upd (upd σ l (.list [])) x (infoO ad ⟨node, x, l, 0, []⟩) := by
    funext y
    by_cases h1 : y = x
    · subst h1; rw [upd_same, upd_same]; rfl
    · rw [upd_ne _ _ h1, upd_ne _ _ h1]
      by_cases h2 : y = l
      · subst h2; rw [upd_same, upd_same]
      · rw [upd_ne _ _ h2, upd_ne _ _ h2, upd_ne _ _ h1]
  show Q (.ref x) ⟨ρ, upd (upd (upd σ x (.slots ad.cN [])) l (.list [])) x (.slots ad.cN [some (.str node), some (.int 0), some (.ref l)])⟩
  rw [e]; exact this
end Mine

end

section
open PySem PySem.W PyProof.Rows PySem.Calls
set_option maxRecDepth 100000
namespace Mine
variable {p : PC} {n : Nat} {b : Mode} {env : Env} {X : Value → St → Prop} {st : St} {ad : Ad}

theorem ag_n2i {nd : Addr} {r : AV} {po nf : Int} : aget (attrs nd r po nf) (Str.ofString "_node2info") = some (.ref nd) := rfl

theorem get_body {L' f : Addr} {q : Str} {cd : Value} {σ : Addr → Option AObj} {S : Srt} {node : Str} {Q : AF → St → Prop} (hS : KS p ad) (hR : SR ad σ S) (hz : S.infos.length ≤ 1000)
    (hold : ∀ i ∈ S.infos, i.name = node → ∀ st', st'.σ = σ → Q (.ret (.ref i.addr)) st')
    (hnew : (∀ i ∈ S.infos, i.name ≠ node) → ∀ x l st', SR ad st'.σ { S with infos := S.infos ++ [⟨node, x, l, 0, []⟩] } → Q (.ret (.ref x)) st') :
    SW p (n + 2) .body (mkEnv (fnScope (methS (nthS P1 8) 1)) L' f q cd) (fnBody (methS (nthS P1 8) 1)) Q X ⟨fun y => [("self", AV.ref S.x), ("node", AV.str node)].reverse.lookup y, σ⟩ := by
  obtain ⟨ep1, hdx⟩ := hR.hdx
  obtain ⟨ep2, hnd⟩ := hR.hnd
  refine SW.cons ?_
  refine XW.iff ?_
  refine TW.cmp ?_
  refine EW.named ?_
  refine EW.callM ?_
  refine EW.attr ?_
  refine EW.var rfl ?_
  refine ga_dict hR.hx hdx hS.clsT hS.dictT hS.f1 ag_n2i ?_
  refine MW.builtin (recv_dict hnd) F.plainAttrs_dict F.slot_dict_get F.type_dict_get ?_
  refine AW.cons (LW.cons ?_)
  refine EW.var rfl ?_
  refine LW.nil ?_
  refine call_dget hnd ?_
  refine AsW.name ?_
  refine EW.noneC ?_
  by_cases hex : ∃ i ∈ S.infos, i.name = node
  · obtain ⟨i, hi, hin⟩ := hex
    rw [aget_info.1 i hi hin hR.names]
    refine is_none_f (by intro z; cases z) ?_
    refine truthy_bool ?_
    rw [if_neg (by decide)]
    refine SW.nil ?_
    dsimp only
    refine SW.cons ?_
    refine XW.ret ?_
    refine EW.var rfl ?_
    exact hold i hi hin _ rfl
  · have hno : ∀ i ∈ S.infos, i.name ≠ node := fun i hi z => hex ⟨i, hi, z⟩
    rw [aget_info.2 hno]
    refine is_none_t ?_
    refine truthy_bool ?_
    rw [if_pos rfl]
    refine SW.cons ?_
    refine XW.assign2 ?_
    refine EW.callK hS.nsN hS.keepN ?_
    refine AW.cons (LW.cons ?_)
    refine EW.var rfl ?_
    refine LW.nil ?_
    refine CC.cw (makeN hS (by decide) fun x l hx hl hlx => ?_)
    replace hx : σ x = none := hx
    replace hl : σ l = none := hl
    have away : ∀ a o, σ a = some o → upd (upd σ l (.list [])) x (infoO ad ⟨node, x, l, 0, []⟩) a = some o := fun a o e => by
      have h1 : a ≠ x := fun z => by rw [z, hx] at e; cases e
      have h2 : a ≠ l := fun z => by rw [z, hl] at e; cases e
      rw [upd_ne _ _ h1, upd_ne _ _ h2]; exact e
    refine AsW.sub ?_
    refine EW.attr ?_
    refine EW.var rfl ?_
    refine ga_dict (away _ _ hR.hx) (away _ _ hdx) hS.clsT hS.dictT hS.f1 ag_n2i ?_
    refine EW.var rfl ?_
    refine si_dict (away _ _ hnd) (fun ep' => ?_) (by unfold infoD; simp; (first | lia | omega))
    refine AsW.name ?_
    dsimp only
    refine SW.nil ?_
    dsimp only
    refine SW.cons ?_
    refine XW.ret ?_
    refine EW.var rfl ?_
    refine hnew hno x l _ ?_
    show SR ad (upd (upd (upd σ l (.list [])) x (infoO ad ⟨node, x, l, 0, []⟩)) S.nd (.dict (aset (infoD S.infos) node (.ref x)) ep')) _
    have away2 : ∀ a o, σ a = some o → a ≠ S.nd → upd (upd (upd σ l (.list [])) x (infoO ad ⟨node, x, l, 0, []⟩)) S.nd (.dict (aset (infoD S.infos) node (.ref x)) ep') a = some o := fun a o e h => by
      rw [upd_ne _ _ h]; exact away a o e
    have xnd : x ≠ S.nd := fun z => by rw [z, hnd] at hx; cases hx
    have lnd : l ≠ S.nd := fun z => by rw [z, hnd] at hl; cases hl
    refine ⟨away2 _ _ hR.hx fun z => ?_, ⟨ep1, away2 _ _ hdx hR.ne⟩, ⟨ep', ?_⟩, fun i hi => ?_, fun a l' e => ?_, ?_, ?_, ?_, hR.ne⟩
    · have := hR.hx; rw [z, hnd] at this; cases this
    · rw [upd_same, aset_new hno]
      show _ = some (AObj.dict (infoD (S.infos ++ [_])) ep')
      simp [infoD]
    · rcases List.mem_append.mp hi with hi | hi
      · obtain ⟨e1, e2⟩ := hR.hin i hi
        refine ⟨away2 _ _ e1 fun z => ?_, away2 _ _ e2 fun z => ?_⟩
        · rw [z, hnd] at e1; cases e1
        · rw [z, hnd] at e2; cases e2
      · simp only [List.mem_singleton] at hi
        subst hi
        refine ⟨?_, ?_⟩
        · show upd (upd (upd σ l _) x _) S.nd _ x = _
          rw [upd_ne _ _ xnd, upd_same]
        · show upd (upd (upd σ l _) x _) S.nd _ l = _
          rw [upd_ne _ _ lnd, upd_ne _ _ hlx, upd_same]; rfl
    · obtain ⟨e1, e2⟩ := hR.hrd a l' e
      refine ⟨away2 _ _ e1 fun z => ?_, fun i hi => ?_⟩
      · rw [z, hnd] at e1; cases e1
      · rcases List.mem_append.mp hi with hi | hi
        · exact e2 i hi
        · simp only [List.mem_singleton] at hi
          subst hi
          intro z
          have z' : l = a := z
          rw [z', e1] at hl; cases hl
    · show ((S.infos ++ [_]).map Info.name).Nodup
      rw [List.map_append, List.nodup_append]
      refine ⟨hR.names, by simp, fun a ha c hc => ?_⟩
      obtain ⟨i, hi, rfl⟩ := List.mem_map.mp ha
      simp only [List.map_cons, List.map_nil, List.mem_singleton] at hc
      rw [hc]; exact hno i hi
    · show ((S.infos ++ [_]).map Info.addr).Nodup
      rw [List.map_append, List.nodup_append]
      refine ⟨hR.addrs, by simp, fun a ha c hc => ?_⟩
      obtain ⟨i, hi, rfl⟩ := List.mem_map.mp ha
      simp only [List.map_cons, List.map_nil, List.mem_singleton] at hc
      rw [hc]
      intro z
      have := (hR.hin i hi).1
      rw [z, hx] at this; cases this
    · show ((S.infos ++ [_]).map Info.succ).Nodup
      rw [List.map_append, List.nodup_append]
      refine ⟨hR.succs, by simp, fun a ha c hc => ?_⟩
      obtain ⟨i, hi, rfl⟩ := List.mem_map.mp ha
      simp only [List.map_cons, List.map_nil, List.mem_singleton] at hc
      rw [hc]
      intro z
      have := (hR.hin i hi).2
      rw [z, hl] at this; cases this
end Mine

end

section
open PySem PySem.W PyProof.Rows PySem.Calls
set_option maxRecDepth 100000
namespace Mine
variable {p : PC} {n : Nat} {b : Mode} {env : Env} {X : Value → St → Prop} {st : St} {ad : Ad}

/-! the graph, without addresses -/
structure Nod where
  name : Str
  np : Int
  ss : List Str
noncomputable def Info.nod (i : Info) : Nod := ⟨i.name, i.np, i.ss⟩
noncomputable def gTouch (g : List Nod) (nm : Str) : List Nod := if g.any (fun x => x.name == nm) then g else g ++ [⟨nm, 0, []⟩]
noncomputable def gMore (g : List Nod) (nm : Str) (k : Int) : List Nod := g.map fun x => if x.name = nm then { x with np := x.np + k } else x
noncomputable def gSucc (g : List Nod) (nm s : Str) : List Nod := g.map fun x => if x.name = nm then { x with ss := x.ss ++ [s] } else x
noncomputable def gAdd (g : List Nod) (nm : Str) (preds : List Str) : List Nod := preds.foldl (fun g q => gSucc (gTouch g q) q nm) (gMore (gTouch g nm) nm preds.length)

noncomputable def setNp (l : List Info) (nm : Str) (k : Int) : List Info := l.map fun j => if j.name = nm then { j with np := k } else j
noncomputable def setSs (l : List Info) (nm : Str) (s : List Str) : List Info := l.map fun j => if j.name = nm then { j with ss := s } else j
theorem setNp_name (l : List Info) (nm : Str) (k : Int) : (setNp l nm k).map Info.name = l.map Info.name ∧ (setNp l nm k).map Info.addr = l.map Info.addr ∧ (setNp l nm k).map Info.succ = l.map Info.succ := by
  unfold setNp
  simp only [List.map_map]
  refine ⟨?_, ?_, ?_⟩ <;> (congr 1; funext j; simp only [Function.comp]; split <;> rfl)
theorem setSs_name (l : List Info) (nm : Str) (k : List Str) : (setSs l nm k).map Info.name = l.map Info.name ∧ (setSs l nm k).map Info.addr = l.map Info.addr ∧ (setSs l nm k).map Info.succ = l.map Info.succ := by
  unfold setSs
  simp only [List.map_map]
  refine ⟨?_, ?_, ?_⟩ <;> (congr 1; funext j; simp only [Function.comp]; split <;> rfl)
theorem infoD_eq {l l' : List Info} (h1 : l'.map Info.name = l.map Info.name) (h2 : l'.map Info.addr = l.map Info.addr) : infoD l' = infoD l := by
  unfold infoD
  induction l generalizing l' with
  | nil => cases l' with | nil => rfl | cons _ _ => simp at h1
  | cons i l ih =>
    cases l' with
    | nil => simp at h1
    | cons j l' =>
      simp only [List.map_cons, List.cons.injEq] at h1 h2 ⊢
      exact ⟨by rw [h1.1, h2.1], ih h1.2 h2.2⟩
theorem inj_of_nodup {α β : Type} {f : α → β} {l : List α} (h : (l.map f).Nodup) {a b : α} (ha : a ∈ l) (hb : b ∈ l) (e : f a = f b) : a = b := by
  induction l with
  | nil => cases ha
  | cons c l ih =>
    simp only [List.map_cons, List.nodup_cons] at h
    rcases List.mem_cons.mp ha with rfl | ha' <;> rcases List.mem_cons.mp hb with rfl | hb'
    · rfl
    · exact absurd (List.mem_map_of_mem hb') (e ▸ h.1)
    · exact absurd (List.mem_map_of_mem ha') (e ▸ h.1)
    · exact ih h.2 ha' hb'

theorem SR.np {σ : Addr → Option AObj} {S : Srt} (hR : SR ad σ S) {i : Info} (hi : i ∈ S.infos) (k : Int) : SR ad (upd σ i.addr (infoO ad { i with np := k })) { S with infos := setNp S.infos i.name k } := by
  have hA := (hR.hin i hi).1
  have no : ∀ a o, σ a = some o → (∀ vs, o ≠ .slots ad.cN vs) → upd σ i.addr (infoO ad { i with np := k }) a = some o := fun a o e h => by
    rw [upd_ne _ _ fun z => ?_]
    · exact e
    · rw [z, hA] at e; exact h _ (Option.some.inj e).symm
  obtain ⟨n1, n2, n3⟩ := setNp_name S.infos i.name k
  refine ⟨no _ _ hR.hx (by intro _ z; cases z), ?_, ?_, fun j hj => ?_, fun a l e => ?_, by show (_ : List Str).Nodup; rw [show ({ S with infos := setNp S.infos i.name k } : Srt).infos.map (·.name) = _ from n1]; exact hR.names, by rw [show ({ S with infos := setNp S.infos i.name k } : Srt).infos.map (·.addr) = _ from n2]; exact hR.addrs, by rw [show ({ S with infos := setNp S.infos i.name k } : Srt).infos.map (·.succ) = _ from n3]; exact hR.succs, hR.ne⟩
  · obtain ⟨ep, h⟩ := hR.hdx; exact ⟨ep, no _ _ h (by intro _ z; cases z)⟩
  · obtain ⟨ep, h⟩ := hR.hnd; exact ⟨ep, by rw [show infoD ({ S with infos := setNp S.infos i.name k } : Srt).infos = _ from infoD_eq n1 n2]; exact no _ _ h (by intro _ z; cases z)⟩
  · obtain ⟨j0, hj0, rfl⟩ := List.mem_map.mp (show j ∈ setNp S.infos i.name k from hj)
    obtain ⟨e1, e2⟩ := hR.hin j0 hj0
    by_cases hn : j0.name = i.name
    · have : j0 = i := inj_of_nodup hR.names hj0 hi hn
      subst this
      rw [if_pos rfl]
      exact ⟨upd_same .., no _ _ e2 (by intro _ z; cases z)⟩
    · rw [if_neg hn]
      refine ⟨?_, no _ _ e2 (by intro _ z; cases z)⟩
      rw [upd_ne _ _ fun z => hn (by rw [inj_of_nodup hR.addrs hj0 hi z])]
      exact e1
  · obtain ⟨e1, e2⟩ := hR.hrd a l e
    refine ⟨no _ _ e1 (by intro _ z; cases z), fun j hj => ?_⟩
    obtain ⟨j0, hj0, rfl⟩ := List.mem_map.mp (show j ∈ setNp S.infos i.name k from hj)
    have := e2 j0 hj0
    split <;> exact this

theorem SR.ss {σ : Addr → Option AObj} {S : Srt} (hR : SR ad σ S) {i : Info} (hi : i ∈ S.infos) (k : List Str) : SR ad (upd σ i.succ (.list (k.map .str))) { S with infos := setSs S.infos i.name k } := by
  have hA := (hR.hin i hi).2
  have no : ∀ a o, σ a = some o → (∀ vs, o ≠ .list vs) → upd σ i.succ (.list (k.map .str)) a = some o := fun a o e h => by
    rw [upd_ne _ _ fun z => ?_]
    · exact e
    · rw [z, hA] at e; exact h _ (Option.some.inj e).symm
  obtain ⟨n1, n2, n3⟩ := setSs_name S.infos i.name k
  refine ⟨no _ _ hR.hx (by intro _ z; cases z), ?_, ?_, fun j hj => ?_, fun a l e => ?_, by rw [show ({ S with infos := setSs S.infos i.name k } : Srt).infos.map (·.name) = _ from n1]; exact hR.names, by rw [show ({ S with infos := setSs S.infos i.name k } : Srt).infos.map (·.addr) = _ from n2]; exact hR.addrs, by rw [show ({ S with infos := setSs S.infos i.name k } : Srt).infos.map (·.succ) = _ from n3]; exact hR.succs, hR.ne⟩
  · obtain ⟨ep, h⟩ := hR.hdx; exact ⟨ep, no _ _ h (by intro _ z; cases z)⟩
  · obtain ⟨ep, h⟩ := hR.hnd; exact ⟨ep, by rw [show infoD ({ S with infos := setSs S.infos i.name k } : Srt).infos = _ from infoD_eq n1 n2]; exact no _ _ h (by intro _ z; cases z)⟩
  · obtain ⟨j0, hj0, rfl⟩ := List.mem_map.mp (show j ∈ setSs S.infos i.name k from hj)
    obtain ⟨e1, e2⟩ := hR.hin j0 hj0
    by_cases hn : j0.name = i.name
    · have : j0 = i := inj_of_nodup hR.names hj0 hi hn
      subst this
      rw [if_pos rfl]
      exact ⟨no _ _ e1 (by intro _ z; cases z), upd_same ..⟩
    · rw [if_neg hn]
      refine ⟨no _ _ e1 (by intro _ z; cases z), ?_⟩
      rw [upd_ne _ _ fun z => hn (by rw [inj_of_nodup hR.succs hj0 hi z])]
      exact e2
  · obtain ⟨e1, e2⟩ := hR.hrd a l e
    refine ⟨?_, fun j hj => ?_⟩
    · rw [upd_ne _ _ fun z => e2 i hi z.symm]; exact e1
    · obtain ⟨j0, hj0, rfl⟩ := List.mem_map.mp (show j ∈ setSs S.infos i.name k from hj)
      have := e2 j0 hj0
      split <;> exact this
end Mine

end

section
open PySem PySem.W PyProof.Rows PySem.Calls
set_option maxRecDepth 100000
namespace Mine
variable {p : PC} {n : Nat} {b : Mode} {env : Env} {X : Value → St → Prop} {st : St} {ad : Ad}

theorem bindGet {f : Addr} {fo : Obj} {fd : FuncData} {x y : AV} (F : FnOK p f (fnArgs (methS (nthS P1 8) 1)) (fnBody (methS (nthS P1 8) 1)) (fnScope (methS (nthS P1 8) 1)) .none fo fd) : BindA p fd [x, y] [("self", x), ("node", y)] := by
  refine BindA.plain rfl fun vs hl => ?_
  obtain ⟨v, vs, rfl⟩ : ∃ v r, vs = v :: r := by cases vs with | nil => cases hl | cons v r => exact ⟨v, r, rfl⟩
  obtain ⟨u, vs, rfl⟩ : ∃ v r, vs = v :: r := by cases vs with | nil => cases hl | cons v r => exact ⟨v, r, rfl⟩
  cases vs with
  | cons _ _ => simp at hl
  | nil =>
    have h1 := F.params
    have h2 := F.dflt
    have h3 := F.kwd
    obtain ⟨a1, a2, a3, a4, a5, a6, a7, a8⟩ := fd
    simp only at h1 h2 h3
    subst h1 h2 h3
    rfl
/-- self._get_nodeinfo(node) -/
theorem callGet {σ : Addr → Option AObj} {ρ : String → Option AV} {S : Srt} {node : Str} {Q : AV → St → Prop} (hS : KS p ad) (hb : b ≠ .handler) (hR : SR ad σ S) (hz : S.infos.length ≤ 1000)
    (hold : ∀ i ∈ S.infos, i.name = node → Q (.ref i.addr) ⟨ρ, σ⟩)
    (hnew : (∀ i ∈ S.infos, i.name ≠ node) → ∀ x l σ', SR ad σ' { S with infos := S.infos ++ [⟨node, x, l, 0, []⟩] } → Q (.ref x) ⟨ρ, σ'⟩) : CC p (n + 3) b env (.ref ad.get) [.ref S.x, .str node] Q X ⟨ρ, σ⟩ := by
  obtain ⟨fo, fd, F⟩ := hS.fGet.ex
  refine callFnC F (bindGet F) hb (by intro y hy; simp only [List.mem_cons, List.not_mem_nil, or_false] at hy; rcases hy with rfl | rfl <;> rfl) (by decide +kernel) rfl rfl rfl fun L' q cd => ?_
  refine get_body hS hR hz (fun i hi hn st' hσ => ?_) fun hno x l st' hR' => hnew hno x l _ hR'
  rw [hσ]; exact hold i hi hn
end Mine

end

section
open PySem PySem.W PyProof.Rows PySem.Calls
set_option maxRecDepth 100000
namespace Mine
variable {p : PC} {n : Nat} {b : Mode} {env : Env} {X : Value → St → Prop} {st : St} {ad : Ad}

theorem gTouch_old {l : List Info} {nm : Str} {i : Info} (hi : i ∈ l) (hn : i.name = nm) : gTouch (l.map Info.nod) nm = l.map Info.nod := by
  unfold gTouch
  rw [if_pos]
  simp only [List.any_map, List.any_eq_true, Function.comp, beq_iff_eq]
  exact ⟨i, hi, hn⟩
theorem gTouch_new {l : List Info} {nm : Str} {x s : Addr} (h : ∀ i ∈ l, i.name ≠ nm) : gTouch (l.map Info.nod) nm = (l ++ [(⟨nm, x, s, 0, []⟩ : Info)]).map Info.nod := by
  unfold gTouch
  rw [if_neg]
  · simp [Info.nod]
  · simp only [List.any_map, List.any_eq_true, Function.comp, beq_iff_eq, not_exists, not_and]
    exact h
theorem gMore_set {l : List Info} {i : Info} (hi : i ∈ l) (hn : (l.map Info.name).Nodup) (k : Int) : gMore (l.map Info.nod) i.name k = (setNp l i.name (i.np + k)).map Info.nod := by
  unfold gMore setNp
  simp only [List.map_map]
  refine List.map_congr_left fun j hj => ?_
  simp only [Function.comp]
  by_cases h : j.name = i.name
  · have : j = i := inj_of_nodup hn hj hi h
    subst this
    simp [Info.nod]
  · rw [if_neg h]
    show (if j.name = i.name then _ else _) = _
    rw [if_neg h]
theorem gSucc_set {l : List Info} {i : Info} (hi : i ∈ l) (hn : (l.map Info.name).Nodup) (s : Str) : gSucc (l.map Info.nod) i.name s = (setSs l i.name (i.ss ++ [s])).map Info.nod := by
  unfold gSucc setSs
  simp only [List.map_map]
  refine List.map_congr_left fun j hj => ?_
  simp only [Function.comp]
  by_cases h : j.name = i.name
  · have : j = i := inj_of_nodup hn hj hi h
    subst this
    simp [Info.nod]
  · rw [if_neg h]
    show (if j.name = i.name then _ else _) = _
    rw [if_neg h]

theorem call_lenT {l : List AV} {Q : AV → St → Prop} (h : Q (.int l.length) st) (hz : l.length ≤ 16777216) : CW p n b env (.builtin "len") [.tup l] Q X st :=
  GF.mk fun _ _ _ _ _ _ _ S hv => by
    obtain ⟨v, rfl, hv1⟩ := hv.one
    cases hv1 with | tup e r =>
    refine PyProof.Rows.len_tuple (tup_is (S.sub _ _ e)) (by rw [List.size_toArray, r.length]; (first | lia | omega)) (NP.mk (S.of_eq rfl rfl rfl) (.refl _) ?_ h)
    rw [List.size_toArray, r.length]; exact .int ..

/-- the same sorter, with other infos -/
structure Like (S S' : Srt) : Prop where
  x : S'.x = S.x
  dx : S'.dx = S.dx
  nd : S'.nd = S.nd
  ready : S'.ready = S.ready
  po : S'.po = S.po
  nf : S'.nf = S.nf
theorem Like.refl (S : Srt) : Like S S := ⟨rfl, rfl, rfl, rfl, rfl, rfl⟩
theorem Like.trans {S S' S'' : Srt} (h : Like S S') (g : Like S' S'') : Like S S'' := ⟨g.x.trans h.x, g.dx.trans h.dx, g.nd.trans h.nd, g.ready.trans h.ready, g.po.trans h.po, g.nf.trans h.nf⟩

theorem callGetT {σ : Addr → Option AObj} {ρ : String → Option AV} {S : Srt} {node : Str} {Q : AV → St → Prop} (hS : KS p ad) (hb : b ≠ .handler) (hR : SR ad σ S) (hz : S.infos.length ≤ 1000)
    (h : ∀ S' i σ', SR ad σ' S' → Like S S' → i ∈ S'.infos → i.name = node → S'.infos.map Info.nod = gTouch (S.infos.map Info.nod) node → Q (.ref i.addr) ⟨ρ, σ'⟩) : CC p (n + 3) b env (.ref ad.get) [.ref S.x, .str node] Q X ⟨ρ, σ⟩ := by
  refine callGet hS hb hR hz (fun i hi hn => h S i σ hR (.refl S) hi hn (gTouch_old hi hn).symm) fun hno x l σ' hR' => ?_
  exact h _ ⟨node, x, l, 0, []⟩ σ' hR' ⟨rfl, rfl, rfl, rfl, rfl, rfl⟩ (List.mem_append_right _ (.head _)) rfl (gTouch_new hno).symm
end Mine

end

section
open PySem PySem.W PyProof.Rows PySem.Calls
set_option maxRecDepth 100000
namespace Mine
variable {p : PC} {n : Nat} {b : Mode} {env : Env} {X : Value → St → Prop} {st : St} {ad : Ad}


theorem ag_ready {nd : Addr} {r : AV} {po nf : Int} : aget (attrs nd r po nf) (Str.ofString "_ready_nodes") = some r := rfl
theorem ag_none {nd : Addr} {r : AV} {po nf : Int} : aget (attrs nd r po nf) (Str.ofString "_get_nodeinfo") = none := rfl


theorem gTouch_len (g : List Nod) (nm : Str) : (gTouch g nm).length ≤ g.length + 1 := by
  unfold gTouch; split <;> simp
theorem gMore_len (g : List Nod) (nm : Str) (k : Int) : (gMore g nm k).length = g.length := by simp [gMore]
theorem gSucc_len (g : List Nod) (nm s : Str) : (gSucc g nm s).length = g.length := by simp [gSucc]
noncomputable def SsLe (g : List Nod) (B : Nat) : Prop := ∀ x ∈ g, x.ss.length ≤ B
theorem SsLe.touch {g : List Nod} {B : Nat} (h : SsLe g B) (nm : Str) : SsLe (gTouch g nm) B := by
  unfold gTouch
  split
  · exact h
  · intro x hx
    rcases List.mem_append.mp hx with hx | hx
    · exact h x hx
    · simp only [List.mem_singleton] at hx; subst hx; exact Nat.zero_le _
theorem SsLe.more {g : List Nod} {B : Nat} (h : SsLe g B) (nm : Str) (k : Int) : SsLe (gMore g nm k) B := by
  intro x hx
  obtain ⟨y, hy, rfl⟩ := List.mem_map.mp hx
  have := h y hy
  split <;> exact this
theorem SsLe.succ {g : List Nod} {B : Nat} (h : SsLe g B) (nm s : Str) : SsLe (gSucc g nm s) (B + 1) := by
  intro x hx
  obtain ⟨y, hy, rfl⟩ := List.mem_map.mp hx
  have := h y hy
  split
  · simpa using this
  · (first | lia | omega)
theorem SsLe.info {l : List Info} {B : Nat} (h : SsLe (l.map Info.nod) B) {i : Info} (hi : i ∈ l) : i.ss.length ≤ B := h i.nod (List.mem_map_of_mem hi)

theorem add_body {L' f : Addr} {q : Str} {cd : Value} {σ : Addr → Option AObj} {S : Srt} {node : Str} {preds : List Str} {B : Nat} {Q : AF → St → Prop} (hS : KS p ad) (hB : KB p) (hR : SR ad σ S) (hr : S.ready = none)
    (hz : S.infos.length + preds.length ≤ 900) (hB0 : SsLe (S.infos.map Info.nod) B) (hBz : B + preds.length ≤ 900)
    (h : ∀ S' st', SR ad st'.σ S' → Like S S' → S'.infos.map Info.nod = gAdd (S.infos.map Info.nod) node preds → Q .next st') :
    SW p (n + 3) .body (mkEnv (fnScope (methS (nthS P1 8) 2)) L' f q cd) (fnBody (methS (nthS P1 8) 2)) Q X ⟨fun y => [("self", AV.ref S.x), ("node", AV.str node), ("predecessors", AV.tup (preds.map .str))].reverse.lookup y, σ⟩ := by
  obtain ⟨ep1, hdx⟩ := hR.hdx
  repeat (first | refine SW.cons ?_ | refine XW.assign ?_ | refine XW.iff ?_ | refine XW.ret ?_ | refine XW.expr ?_ | refine XW.assignAttr ?_ | refine XW.augAttr ?_ | refine TW.cmp ?_ | refine TW.not ?_ | refine EW.var (by first | exact rfl | assumption) ?_ | refine EW.int ?_ | refine EW.str ?_ | refine EW.bool ?_ | refine EW.noneC ?_ | refine EW.attr ?_ | refine EW.callM ?_ | refine EW.binop ?_ | refine EW.tup ?_ | refine EW.list ?_ | refine EW.cut ?_ | refine EW.sub ?_ | refine LW.nil ?_ | refine LW.cons ?_ | refine AW.cons ?_ | refine AW.nil ?_ | refine truthy_bool ?_ | refine AsW.name ?_ | dsimp only)
  refine ga_dict hR.hx hdx hS.clsT hS.dictT hS.f2 ag_ready ?_
  rw [hr]
  refine EW.noneC ?_
  refine isnot_none_f ?_
  refine truthy_bool ?_
  rw [if_neg (by decide)]
  refine SW.nil ?_
  repeat (first | refine SW.cons ?_ | refine XW.assign ?_ | refine XW.iff ?_ | refine XW.ret ?_ | refine XW.expr ?_ | refine XW.assignAttr ?_ | refine XW.augAttr ?_ | refine TW.cmp ?_ | refine TW.not ?_ | refine EW.var (by first | exact rfl | assumption) ?_ | refine EW.int ?_ | refine EW.str ?_ | refine EW.bool ?_ | refine EW.noneC ?_ | refine EW.attr ?_ | refine EW.callM ?_ | refine EW.binop ?_ | refine EW.tup ?_ | refine EW.list ?_ | refine EW.cut ?_ | refine EW.sub ?_ | refine LW.nil ?_ | refine LW.cons ?_ | refine AW.cons ?_ | refine AW.nil ?_ | refine truthy_bool ?_ | refine AsW.name ?_ | dsimp only)
  refine MW.own hR.hx hdx hS.clsT hS.mGet ag_none ?_
  repeat (first | refine SW.cons ?_ | refine XW.assign ?_ | refine XW.iff ?_ | refine XW.ret ?_ | refine XW.expr ?_ | refine XW.assignAttr ?_ | refine XW.augAttr ?_ | refine TW.cmp ?_ | refine TW.not ?_ | refine EW.var (by first | exact rfl | assumption) ?_ | refine EW.int ?_ | refine EW.str ?_ | refine EW.bool ?_ | refine EW.noneC ?_ | refine EW.attr ?_ | refine EW.callM ?_ | refine EW.binop ?_ | refine EW.tup ?_ | refine EW.list ?_ | refine EW.cut ?_ | refine EW.sub ?_ | refine LW.nil ?_ | refine LW.cons ?_ | refine AW.cons ?_ | refine AW.nil ?_ | refine truthy_bool ?_ | refine AsW.name ?_ | dsimp only)
  refine CC.cw (callGetT hS (by decide) hR (by (first | lia | omega)) fun S1 i1 σ1 hR1 hl1 hi1 hn1 hg1 => ?_)
  repeat (first | refine SW.cons ?_ | refine XW.assign ?_ | refine XW.iff ?_ | refine XW.ret ?_ | refine XW.expr ?_ | refine XW.assignAttr ?_ | refine XW.augAttr ?_ | refine TW.cmp ?_ | refine TW.not ?_ | refine EW.var (by first | exact rfl | assumption) ?_ | refine EW.int ?_ | refine EW.str ?_ | refine EW.bool ?_ | refine EW.noneC ?_ | refine EW.attr ?_ | refine EW.callM ?_ | refine EW.binop ?_ | refine EW.tup ?_ | refine EW.list ?_ | refine EW.cut ?_ | refine EW.sub ?_ | refine LW.nil ?_ | refine LW.cons ?_ | refine AW.cons ?_ | refine AW.nil ?_ | refine truthy_bool ?_ | refine AsW.name ?_ | dsimp only)
  obtain ⟨hia, his⟩ := hR1.hin i1 hi1
  refine ga_slot hia hS.clsN hS.sPred rfl ?_
  refine EW.callB hB.len bb_len ?_
  repeat (first | refine SW.cons ?_ | refine XW.assign ?_ | refine XW.iff ?_ | refine XW.ret ?_ | refine XW.expr ?_ | refine XW.assignAttr ?_ | refine XW.augAttr ?_ | refine TW.cmp ?_ | refine TW.not ?_ | refine EW.var (by first | exact rfl | assumption) ?_ | refine EW.int ?_ | refine EW.str ?_ | refine EW.bool ?_ | refine EW.noneC ?_ | refine EW.attr ?_ | refine EW.callM ?_ | refine EW.binop ?_ | refine EW.tup ?_ | refine EW.list ?_ | refine EW.cut ?_ | refine EW.sub ?_ | refine LW.nil ?_ | refine LW.cons ?_ | refine AW.cons ?_ | refine AW.nil ?_ | refine truthy_bool ?_ | refine AsW.name ?_ | dsimp only)
  refine call_lenT ?_ (by simp; (first | lia | omega))
  rw [List.length_map]
  refine iadd_int ?_
  refine sa_slot hia hS.clsN hS.sPred ?_
  have hR2 := hR1.np hi1 (i1.np + preds.length)
  repeat (first | refine SW.cons ?_ | refine XW.assign ?_ | refine XW.iff ?_ | refine XW.ret ?_ | refine XW.expr ?_ | refine XW.assignAttr ?_ | refine XW.augAttr ?_ | refine TW.cmp ?_ | refine TW.not ?_ | refine EW.var (by first | exact rfl | assumption) ?_ | refine EW.int ?_ | refine EW.str ?_ | refine EW.bool ?_ | refine EW.noneC ?_ | refine EW.attr ?_ | refine EW.callM ?_ | refine EW.binop ?_ | refine EW.tup ?_ | refine EW.list ?_ | refine EW.cut ?_ | refine EW.sub ?_ | refine LW.nil ?_ | refine LW.cons ?_ | refine AW.cons ?_ | refine AW.nil ?_ | refine truthy_bool ?_ | refine AsW.name ?_ | dsimp only)
  have hg2 : (setNp S1.infos i1.name (i1.np + preds.length)).map Info.nod = gMore (gTouch (S.infos.map Info.nod) node) node preds.length := by
    rw [← gMore_set hi1 hR1.names, hg1, hn1]
  have hSB : SsLe (gMore (gTouch (S.infos.map Info.nod) node) node preds.length) B := (hB0.touch _).more _ _
  have hlen2 : (gMore (gTouch (S.infos.map Info.nod) node) node preds.length).length ≤ S.infos.length + 1 := by
    rw [gMore_len]
    have := gTouch_len (S.infos.map Info.nod) node
    simpa using this
  refine XW.for rfl (ItE.of (EW.var rfl ⟨_, _, iter_tup, ?_⟩))
  refine ForW.run (fun r st => ∃ dn rest S', r = rest.map .str ∧ preds = dn ++ rest ∧ st.ρ "self" = some (.ref S.x) ∧ st.ρ "node" = some (.str node) ∧ SR ad st.σ S' ∧ Like S S' ∧ S'.infos.map Info.nod = dn.foldl (fun g q => gSucc (gTouch g q) q node) (gMore (gTouch (S.infos.map Info.nod) node) node preds.length)
      ∧ SsLe (S'.infos.map Info.nod) (B + dn.length) ∧ S'.infos.length ≤ S.infos.length + 1 + dn.length)
    (fun _ _ _ => trivial) ?_ ?_ _ _ ⟨[], preds, _, rfl, rfl, rfl, rfl, hR2, hl1.trans ⟨rfl, rfl, rfl, rfl, rfl, rfl⟩, hg2, by rw [hg2]; exact hSB, ?_⟩
  · rintro st ⟨dn, rest, S', hr', hp, h1, h2, h3, h4, h5, h6, h7⟩
    cases rest with
    | cons _ _ => cases hr'
    | nil =>
      rw [List.append_nil] at hp
      subst hp
      exact SW.nil (SW.nil (h S' st h3 h4 h5))
  · rintro v r st ⟨dn, rest, S', hr', hp, h1, h2, h3, h4, h5, h6, h7⟩
    cases rest with
    | nil => cases hr'
    | cons pr rest =>
      cases hr'
      have hpl : preds.length = dn.length + 1 + rest.length := by rw [hp]; simp; (first | lia | omega)
      obtain ⟨ep3, hdx3⟩ := h3.hdx
      repeat (first | refine SW.cons ?_ | refine XW.assign ?_ | refine XW.iff ?_ | refine XW.ret ?_ | refine XW.expr ?_ | refine XW.assignAttr ?_ | refine XW.augAttr ?_ | refine TW.cmp ?_ | refine TW.not ?_ | refine EW.var (by first | exact rfl | assumption) ?_ | refine EW.int ?_ | refine EW.str ?_ | refine EW.bool ?_ | refine EW.noneC ?_ | refine EW.attr ?_ | refine EW.callM ?_ | refine EW.binop ?_ | refine EW.tup ?_ | refine EW.list ?_ | refine EW.cut ?_ | refine EW.sub ?_ | refine LW.nil ?_ | refine LW.cons ?_ | refine AW.cons ?_ | refine AW.nil ?_ | refine truthy_bool ?_ | refine AsW.name ?_ | dsimp only)
      rw [← h4.x]
      refine MW.own h3.hx hdx3 hS.clsT hS.mGet ag_none ?_
      repeat (first | refine SW.cons ?_ | refine XW.assign ?_ | refine XW.iff ?_ | refine XW.ret ?_ | refine XW.expr ?_ | refine XW.assignAttr ?_ | refine XW.augAttr ?_ | refine TW.cmp ?_ | refine TW.not ?_ | refine EW.var (by first | exact rfl | assumption) ?_ | refine EW.int ?_ | refine EW.str ?_ | refine EW.bool ?_ | refine EW.noneC ?_ | refine EW.attr ?_ | refine EW.callM ?_ | refine EW.binop ?_ | refine EW.tup ?_ | refine EW.list ?_ | refine EW.cut ?_ | refine EW.sub ?_ | refine LW.nil ?_ | refine LW.cons ?_ | refine AW.cons ?_ | refine AW.nil ?_ | refine truthy_bool ?_ | refine AsW.name ?_ | dsimp only)
      refine CC.cw (callGetT hS (by decide) h3 (by (first | lia | omega)) fun S4 i4 σ4 hR4 hl4 hi4 hn4 hg4 => ?_)
      refine SW.cons ?_
      obtain ⟨hia4, his4⟩ := hR4.hin i4 hi4
      refine XW.append ?_
      refine EW.attr ?_
      refine EW.var rfl ?_
      refine ga_slot hia4 hS.clsN hS.sSucc rfl ⟨i4.succ, rfl, ?_, _, his4⟩
      refine EW.var h2 ?_
      have hB4 : SsLe (S4.infos.map Info.nod) (B + dn.length) := by rw [hg4]; exact h6.touch _
      refine ⟨_, his4, ?_, ?_⟩
      · have := hB4.info hi4
        simp; (first | lia | omega)
      refine SW.nil ?_
      have hR5 := hR4.ss hi4 (i4.ss ++ [node])
      have hg5 : (setSs S4.infos i4.name (i4.ss ++ [node])).map Info.nod = gSucc (gTouch (S'.infos.map Info.nod) pr) pr node := by
        rw [← gSucc_set hi4 hR4.names, hg4, hn4]
      refine ⟨dn ++ [pr], rest, { S4 with infos := setSs S4.infos i4.name (i4.ss ++ [node]) }, rfl, by rw [hp]; simp, by rw [h4.x]; exact h1, h2, ?_, (h4.trans hl4).trans ⟨rfl, rfl, rfl, rfl, rfl, rfl⟩, ?_, ?_, ?_⟩
      · rw [List.map_append] at hR5; exact hR5
      · show (setSs S4.infos i4.name (i4.ss ++ [node])).map Info.nod = _
        rw [hg5, h5, List.foldl_append]; rfl
      · show SsLe ((setSs S4.infos i4.name (i4.ss ++ [node])).map Info.nod) _
        rw [hg5, List.length_append]
        exact (h6.touch _).succ _ _
      · have e := congrArg List.length hg5
        rw [gSucc_len, List.length_map] at e
        have := gTouch_len (S'.infos.map Info.nod) pr
        simp only [List.length_map] at this
        show (setSs S4.infos i4.name (i4.ss ++ [node])).length ≤ _
        simp; (first | lia | omega)
  · have e := congrArg List.length hg2
    simp only [List.length_map] at e
    show (setNp S1.infos i1.name (i1.np + preds.length)).length ≤ _
    simp; (first | lia | omega)
end Mine

end

section
open PySem PySem.W PyProof.Rows PySem.Calls
set_option maxRecDepth 100000
namespace Mine
variable {p : PC} {n : Nat} {b : Mode} {env : Env} {X : Value → St → Prop} {st : St} {ad : Ad}

/-- more facts of the sorter's class -/
structure KS2 (p : PC) (a : Ad) : Prop extends KS p a where
  mAdd : KMeth p a.cT (Str.ofString "add") a.add
  fAdd : FnK p a.add (methS (nthS P1 8) 2) .none
  mPrep : KMeth p a.cT (Str.ofString "prepare") a.prep
  fPrep : FnK p a.prep (methS (nthS P1 8) 3) .none
  mReady : KMeth p a.cT (Str.ofString "get_ready") a.ready
  fReady : FnK p a.ready (methS (nthS P1 8) 4) .none
  mAct : KMeth p a.cT (Str.ofString "is_active") a.act
  fAct : FnK p a.act (methS (nthS P1 8) 5) .none
  mDone : KMeth p a.cT (Str.ofString "done") a.done
  fDone : FnK p a.done (methS (nthS P1 8) 7) .none
  mFind : KMeth p a.cT (Str.ofString "_find_cycle") a.find
  fFind : FnK p a.find (methS (nthS P1 8) 8) .none
  nsT : nsIn p.K mainGlobals (Str.ofString "TopologicalSorter") = some (some (.ref a.cT))
  keepT : keepIn p.K (.ref a.cT) = true
  makesT : makesIn p.K a.cT = true
  findT : findIn p.K (.ref a.cT) "__init__" = some (some (.ref a.iT))
  typeT : typeIn p.K (.ref a.iT) = some (.type "function")
  initT : ∃ t k, FnK p a.iT (methS (nthS P1 8) 0) (.ref t) ∧ p.K.lookup t = some (tupObj [.none] k)
  out : ∃ t, nsIn p.K mainGlobals (Str.ofString "_NODE_OUT") = some (some (.int (-1) t))
  dn : ∃ t, nsIn p.K mainGlobals (Str.ofString "_NODE_DONE") = some (some (.int (-2) t))
  nsC : nsIn p.K mainGlobals (Str.ofString "CycleError") = some (some (.ref a.cyc))

theorem bindAdd {f : Addr} {fo : Obj} {fd : FuncData} {x y : AV} {rest : List AV} (hz : rest.length ≤ 1000) (F : FnOK p f (fnArgs (methS (nthS P1 8) 2)) (fnBody (methS (nthS P1 8) 2)) (fnScope (methS (nthS P1 8) 2)) .none fo fd) : BindA p fd (x :: y :: rest) [("self", x), ("node", y), ("predecessors", .tup rest)] := by
  refine BindA.var (as := [x, y]) (bs := [("self", x), ("node", y)]) rfl (by (first | lia | omega)) fun vs rs hl => ?_
  obtain ⟨v, vs, rfl⟩ : ∃ v r, vs = v :: r := by cases vs with | nil => cases hl | cons v r => exact ⟨v, r, rfl⟩
  obtain ⟨u, vs, rfl⟩ : ∃ v r, vs = v :: r := by cases vs with | nil => cases hl | cons v r => exact ⟨v, r, rfl⟩
  cases vs with
  | cons _ _ => simp at hl
  | nil =>
    have h1 := F.params
    have h2 := F.dflt
    have h3 := F.kwd
    obtain ⟨a1, a2, a3, a4, a5, a6, a7, a8⟩ := fd
    simp only at h1 h2 h3
    subst h1 h2 h3
    cases rs with
    | nil => rfl
    | cons r rs => rfl

theorem bindInit {f t : Addr} {k : Nat} {fo : Obj} {fd : FuncData} {x : AV} (ht : p.K.lookup t = some (tupObj [.none] k)) (F : FnOK p f (fnArgs (methS (nthS P1 8) 0)) (fnBody (methS (nthS P1 8) 0)) (fnScope (methS (nthS P1 8) 0)) (.ref t) fo fd) : BindA p fd [x] [("self", x), ("graph", .none)] := by
  intro A L outer h₀ s st hid vs E Q S hv kk
  obtain ⟨v, rfl, hv1⟩ := hv.one
  have h1 := F.params
  have h2 := F.dflt
  have h3 := F.kwd
  obtain ⟨a1, a2, a3, a4, a5, a6, a7, a8⟩ := fd
  simp only at h1 h2 h3
  subst h1 h2 h3
  refine BindsTo.of_defaults (binds := [(Str.ofString "self", v), (Str.ofString "graph", .none)]) (T := t) rfl (S.inK _ _ ht) rfl rfl rfl _ _ _ _ ?_
  exact kk h₀ s [v, .none] (.refl _) S (.cons hv1 (.cons .none .nil))

/-- sorter.add(node, ..) -/
theorem callAdd {σ : Addr → Option AObj} {ρ : String → Option AV} {S : Srt} {node : Str} {preds : List Str} {B : Nat} {Q : AV → St → Prop} (hS : KS2 p ad) (hB : KB p) (hb : b ≠ .handler) (hR : SR ad σ S) (hr : S.ready = none)
    (hz : S.infos.length + preds.length ≤ 900) (hB0 : SsLe (S.infos.map Info.nod) B) (hBz : B + preds.length ≤ 900)
    (h : ∀ S' σ', SR ad σ' S' → Like S S' → S'.infos.map Info.nod = gAdd (S.infos.map Info.nod) node preds → Q .none ⟨ρ, σ'⟩) : CC p (n + 4) b env (.ref ad.add) (.ref S.x :: .str node :: preds.map .str) Q X ⟨ρ, σ⟩ := by
  obtain ⟨fo, fd, F⟩ := hS.fAdd.ex
  refine callFnC F (bindAdd (by simp; (first | lia | omega)) F) hb (by intro y hy; simp only [List.mem_cons, List.not_mem_nil, or_false] at hy; rcases hy with rfl | rfl | rfl <;> rfl) (by decide +kernel) rfl rfl rfl fun L' q cd => ?_
  exact add_body hS.toKS hB hR hr hz hB0 hBz fun S' st' hR' hl hg => h S' _ hR' hl hg

/-- TopologicalSorter() -/
theorem callNew {σ : Addr → Option AObj} {ρ : String → Option AV} {Q : AV → St → Prop} (hS : KS2 p ad) (hb : b ≠ .handler)
    (h : ∀ S σ', SR ad σ' S → S.infos = [] → S.ready = none → S.po = 0 → S.nf = 0 → Q (.ref S.x) ⟨ρ, σ'⟩) : CC p (n + 2) b env (.ref ad.cT) [] Q X ⟨ρ, σ⟩ := by
  refine makeD hS.makesT hS.findT hS.typeT fun x dx hx hdx hne => ?_
  obtain ⟨t, k, ⟨fo, fd, F⟩, ht⟩ := hS.initT
  refine callFnC F (bindInit ht F) hb (by intro y hy; simp only [List.mem_cons, List.not_mem_nil, or_false] at hy; rcases hy with rfl | rfl <;> rfl) (by decide +kernel) rfl rfl rfl fun L' q cd => ?_
  refine initT_body (x := x) (dx := dx) hS.toKS (upd_same ..) (by show upd (upd σ dx _) x _ dx = _; rw [upd_ne _ _ hne.symm, upd_same]) hne fun nd ep st' hnd hσ => ⟨rfl, ?_⟩
  replace hnd : upd (upd σ dx (.dict [] 0)) x (.inst ad.cT dx) nd = none := hnd
  have h1 : nd ≠ x := fun z => by rw [z, upd_same] at hnd; cases hnd
  have h2 : nd ≠ dx := fun z => by rw [z, upd_ne _ _ hne.symm, upd_same] at hnd; cases hnd
  refine h ⟨x, dx, nd, [], none, 0, 0⟩ st'.σ ?_ rfl rfl rfl rfl
  rw [hσ]
  refine ⟨?_, ⟨ep, upd_same ..⟩, ⟨0, ?_⟩, fun i hi => (by cases hi), fun a l e => (by cases e), .nil, .nil, .nil, h2.symm⟩
  · show upd (upd (upd (upd σ dx _) x _) nd _) dx _ x = _
    rw [upd_ne _ _ hne, upd_ne _ _ h1.symm, upd_same]
  · show upd (upd (upd (upd σ dx _) x _) nd _) dx _ nd = _
    rw [upd_ne _ _ h2, upd_same]; rfl
end Mine

end

section
open PySem PySem.W PyProof.Rows PySem.Calls
set_option maxRecDepth 100000
namespace Mine
variable {p : PC} {n : Nat} {b : Mode} {env : Env} {X : Value → St → Prop} {st : St} {ad : Ad}


noncomputable def forBody : Stmt → List Stmt
  | .For _ _ b _ _ => b
  | _ => []
noncomputable def dumS : Stmt := .Pass ⟨0, 0, 0, 0⟩
noncomputable def chainAdd : List Nod → Option Str → List Str → List Nod
  | g, _, [] => g
  | g, q, x :: r => chainAdd (gAdd g x q.toList) (some x) r
noncomputable def crossIdx (pace F k : Nat) : Nat := min (pace * k + pace) F
noncomputable def crossAdd (line : List Str) (F pace : Nat) : Nat → List Str → List Nod → List Nod
  | _, [], g => g
  | k, x :: r, g => crossAdd line F pace (k + 1) r (if line.getD (crossIdx pace F k) (Str.ofString "") = x then g else gAdd g x [line.getD (crossIdx pace F k) (Str.ofString "")])
noncomputable def lineOf (first : List Str) : List Str := first ++ [Str.ofString "end"]
noncomputable def sorterG (first second : List Str) (pace : Nat) : List Nod := crossAdd (lineOf first) first.length pace 0 second (chainAdd (chainAdd [] none (lineOf first)) none second)

theorem gFold_len (x : Str) : ∀ (preds : List Str) (g : List Nod), (preds.foldl (fun g q => gSucc (gTouch g q) q x) g).length ≤ g.length + preds.length
  | [], g => Nat.le_refl _
  | q :: r, g => by
    have h1 := gFold_len x r (gSucc (gTouch g q) q x)
    rw [gSucc_len] at h1
    have h2 := gTouch_len g q
    simp only [List.foldl_cons, List.length_cons]
    (first | lia | omega)
theorem gAdd_len (g : List Nod) (x : Str) (preds : List Str) : (gAdd g x preds).length ≤ g.length + 1 + preds.length := by
  unfold gAdd
  have h1 := gFold_len x preds (gMore (gTouch g x) x preds.length)
  rw [gMore_len] at h1
  have h2 := gTouch_len g x
  (first | lia | omega)
theorem gFold_ss (x : Str) : ∀ (preds : List Str) (g : List Nod) (B : Nat), SsLe g B → SsLe (preds.foldl (fun g q => gSucc (gTouch g q) q x) g) (B + preds.length)
  | [], g, B, h => h
  | q :: r, g, B, h => by
    have h1 := gFold_ss x r (gSucc (gTouch g q) q x) (B + 1) ((h.touch q).succ _ _)
    simp only [List.foldl_cons, List.length_cons]
    rw [show B + (r.length + 1) = B + 1 + r.length by (first | lia | omega)]
    exact h1
theorem gAdd_ss {g : List Nod} {B : Nat} (h : SsLe g B) (x : Str) (preds : List Str) : SsLe (gAdd g x preds) (B + preds.length) := gFold_ss x preds _ B ((h.touch x).more _ _)

theorem ag_add {nd : Addr} {r : AV} {po nf : Int} : aget (attrs nd r po nf) (Str.ofString "add") = none := rfl

/-- a new sorter with a graph, k sides' adds done -/
structure Fresh (ad : Ad) (σ : Addr → Option AObj) (x : Addr) (g : List Nod) (k : Nat) : Prop where
  ex : ∃ S, SR ad σ S ∧ S.x = x ∧ S.ready = none ∧ S.po = 0 ∧ S.nf = 0 ∧ S.infos.map Info.nod = g
  len : g.length ≤ 2 * k
  ss : SsLe g k

theorem Fresh.add {σ σ' : Addr → Option AObj} {x : Addr} {g : List Nod} {k : Nat} {S S' : Srt} {nm : Str} {preds : List Str} (F : Fresh ad σ x g k) (hp : preds.length ≤ 1) (hx : S.x = x) (hr : S.ready = none) (h1 : S.po = 0) (h2 : S.nf = 0) (hg : S.infos.map Info.nod = g)
    (hR : SR ad σ' S') (hl : Like S S') (hg' : S'.infos.map Info.nod = gAdd (S.infos.map Info.nod) nm preds) : Fresh ad σ' x (gAdd g nm preds) (k + 1) := by
  refine ⟨⟨S', hR, hl.x.trans hx, hl.ready.trans hr, hl.po.trans h1, hl.nf.trans h2, by rw [hg', hg]⟩, ?_, fun y hy => ?_⟩
  · have := gAdd_len g nm preds
    have := F.len
    (first | lia | omega)
  · have := gAdd_ss F.ss nm preds y hy
    (first | lia | omega)

theorem cut_last (dn rest : List Str) : (((dn ++ rest).map AV.str).drop (if (0 : Int) > (dn.length : Int) - 1 then 0 else (dn.length : Int) - 1).toNat).take ((dn.length : Int).toNat - (if (0 : Int) > (dn.length : Int) - 1 then 0 else (dn.length : Int) - 1).toNat) = dn.getLast?.toList.map AV.str := by
  rcases List.eq_nil_or_concat dn with rfl | ⟨dn', y, rfl⟩
  · simp
  · rw [List.concat_eq_append]
    have e1 : (if (0 : Int) > (((dn' ++ [y]).length : Nat) : Int) - 1 then 0 else (((dn' ++ [y]).length : Nat) : Int) - 1).toNat = dn'.length := by
      simp; split <;> (first | lia | omega)
    rw [e1]
    simp [List.drop_append]

/-- for k, text in enumerate(side): sorter.add(text, *side[max(k - 1, 0):k]) -/
theorem side_loop {L' f : Addr} {q : Str} {cd : Value} {side : List Str} {x : Addr} {g : List Nod} {k0 : Nat} {st : St} {Q : AF → St → Prop} (hS : KS2 p ad) (hB : KB p) (hz : side.length + k0 ≤ 100)
    (hs : st.ρ "sorter" = some (.ref x)) (hd : st.ρ "side" = some (.lst (side.map .str))) (hF : Fresh ad st.σ x g k0)
    (h : ∀ st', (∀ y, y ≠ "k" → y ≠ "text" → st'.ρ y = st.ρ y) → Fresh ad st'.σ x (chainAdd g none side) (k0 + side.length) → Q .next st') :
    SW p (n + 4) .body (mkEnv (fnScope (nthS P1 12)) L' f q cd) (forBody ((fnBody (nthS P1 12)).getD 2 dumS)) Q X st := by
  refine SW.cons ?_
  refine XW.for rfl (ItE.enum hB.enumerate ?_)
  refine EW.var hd ⟨_, .inl rfl, ?_⟩
  refine ForW.run (fun r st' => ∃ dn rest g', r = enumA dn.length (rest.map .str) ∧ side = dn ++ rest ∧ (∀ y, y ≠ "k" → y ≠ "text" → st'.ρ y = st.ρ y) ∧ Fresh ad st'.σ x g' (k0 + dn.length) ∧ chainAdd g none side = chainAdd g' dn.getLast? rest)
    (fun _ _ _ => .inl rfl) ?_ ?_ _ _ ⟨[], side, g, rfl, rfl, fun _ _ _ => rfl, hF, rfl⟩
  · rintro st' ⟨dn, rest, g', hr, hsd, hρ, hF', hg'⟩
    cases rest with
    | cons _ _ => cases hr
    | nil =>
      rw [List.append_nil] at hsd
      subst hsd
      refine SW.nil (SW.nil (h st' hρ ?_))
      rw [hg']; exact hF'
  · rintro v r st' ⟨dn, rest, g', hr, hsd, hρ, hF', hg'⟩
    cases rest with
    | nil => cases hr
    | cons t rest =>
      cases hr
      have hlen : side.length = dn.length + 1 + rest.length := by rw [hsd]; simp; (first | lia | omega)
      obtain ⟨⟨S, hR, hSx, hSr, hSp, hSn, hSg⟩, hFl, hFs⟩ := id hF'
      obtain ⟨ep, hdx⟩ := hR.hdx
      have hs' : st'.ρ "sorter" = some (.ref x) := by rw [hρ _ (by decide) (by decide)]; exact hs
      have hd' : st'.ρ "side" = some (.lst (side.map .str)) := by rw [hρ _ (by decide) (by decide)]; exact hd
      refine AsW.tup (by decide) ?_
      refine AsW.name ?_
      refine AsW.name ?_
      refine SW.cons ?_
      refine XW.expr ?_
      refine EW.callStar (x := x) (C := ad.cT) (dx := S.dx) (f := ad.add) hS.clsT hS.mAdd ?_
      refine EW.var hs' ⟨rfl, ⟨_, ep, hSx ▸ hR.hx, hdx, ag_add⟩, ?_⟩
      refine EW.var rfl ?_
      refine EW.cut ?_
      refine EW.var hd' ?_
      refine OW.yes ?_
      refine EW.callB hB.max bb_max ?_
      refine AW.cons (LW.cons ?_)
      refine EW.binop ?_
      refine EW.var rfl ?_
      refine EW.int ?_
      refine sub_int ?_
      refine LW.cons ?_
      refine EW.int ?_
      refine LW.nil ?_
      refine call_max ?_ (by decide)
      refine OW.yes ?_
      refine EW.var rfl ?_
      refine cut_run (.inl rfl) ?_ (by simp; (first | lia | omega)) (by split <;> (first | lia | omega))
      have hcut := cut_last dn (t :: rest)
      rw [← hsd] at hcut
      rw [hcut]
      refine ⟨_, .inl rfl, by simp; cases dn.getLast? <;> simp, ?_⟩
      have hp1 : (dn.getLast?.toList).length ≤ 1 := by cases dn.getLast? <;> simp
      have hxx := hSx
      subst hxx
      refine callAdd hS hB (by decide) hR hSr (B := k0 + dn.length) ?_ (by rw [hSg]; exact hFs) (by (first | lia | omega)) fun S' σ' hR' hl' hg2 => ?_
      · have : S.infos.length = g'.length := by rw [← hSg]; simp
        (first | lia | omega)
      refine SW.nil ?_
      refine ⟨dn ++ [t], rest, gAdd g' t dn.getLast?.toList, by simp, by rw [hsd]; simp, fun y h1 h2 => ?_, ?_, ?_⟩
      · show upd (upd st'.ρ _ _) _ _ y = _
        rw [upd_ne _ _ h2, upd_ne _ _ h1]; exact hρ y h1 h2
      · have := hF'.add hp1 rfl hSr hSp hSn hSg hR' hl' hg2
        simpa [Nat.add_assoc] using this
      · rw [hg']; simp [chainAdd]
end Mine

end

section
open PySem PySem.W PyProof.Rows PySem.Calls
set_option maxRecDepth 100000
namespace Mine
variable {p : PC} {n : Nat} {b : Mode} {env : Env} {X : Value → St → Prop} {st : St} {ad : Ad}


theorem mulOk_small {a c : Nat} (ha : a ≤ 3) : IntMulOk (a : Int) (c : Int) := by
  refine IntMulOk.of_left ?_
  have : ∀ a : Nat, a ≤ 3 → Builtin.Int.intBits (a : Int) ≤ 64 := by decide +kernel
  exact this a ha

theorem lsorter_body {L' f : Addr} {q : Str} {cd : Value} {first second : List Str} {pace : Nat} {σ : Addr → Option AObj} {Q : AF → St → Prop} (hS : KS2 p ad) (hB : KB p) (hf : first.length ≤ 15) (hs : second.length ≤ 15) (hp : pace ≤ 3)
    (h : ∀ x st', Fresh ad st'.σ x (sorterG first second pace) 46 → Q (.ret (.ref x)) st') :
    SW p (n + 4) .body (mkEnv (fnScope (nthS P1 12)) L' f q cd) (fnBody (nthS P1 12)) Q X ⟨fun y => [("first", AV.lst (first.map .str)), ("second", AV.lst (second.map .str)), ("pace", AV.int pace)].reverse.lookup y, σ⟩ := by
  iterate 4 (first | refine SW.cons ?_ | refine XW.assign ?_ | refine XW.iff ?_ | refine XW.ret ?_ | refine XW.expr ?_ | refine XW.assignAttr ?_ | refine XW.augAttr ?_ | refine TW.cmp ?_ | refine TW.not ?_ | refine EW.var (by first | exact rfl | assumption) ?_ | refine EW.int ?_ | refine EW.str ?_ | refine EW.bool ?_ | refine EW.noneC ?_ | refine EW.attr ?_ | refine EW.callM ?_ | refine EW.binop ?_ | refine EW.unop ?_ | refine EW.tup ?_ | refine EW.list ?_ | refine EW.cut ?_ | refine EW.sub ?_ | refine OW.no ?_ | refine OW.yes ?_ | refine LW.nil ?_ | refine LW.cons ?_ | refine AW.cons ?_ | refine AW.nil ?_ | refine truthy_bool ?_ | refine AsW.name ?_ | refine AsW.tup (by decide) ?_ | dsimp only)
  (first | refine SW.cons ?_ | refine XW.assign ?_ | refine XW.iff ?_ | refine XW.ret ?_ | refine XW.expr ?_ | refine XW.assignAttr ?_ | refine XW.augAttr ?_ | refine TW.cmp ?_ | refine TW.not ?_ | refine EW.var (by first | exact rfl | assumption) ?_ | refine EW.int ?_ | refine EW.str ?_ | refine EW.bool ?_ | refine EW.noneC ?_ | refine EW.attr ?_ | refine EW.callM ?_ | refine EW.binop ?_ | refine EW.unop ?_ | refine EW.tup ?_ | refine EW.list ?_ | refine EW.cut ?_ | refine EW.sub ?_ | refine OW.no ?_ | refine OW.yes ?_ | refine LW.nil ?_ | refine LW.cons ?_ | refine AW.cons ?_ | refine AW.nil ?_ | refine truthy_bool ?_ | refine AsW.name ?_ | refine AsW.tup (by decide) ?_ | dsimp only)
  (first | refine SW.cons ?_ | refine XW.assign ?_ | refine XW.iff ?_ | refine XW.ret ?_ | refine XW.expr ?_ | refine XW.assignAttr ?_ | refine XW.augAttr ?_ | refine TW.cmp ?_ | refine TW.not ?_ | refine EW.var (by first | exact rfl | assumption) ?_ | refine EW.int ?_ | refine EW.str ?_ | refine EW.bool ?_ | refine EW.noneC ?_ | refine EW.attr ?_ | refine EW.callM ?_ | refine EW.binop ?_ | refine EW.unop ?_ | refine EW.tup ?_ | refine EW.list ?_ | refine EW.cut ?_ | refine EW.sub ?_ | refine OW.no ?_ | refine OW.yes ?_ | refine LW.nil ?_ | refine LW.cons ?_ | refine AW.cons ?_ | refine AW.nil ?_ | refine truthy_bool ?_ | refine AsW.name ?_ | refine AsW.tup (by decide) ?_ | dsimp only)
  (first | refine SW.cons ?_ | refine XW.assign ?_ | refine XW.iff ?_ | refine XW.ret ?_ | refine XW.expr ?_ | refine XW.assignAttr ?_ | refine XW.augAttr ?_ | refine TW.cmp ?_ | refine TW.not ?_ | refine EW.var (by first | exact rfl | assumption) ?_ | refine EW.int ?_ | refine EW.str ?_ | refine EW.bool ?_ | refine EW.noneC ?_ | refine EW.attr ?_ | refine EW.callM ?_ | refine EW.binop ?_ | refine EW.unop ?_ | refine EW.tup ?_ | refine EW.list ?_ | refine EW.cut ?_ | refine EW.sub ?_ | refine OW.no ?_ | refine OW.yes ?_ | refine LW.nil ?_ | refine LW.cons ?_ | refine AW.cons ?_ | refine AW.nil ?_ | refine truthy_bool ?_ | refine AsW.name ?_ | refine AsW.tup (by decide) ?_ | dsimp only)
  refine LW.nil ⟨?_, by simp⟩
  refine add_lists (.inl rfl) (.inl rfl) ?_ (by simp; (first | lia | omega))
  rw [show (first.map AV.str ++ [.str (Str.ofString "end")]) = (lineOf first).map AV.str from by simp [lineOf]]
  (first | refine SW.cons ?_ | refine XW.assign ?_ | refine XW.iff ?_ | refine XW.ret ?_ | refine XW.expr ?_ | refine XW.assignAttr ?_ | refine XW.augAttr ?_ | refine TW.cmp ?_ | refine TW.not ?_ | refine EW.var (by first | exact rfl | assumption) ?_ | refine EW.int ?_ | refine EW.str ?_ | refine EW.bool ?_ | refine EW.noneC ?_ | refine EW.attr ?_ | refine EW.callM ?_ | refine EW.binop ?_ | refine EW.unop ?_ | refine EW.tup ?_ | refine EW.list ?_ | refine EW.cut ?_ | refine EW.sub ?_ | refine OW.no ?_ | refine OW.yes ?_ | refine LW.nil ?_ | refine LW.cons ?_ | refine AW.cons ?_ | refine AW.nil ?_ | refine truthy_bool ?_ | refine AsW.name ?_ | refine AsW.tup (by decide) ?_ | dsimp only)
  (first | refine SW.cons ?_ | refine XW.assign ?_ | refine XW.iff ?_ | refine XW.ret ?_ | refine XW.expr ?_ | refine XW.assignAttr ?_ | refine XW.augAttr ?_ | refine TW.cmp ?_ | refine TW.not ?_ | refine EW.var (by first | exact rfl | assumption) ?_ | refine EW.int ?_ | refine EW.str ?_ | refine EW.bool ?_ | refine EW.noneC ?_ | refine EW.attr ?_ | refine EW.callM ?_ | refine EW.binop ?_ | refine EW.unop ?_ | refine EW.tup ?_ | refine EW.list ?_ | refine EW.cut ?_ | refine EW.sub ?_ | refine OW.no ?_ | refine OW.yes ?_ | refine LW.nil ?_ | refine LW.cons ?_ | refine AW.cons ?_ | refine AW.nil ?_ | refine truthy_bool ?_ | refine AsW.name ?_ | refine AsW.tup (by decide) ?_ | dsimp only)
  (first | refine SW.cons ?_ | refine XW.assign ?_ | refine XW.iff ?_ | refine XW.ret ?_ | refine XW.expr ?_ | refine XW.assignAttr ?_ | refine XW.augAttr ?_ | refine TW.cmp ?_ | refine TW.not ?_ | refine EW.var (by first | exact rfl | assumption) ?_ | refine EW.int ?_ | refine EW.str ?_ | refine EW.bool ?_ | refine EW.noneC ?_ | refine EW.attr ?_ | refine EW.callM ?_ | refine EW.binop ?_ | refine EW.unop ?_ | refine EW.tup ?_ | refine EW.list ?_ | refine EW.cut ?_ | refine EW.sub ?_ | refine OW.no ?_ | refine OW.yes ?_ | refine LW.nil ?_ | refine LW.cons ?_ | refine AW.cons ?_ | refine AW.nil ?_ | refine truthy_bool ?_ | refine AsW.name ?_ | refine AsW.tup (by decide) ?_ | dsimp only)
  refine EW.callK hS.nsT hS.keepT ?_
  refine AW.nil ?_
  refine CC.cw (callNew hS (by decide) fun S σ1 hR hI hr h1 h2 => ?_)
  (first | refine SW.cons ?_ | refine XW.assign ?_ | refine XW.iff ?_ | refine XW.ret ?_ | refine XW.expr ?_ | refine XW.assignAttr ?_ | refine XW.augAttr ?_ | refine TW.cmp ?_ | refine TW.not ?_ | refine EW.var (by first | exact rfl | assumption) ?_ | refine EW.int ?_ | refine EW.str ?_ | refine EW.bool ?_ | refine EW.noneC ?_ | refine EW.attr ?_ | refine EW.callM ?_ | refine EW.binop ?_ | refine EW.unop ?_ | refine EW.tup ?_ | refine EW.list ?_ | refine EW.cut ?_ | refine EW.sub ?_ | refine OW.no ?_ | refine OW.yes ?_ | refine LW.nil ?_ | refine LW.cons ?_ | refine AW.cons ?_ | refine AW.nil ?_ | refine truthy_bool ?_ | refine AsW.name ?_ | refine AsW.tup (by decide) ?_ | dsimp only)
  (first | refine SW.cons ?_ | refine XW.assign ?_ | refine XW.iff ?_ | refine XW.ret ?_ | refine XW.expr ?_ | refine XW.assignAttr ?_ | refine XW.augAttr ?_ | refine TW.cmp ?_ | refine TW.not ?_ | refine EW.var (by first | exact rfl | assumption) ?_ | refine EW.int ?_ | refine EW.str ?_ | refine EW.bool ?_ | refine EW.noneC ?_ | refine EW.attr ?_ | refine EW.callM ?_ | refine EW.binop ?_ | refine EW.unop ?_ | refine EW.tup ?_ | refine EW.list ?_ | refine EW.cut ?_ | refine EW.sub ?_ | refine OW.no ?_ | refine OW.yes ?_ | refine LW.nil ?_ | refine LW.cons ?_ | refine AW.cons ?_ | refine AW.nil ?_ | refine truthy_bool ?_ | refine AsW.name ?_ | refine AsW.tup (by decide) ?_ | dsimp only)
  refine XW.for rfl (ItE.of ?_)
  refine EW.list ?_
  repeat (first | refine SW.cons ?_ | refine XW.assign ?_ | refine XW.iff ?_ | refine XW.ret ?_ | refine XW.expr ?_ | refine XW.assignAttr ?_ | refine XW.augAttr ?_ | refine TW.cmp ?_ | refine TW.not ?_ | refine EW.var (by first | exact rfl | assumption) ?_ | refine EW.int ?_ | refine EW.str ?_ | refine EW.bool ?_ | refine EW.noneC ?_ | refine EW.attr ?_ | refine EW.callM ?_ | refine EW.binop ?_ | refine EW.unop ?_ | refine EW.tup ?_ | refine EW.list ?_ | refine EW.cut ?_ | refine EW.sub ?_ | refine OW.no ?_ | refine OW.yes ?_ | refine LW.nil ?_ | refine LW.cons ?_ | refine AW.cons ?_ | refine AW.nil ?_ | refine truthy_bool ?_ | refine AsW.name ?_ | refine AsW.tup (by decide) ?_ | dsimp only)
  refine ⟨⟨_, _, iter_list (.inl rfl), ?_⟩, by simp⟩
  refine ⟨.inl rfl, ?_⟩
  refine AsW.name ?_
  refine side_loop (p := p) (ad := ad) (n := n) (L' := L') (f := f) (q := q) (cd := cd) (side := lineOf first) (x := S.x) (g := []) (k0 := 0) hS hB (by simp [lineOf]; (first | lia | omega)) rfl rfl ⟨⟨S, hR, rfl, hr, h1, h2, by rw [hI]; rfl⟩, by simp, fun y hy => by cases hy⟩ fun st1 hρ1 hF1 => ?_
  refine ⟨.inl rfl, ?_⟩
  refine AsW.name ?_
  have k1 : st1.ρ "sorter" = some (.ref S.x) := (hρ1 _ (by decide) (by decide)).trans rfl
  refine side_loop (p := p) (ad := ad) (n := n) (L' := L') (f := f) (q := q) (cd := cd) (side := second) (x := S.x) (g := chainAdd [] none (lineOf first)) (k0 := 0 + (lineOf first).length) hS hB (by simp [lineOf]; (first | lia | omega)) ?_ rfl hF1 fun st2 hρ2 hF2 => ?_
  · exact k1
  have get : ∀ y v, y ≠ "k" → y ≠ "text" → y ≠ "side" → st1.ρ y = some v → st2.ρ y = some v := fun y v h1 h2 h3 e => by
    rw [hρ2 y h1 h2]
    show upd st1.ρ "side" _ y = _
    rw [upd_ne _ _ h3]; exact e
  have g1 : st2.ρ "sorter" = some (.ref S.x) := get _ _ (by decide) (by decide) (by decide) k1
  have g2 : st2.ρ "second" = some (.lst (second.map .str)) := get _ _ (by decide) (by decide) (by decide) ((hρ1 _ (by decide) (by decide)).trans rfl)
  have g3 : st2.ρ "first" = some (.lst (first.map .str)) := get _ _ (by decide) (by decide) (by decide) ((hρ1 _ (by decide) (by decide)).trans rfl)
  have g4 : st2.ρ "line" = some (.lst ((lineOf first).map .str)) := get _ _ (by decide) (by decide) (by decide) ((hρ1 _ (by decide) (by decide)).trans rfl)
  have g5 : st2.ρ "pace" = some (.int pace) := get _ _ (by decide) (by decide) (by decide) ((hρ1 _ (by decide) (by decide)).trans rfl)
  refine ⟨.inl rfl, ?_⟩
  refine SW.nil ?_
  dsimp only
  refine SW.cons ?_
  refine XW.for rfl (ItE.enum hB.enumerate ?_)
  refine EW.var g2 ⟨_, .inl rfl, ?_⟩
  have hll : (lineOf first).length = first.length + 1 := by simp [lineOf]
  refine ForW.run (fun r st' => ∃ dn rest g', r = enumA (dn.length : Nat) (rest.map .str) ∧ second = dn ++ rest ∧ (∀ y, y ≠ "k" → y ≠ "text" → y ≠ "ahead" → st'.ρ y = st2.ρ y) ∧ (∃ k, k ≤ (lineOf first).length + second.length + dn.length ∧ Fresh ad st'.σ S.x g' k) ∧ sorterG first second pace = crossAdd (lineOf first) first.length pace dn.length rest g')
    (fun _ _ _ => .inl rfl) ?_ ?_ _ _ ⟨[], second, _, rfl, rfl, fun _ _ _ _ => rfl, ⟨_, by simp, hF2⟩, rfl⟩
  · rintro st' ⟨dn, rest, g', hr', hsd, hρ, ⟨k, hk, hF'⟩, hg'⟩
    cases rest with
    | cons _ _ => cases hr'
    | nil =>
      rw [List.append_nil] at hsd
      refine SW.nil ?_
      dsimp only
      refine SW.cons ?_
      refine XW.ret ?_
      refine EW.var ((hρ _ (by decide) (by decide) (by decide)).trans g1) ?_
      have hkk : k ≤ 46 := by rw [hll, hsd] at hk; rw [hsd] at hs; (first | lia | omega)
      refine h S.x st' ?_
      rw [hg']
      exact ⟨hF'.ex, by have := hF'.len; simp [crossAdd]; (first | lia | omega), fun y hy => by have := hF'.ss y hy; (first | lia | omega)⟩
  · rintro v r st' ⟨dn, rest, g', hr', hsd, hρ, ⟨k, hk, hF'⟩, hg'⟩
    cases rest with
    | nil => cases hr'
    | cons t rest =>
      cases hr'
      have hlen : second.length = dn.length + 1 + rest.length := by rw [hsd]; simp; (first | lia | omega)
      obtain ⟨⟨S', hR', hSx, hSr, hSp, hSn, hSg⟩, hFl, hFs⟩ := id hF'
      obtain ⟨ep, hdx⟩ := hR'.hdx
      have q1 : st'.ρ "sorter" = some (.ref S.x) := (hρ _ (by decide) (by decide) (by decide)).trans g1
      have q3 : st'.ρ "first" = some (.lst (first.map .str)) := (hρ _ (by decide) (by decide) (by decide)).trans g3
      have q4 : st'.ρ "line" = some (.lst ((lineOf first).map .str)) := (hρ _ (by decide) (by decide) (by decide)).trans g4
      have q5 : st'.ρ "pace" = some (.int pace) := (hρ _ (by decide) (by decide) (by decide)).trans g5
      repeat (first | refine SW.cons ?_ | refine XW.assign ?_ | refine XW.iff ?_ | refine XW.ret ?_ | refine XW.expr ?_ | refine XW.assignAttr ?_ | refine XW.augAttr ?_ | refine TW.cmp ?_ | refine TW.not ?_ | refine EW.var (by first | exact rfl | assumption) ?_ | refine EW.int ?_ | refine EW.str ?_ | refine EW.bool ?_ | refine EW.noneC ?_ | refine EW.attr ?_ | refine EW.callM ?_ | refine EW.binop ?_ | refine EW.unop ?_ | refine EW.tup ?_ | refine EW.list ?_ | refine EW.cut ?_ | refine EW.sub ?_ | refine OW.no ?_ | refine OW.yes ?_ | refine LW.nil ?_ | refine LW.cons ?_ | refine AW.cons ?_ | refine AW.nil ?_ | refine truthy_bool ?_ | refine AsW.name ?_ | refine AsW.tup (by decide) ?_ | dsimp only)
      refine EW.callB hB.min bb_min ?_
      repeat (first | refine SW.cons ?_ | refine XW.assign ?_ | refine XW.iff ?_ | refine XW.ret ?_ | refine XW.expr ?_ | refine XW.assignAttr ?_ | refine XW.augAttr ?_ | refine TW.cmp ?_ | refine TW.not ?_ | refine EW.var (by first | exact rfl | assumption) ?_ | refine EW.int ?_ | refine EW.str ?_ | refine EW.bool ?_ | refine EW.noneC ?_ | refine EW.attr ?_ | refine EW.callM ?_ | refine EW.binop ?_ | refine EW.unop ?_ | refine EW.tup ?_ | refine EW.list ?_ | refine EW.cut ?_ | refine EW.sub ?_ | refine OW.no ?_ | refine OW.yes ?_ | refine LW.nil ?_ | refine LW.cons ?_ | refine AW.cons ?_ | refine AW.nil ?_ | refine truthy_bool ?_ | refine AsW.name ?_ | refine AsW.tup (by decide) ?_ | dsimp only)
      refine mul_int ?_ (mulOk_small hp)
      repeat (first | refine SW.cons ?_ | refine XW.assign ?_ | refine XW.iff ?_ | refine XW.ret ?_ | refine XW.expr ?_ | refine XW.assignAttr ?_ | refine XW.augAttr ?_ | refine TW.cmp ?_ | refine TW.not ?_ | refine EW.var (by first | exact rfl | assumption) ?_ | refine EW.int ?_ | refine EW.str ?_ | refine EW.bool ?_ | refine EW.noneC ?_ | refine EW.attr ?_ | refine EW.callM ?_ | refine EW.binop ?_ | refine EW.unop ?_ | refine EW.tup ?_ | refine EW.list ?_ | refine EW.cut ?_ | refine EW.sub ?_ | refine OW.no ?_ | refine OW.yes ?_ | refine LW.nil ?_ | refine LW.cons ?_ | refine AW.cons ?_ | refine AW.nil ?_ | refine truthy_bool ?_ | refine AsW.name ?_ | refine AsW.tup (by decide) ?_ | dsimp only)
      refine add_int ?_
      repeat (first | refine SW.cons ?_ | refine XW.assign ?_ | refine XW.iff ?_ | refine XW.ret ?_ | refine XW.expr ?_ | refine XW.assignAttr ?_ | refine XW.augAttr ?_ | refine TW.cmp ?_ | refine TW.not ?_ | refine EW.var (by first | exact rfl | assumption) ?_ | refine EW.int ?_ | refine EW.str ?_ | refine EW.bool ?_ | refine EW.noneC ?_ | refine EW.attr ?_ | refine EW.callM ?_ | refine EW.binop ?_ | refine EW.unop ?_ | refine EW.tup ?_ | refine EW.list ?_ | refine EW.cut ?_ | refine EW.sub ?_ | refine OW.no ?_ | refine OW.yes ?_ | refine LW.nil ?_ | refine LW.cons ?_ | refine AW.cons ?_ | refine AW.nil ?_ | refine truthy_bool ?_ | refine AsW.name ?_ | refine AsW.tup (by decide) ?_ | dsimp only)
      refine EW.callB hB.len bb_len ?_
      repeat (first | refine SW.cons ?_ | refine XW.assign ?_ | refine XW.iff ?_ | refine XW.ret ?_ | refine XW.expr ?_ | refine XW.assignAttr ?_ | refine XW.augAttr ?_ | refine TW.cmp ?_ | refine TW.not ?_ | refine EW.var (by first | exact rfl | assumption) ?_ | refine EW.int ?_ | refine EW.str ?_ | refine EW.bool ?_ | refine EW.noneC ?_ | refine EW.attr ?_ | refine EW.callM ?_ | refine EW.binop ?_ | refine EW.unop ?_ | refine EW.tup ?_ | refine EW.list ?_ | refine EW.cut ?_ | refine EW.sub ?_ | refine OW.no ?_ | refine OW.yes ?_ | refine LW.nil ?_ | refine LW.cons ?_ | refine AW.cons ?_ | refine AW.nil ?_ | refine truthy_bool ?_ | refine AsW.name ?_ | refine AsW.tup (by decide) ?_ | dsimp only)
      refine call_len (.inl rfl) ?_ (by simp; (first | lia | omega))
      repeat (first | refine SW.cons ?_ | refine XW.assign ?_ | refine XW.iff ?_ | refine XW.ret ?_ | refine XW.expr ?_ | refine XW.assignAttr ?_ | refine XW.augAttr ?_ | refine TW.cmp ?_ | refine TW.not ?_ | refine EW.var (by first | exact rfl | assumption) ?_ | refine EW.int ?_ | refine EW.str ?_ | refine EW.bool ?_ | refine EW.noneC ?_ | refine EW.attr ?_ | refine EW.callM ?_ | refine EW.binop ?_ | refine EW.unop ?_ | refine EW.tup ?_ | refine EW.list ?_ | refine EW.cut ?_ | refine EW.sub ?_ | refine OW.no ?_ | refine OW.yes ?_ | refine LW.nil ?_ | refine LW.cons ?_ | refine AW.cons ?_ | refine AW.nil ?_ | refine truthy_bool ?_ | refine AsW.name ?_ | refine AsW.tup (by decide) ?_ | dsimp only)
      refine call_min ?_ (by decide)
      have hidx : (if ((first.map AV.str).length : Int) < (pace : Int) * (dn.length : Int) + pace then ((first.map AV.str).length : Int) else (pace : Int) * (dn.length : Int) + pace) = ((crossIdx pace first.length dn.length : Nat) : Int) := by
        unfold crossIdx
        simp only [List.length_map]
        rw [← Int.natCast_mul, ← Int.natCast_add]
        split <;> (first | lia | omega)
      rw [hidx]
      have hci : crossIdx pace first.length dn.length < (lineOf first).length := by
        rw [hll]; unfold crossIdx; (first | lia | omega)
      have hgd : (lineOf first)[crossIdx pace first.length dn.length]? = some ((lineOf first).getD (crossIdx pace first.length dn.length) (Str.ofString "")) := by
        simp [List.getD_eq_getElem?_getD, hci]
      refine idx_list (x := .str ((lineOf first).getD (crossIdx pace first.length dn.length) (Str.ofString ""))) (.inl rfl) (by (first | lia | omega)) (by simp only [Int.toNat_natCast, List.getElem?_map]; rw [hgd]; rfl) ?_
      repeat (first | refine SW.cons ?_ | refine XW.assign ?_ | refine XW.iff ?_ | refine XW.ret ?_ | refine XW.expr ?_ | refine XW.assignAttr ?_ | refine XW.augAttr ?_ | refine TW.cmp ?_ | refine TW.not ?_ | refine EW.var (by first | exact rfl | assumption) ?_ | refine EW.int ?_ | refine EW.str ?_ | refine EW.bool ?_ | refine EW.noneC ?_ | refine EW.attr ?_ | refine EW.callM ?_ | refine EW.binop ?_ | refine EW.unop ?_ | refine EW.tup ?_ | refine EW.list ?_ | refine EW.cut ?_ | refine EW.sub ?_ | refine OW.no ?_ | refine OW.yes ?_ | refine LW.nil ?_ | refine LW.cons ?_ | refine AW.cons ?_ | refine AW.nil ?_ | refine truthy_bool ?_ | refine AsW.name ?_ | refine AsW.tup (by decide) ?_ | dsimp only)
      refine ne_str ?_
      refine truthy_bool ?_
      by_cases heq : (lineOf first).getD (crossIdx pace first.length dn.length) (Str.ofString "") = t
      · rw [if_neg (by rw [heq]; simp)]
        refine SW.nil ?_
        refine SW.nil ?_
        refine ⟨dn ++ [t], rest, g', by simp, by rw [hsd]; simp, fun y h1 h2 h3 => ?_, ⟨k, by simp; (first | lia | omega), hF'⟩, ?_⟩
        · show upd (upd (upd st'.ρ _ _) _ _) _ _ y = _
          rw [upd_ne _ _ h3, upd_ne _ _ h2, upd_ne _ _ h1]; exact hρ y h1 h2 h3
        · rw [hg', crossAdd, if_pos heq]; simp
      · rw [if_pos (by simpa using heq)]
        repeat (first | refine SW.cons ?_ | refine XW.assign ?_ | refine XW.iff ?_ | refine XW.ret ?_ | refine XW.expr ?_ | refine XW.assignAttr ?_ | refine XW.augAttr ?_ | refine TW.cmp ?_ | refine TW.not ?_ | refine EW.var (by first | exact rfl | assumption) ?_ | refine EW.int ?_ | refine EW.str ?_ | refine EW.bool ?_ | refine EW.noneC ?_ | refine EW.attr ?_ | refine EW.callM ?_ | refine EW.binop ?_ | refine EW.unop ?_ | refine EW.tup ?_ | refine EW.list ?_ | refine EW.cut ?_ | refine EW.sub ?_ | refine OW.no ?_ | refine OW.yes ?_ | refine LW.nil ?_ | refine LW.cons ?_ | refine AW.cons ?_ | refine AW.nil ?_ | refine truthy_bool ?_ | refine AsW.name ?_ | refine AsW.tup (by decide) ?_ | dsimp only)
        have hxx := hSx
        rw [← hSx]
        refine MW.own hR'.hx hdx hS.clsT hS.mAdd ag_add ?_
        repeat (first | refine SW.cons ?_ | refine XW.assign ?_ | refine XW.iff ?_ | refine XW.ret ?_ | refine XW.expr ?_ | refine XW.assignAttr ?_ | refine XW.augAttr ?_ | refine TW.cmp ?_ | refine TW.not ?_ | refine EW.var (by first | exact rfl | assumption) ?_ | refine EW.int ?_ | refine EW.str ?_ | refine EW.bool ?_ | refine EW.noneC ?_ | refine EW.attr ?_ | refine EW.callM ?_ | refine EW.binop ?_ | refine EW.unop ?_ | refine EW.tup ?_ | refine EW.list ?_ | refine EW.cut ?_ | refine EW.sub ?_ | refine OW.no ?_ | refine OW.yes ?_ | refine LW.nil ?_ | refine LW.cons ?_ | refine AW.cons ?_ | refine AW.nil ?_ | refine truthy_bool ?_ | refine AsW.name ?_ | refine AsW.tup (by decide) ?_ | dsimp only)
        refine CC.cw (callAdd (preds := [(lineOf first).getD (crossIdx pace first.length dn.length) (Str.ofString "")]) hS hB (by decide) hR' hSr (B := k) ?_ (by rw [hSg]; exact hFs) (by simp; (first | lia | omega)) fun S2 σ2 hR2 hl2 hg2 => ?_)
        · have : S'.infos.length = g'.length := by rw [← hSg]; simp
          simp; (first | lia | omega)
        refine SW.nil ?_
        refine SW.nil ?_
        rw [hSx]
        refine ⟨dn ++ [t], rest, gAdd g' t [(lineOf first).getD (crossIdx pace first.length dn.length) (Str.ofString "")], by simp, by rw [hsd]; simp, fun y h1 h2 h3 => ?_, ⟨k + 1, by simp; (first | lia | omega), ?_⟩, ?_⟩
        · show upd (upd (upd st'.ρ _ _) _ _) _ _ y = _
          rw [upd_ne _ _ h3, upd_ne _ _ h2, upd_ne _ _ h1]; exact hρ y h1 h2 h3
        · exact hF'.add (by simp) hSx hSr hSp hSn hSg hR2 hl2 hg2
        · rw [hg', crossAdd, if_neg heq]; simp
end Mine

end

section
open PySem PySem.W PyProof.Rows PySem.Calls
set_option maxRecDepth 100000
namespace Mine

/-! the plain side of the search for a ring -/
noncomputable def succOf (g : List Nod) (x : Str) : List Str := ((g.find? fun y => y.name = x).map (·.ss)).getD []
noncomputable def Topo (succ : Str → List Str) : List Str → Prop
  | [] => True
  | w :: r => (∀ y ∈ succ w, y ∈ r) ∧ Topo succ r
noncomputable def Cyc (g : List Nod) : Prop := ∃ C : Str → Prop, (∃ x, C x) ∧ ∀ x, C x → ∃ y ∈ succOf g x, C y
theorem succOf_mem {g : List Nod} {x y : Str} (h : y ∈ succOf g x) : ∃ z ∈ g, z.name = x ∧ z.ss = succOf g x := by
  unfold succOf at h ⊢
  cases e : g.find? fun y => y.name = x with
  | none => rw [e] at h; simp at h
  | some z => exact ⟨z, List.mem_of_find?_eq_some e, by simpa using List.find?_some e, rfl⟩
theorem succOf_eq {g : List Nod} (hn : (g.map (·.name)).Nodup) {z : Nod} (hz : z ∈ g) : succOf g z.name = z.ss := by
  unfold succOf
  cases e : g.find? fun y => y.name = z.name with
  | none => have := List.find?_eq_none.mp e z hz; simp at this
  | some w =>
    have h1 := List.mem_of_find?_eq_some e
    have h2 : w.name = z.name := by simpa using List.find?_some e
    rw [inj_of_nodup hn h1 hz h2]; rfl
theorem topo_no {succ : Str → List Str} {C : Str → Prop} (hC : ∀ x, C x → ∃ y ∈ succ x, C y) : ∀ {fin : List Str}, Topo succ fin → ∀ x ∈ fin, ¬ C x
  | [], _, _, hx, _ => by cases hx
  | w :: r, ⟨h1, h2⟩, x, hx, hc => by
    rcases List.mem_cons.mp hx with rfl | hx
    · obtain ⟨y, hy, hcy⟩ := hC x hc
      exact topo_no hC h2 y (h1 y hy) hcy
    · exact topo_no hC h2 x hx hc
theorem topo_acyclic {g : List Nod} {fin : List Str} (h : Topo (succOf g) fin) (hall : ∀ z ∈ g, z.name ∈ fin) : ¬ Cyc g := by
  rintro ⟨C, ⟨x, hx⟩, hC⟩
  obtain ⟨y, hy, _⟩ := hC x hx
  obtain ⟨z, hz, rfl, _⟩ := succOf_mem hy
  exact topo_no hC h _ (hall z hz) hx

structure Cell where
  it : Addr
  wr : Addr
  sa : Addr
  pos : Nat
structure Fr where
  node : Str
  cell : Cell
noncomputable def OKc (succ : Str → List Str) (fin : List Str) (f : Fr) (c : Str) : Prop := 0 < f.cell.pos ∧ (succ f.node)[f.cell.pos - 1]? = some c ∧ ∀ y ∈ (succ f.node).take (f.cell.pos - 1), y ∈ fin
noncomputable def OKt (succ : Str → List Str) (fin : List Str) (f : Fr) : Prop := ∀ y ∈ (succ f.node).take f.cell.pos, y ∈ fin
/-- the frames, the newest first, below a child -/
noncomputable def LowC (succ : Str → List Str) (fin : List Str) : Str → List Fr → Prop
  | _, [] => True
  | c, f :: r => OKc succ fin f c ∧ LowC succ fin f.node r
noncomputable def Head (succ : Str → List Str) (fin : List Str) : List Fr → Prop
  | [] => True
  | f :: r => OKt succ fin f ∧ LowC succ fin f.node r
theorem OKc.mono {succ : Str → List Str} {fin fin' : List Str} {f : Fr} {c : Str} (h : OKc succ fin f c) (k : ∀ y ∈ fin, y ∈ fin') : OKc succ fin' f c := ⟨h.1, h.2.1, fun y hy => k y (h.2.2 y hy)⟩
theorem LowC.mono {succ : Str → List Str} {fin fin' : List Str} (k : ∀ y ∈ fin, y ∈ fin') : ∀ {fr : List Fr} {c : Str}, LowC succ fin c fr → LowC succ fin' c fr
  | [], _, _ => trivial
  | _ :: _, _, h => ⟨h.1.mono k, LowC.mono k h.2⟩
theorem OKc.top {succ : Str → List Str} {fin : List Str} {f : Fr} {c : Str} (h : OKc succ fin f c) (hc : c ∈ fin) : OKt succ fin f := by
  intro y hy
  obtain ⟨h1, h2, h3⟩ := h
  have : (succ f.node).take f.cell.pos = (succ f.node).take (f.cell.pos - 1) ++ [c] := by
    have e : f.cell.pos = f.cell.pos - 1 + 1 := by (first | lia | omega)
    rw [e, List.take_add_one, h2]; simp
  rw [this] at hy
  rcases List.mem_append.mp hy with hy | hy
  · exact h3 y hy
  · simp only [List.mem_singleton] at hy; subst hy; exact hc
/-- the child is done: the frames stand at their head -/
theorem LowC.head {succ : Str → List Str} {fin : List Str} {c : Str} {fr : List Fr} (h : LowC succ fin c fr) (hc : c ∈ fin) : Head succ fin fr := by
  cases fr with
  | nil => trivial
  | cons f r => exact ⟨h.1.top hc, h.2⟩
theorem LowC.cyc {g : List Nod} {fin : List Str} {c : Str} {fr : List Fr} (h : LowC (succOf g) fin c fr) (hc : c ∈ fr.map (·.node)) : Cyc g := by
  refine ⟨fun x => x ∈ fr.map (·.node), ⟨c, hc⟩, ?_⟩
  have go : ∀ (fr' : List Fr) (c : Str), LowC (succOf g) fin c fr' → c ∈ fr.map (·.node) → (∀ f ∈ fr', f.node ∈ fr.map (·.node)) → ∀ x ∈ fr'.map (·.node), ∃ y ∈ succOf g x, y ∈ fr.map (·.node) := by
    intro fr'
    induction fr' with
    | nil => intro _ _ _ _ x hx; cases hx
    | cons f r ih =>
      intro c h hc hall x hx
      simp only [List.map_cons, List.mem_cons] at hx
      rcases hx with rfl | hx
      · exact ⟨c, List.mem_of_getElem? h.1.2.1, hc⟩
      · exact ih f.node h.2 (hall f (.head _)) (fun f' hf' => hall f' (.tail _ hf')) x hx
  exact go fr c h hc fun f hf => List.mem_map_of_mem hf

/-- what is not seen weighs -/
noncomputable def unW (seen : Str → Bool) : List Nod → Nat
  | [] => 0
  | x :: g => (if seen x.name then 0 else x.ss.length + 1) + unW seen g
noncomputable def seenW (seen : Str → Bool) (x : Str) : Str → Bool := fun y => seen y || decide (y = x)
theorem unW_not {seen : Str → Bool} {x : Str} : ∀ {g : List Nod}, (∀ z ∈ g, z.name ≠ x) → unW (seenW seen x) g = unW seen g
  | [], _ => rfl
  | z :: g, h => by
    have h1 := h z (.head _)
    simp only [unW, unW_not fun z hz => h z (.tail _ hz), seenW, h1, decide_false, Bool.or_false]
theorem unW_add {seen : Str → Bool} {z : Nod} : ∀ {g : List Nod}, (g.map (·.name)).Nodup → z ∈ g → seen z.name = false → unW (seenW seen z.name) g + (z.ss.length + 1) = unW seen g
  | [], _, h, _ => by cases h
  | y :: g, hn, h, hs => by
    simp only [List.map_cons, List.nodup_cons] at hn
    rcases List.mem_cons.mp h with rfl | h
    · have : ∀ w ∈ g, w.name ≠ z.name := fun w hw e => hn.1 (e ▸ List.mem_map_of_mem hw)
      simp only [unW, unW_not this]
      simp [seenW, hs]; (first | lia | omega)
    · have hne : y.name ≠ z.name := fun e => hn.1 (e ▸ List.mem_map_of_mem h)
      have := unW_add hn.2 h hs
      simp only [unW]
      have e : seenW seen z.name y.name = seen y.name := by simp [seenW, hne]
      rw [e]; (first | lia | omega)
noncomputable def frW (succ : Str → List Str) : List Fr → Nat
  | [] => 0
  | f :: r => ((succ f.node).length - f.cell.pos) + frW succ r

/-- the search: names on the way, names done, names seen -/
structure Dfs (g : List Nod) (fr : List Fr) (fin : List Str) (seen : Str → Bool) : Prop where
  topo : Topo (succOf g) fin
  nod : (fr.map (·.node)).Nodup
  dis : ∀ f ∈ fr, f.node ∉ fin
  seen : ∀ y, seen y = true ↔ y ∈ fin ∨ y ∈ fr.map (·.node)
  names : ∀ f ∈ fr, ∃ z ∈ g, z.name = f.node
theorem Dfs.push {g : List Nod} {fr : List Fr} {fin : List Str} {seen : Str → Bool} (D : Dfs g fr fin seen) {x : Str} {c : Cell} (hs : seen x = false) (hz : ∃ z ∈ g, z.name = x) : Dfs g (⟨x, c⟩ :: fr) fin (seenW seen x) := by
  have hx : ¬ (x ∈ fin ∨ x ∈ fr.map (·.node)) := fun h => by rw [(D.seen x).mpr h] at hs; cases hs
  refine ⟨D.topo, ?_, fun f hf => ?_, fun y => ?_, fun f hf => ?_⟩
  · simp only [List.map_cons, List.nodup_cons]
    exact ⟨fun h => hx (.inr h), D.nod⟩
  · rcases List.mem_cons.mp hf with rfl | hf
    · exact fun h => hx (.inl h)
    · exact D.dis f hf
  · simp only [seenW, Bool.or_eq_true, D.seen y, decide_eq_true_eq, List.map_cons, List.mem_cons]
    constructor
    · rintro ((h | h) | h)
      · exact .inl h
      · exact .inr (.inr h)
      · exact .inr (.inl h)
    · rintro (h | h | h)
      · exact .inl (.inl h)
      · exact .inr h
      · exact .inl (.inr h)
  · rcases List.mem_cons.mp hf with rfl | hf
    · exact hz
    · exact D.names f hf
theorem Dfs.pop {g : List Nod} {f : Fr} {fr : List Fr} {fin : List Str} {seen : Str → Bool} (D : Dfs g (f :: fr) fin seen) (h : ∀ y ∈ succOf g f.node, y ∈ fin) : Dfs g fr (f.node :: fin) seen := by
  have hn := D.nod
  simp only [List.map_cons, List.nodup_cons] at hn
  refine ⟨⟨h, D.topo⟩, hn.2, fun f' hf' => ?_, fun y => ?_, fun f' hf' => D.names f' (.tail _ hf')⟩
  · intro hm
    rcases List.mem_cons.mp hm with e | hm
    · exact hn.1 (e ▸ List.mem_map_of_mem hf')
    · exact D.dis f' (.tail _ hf') hm
  · rw [D.seen y]
    simp only [List.map_cons, List.mem_cons]
    constructor
    · rintro (h | h | h)
      · exact .inl (.inr h)
      · exact .inl (.inl h)
      · exact .inr h
    · rintro ((h | h) | h)
      · exact .inr (.inl h)
      · exact .inl h
      · exact .inr (.inr h)
theorem Dfs.adv {g : List Nod} {f f' : Fr} {fr : List Fr} {fin : List Str} {seen : Str → Bool} (D : Dfs g (f :: fr) fin seen) (h : f'.node = f.node) : Dfs g (f' :: fr) fin seen := by
  refine ⟨D.topo, by have := D.nod; simp only [List.map_cons] at this ⊢; rw [h]; exact this, fun x hx => ?_, fun y => ?_, fun x hx => ?_⟩
  · rcases List.mem_cons.mp hx with rfl | hx
    · rw [h]; exact D.dis f (.head _)
    · exact D.dis x (.tail _ hx)
  · rw [D.seen y]; simp only [List.map_cons, h]
  · rcases List.mem_cons.mp hx with rfl | hx
    · rw [h]; exact D.names f (.head _)
    · exact D.names x (.tail _ hx)
/-- the next child of the newest frame -/
theorem Head.next {succ : Str → List Str} {fin : List Str} {f : Fr} {fr : List Fr} {c : Str} (h : Head succ fin (f :: fr)) (hc : (succ f.node)[f.cell.pos]? = some c) : LowC succ fin c (⟨f.node, { f.cell with pos := f.cell.pos + 1 }⟩ :: fr) := by
  refine ⟨⟨Nat.succ_pos _, hc, fun y hy => h.1 y hy⟩, h.2⟩
theorem Head.pop {succ : Str → List Str} {fin : List Str} {f : Fr} {fr : List Fr} (h : Head succ fin (f :: fr)) (hc : (succ f.node).length ≤ f.cell.pos) : (∀ y ∈ succ f.node, y ∈ fin) ∧ Head succ (f.node :: fin) fr := by
  refine ⟨fun y hy => h.1 y (by rw [List.take_of_length_le hc]; exact hy), ?_⟩
  exact (h.2.mono fun y hy => .tail _ hy).head (.head _)

/-! the table of the places -/
noncomputable def idxD : List Fr → List (Str × AV)
  | [] => []
  | f :: r => idxD r ++ [(f.node, .int (r.length : Nat))]
theorem idxD_keys : ∀ (fr : List Fr) (k : Str × AV), k ∈ idxD fr → k.1 ∈ fr.map (·.node)
  | [], k, h => by cases h
  | f :: r, k, h => by
    rcases List.mem_append.mp h with h | h
    · exact .tail _ (idxD_keys r k h)
    · simp only [List.mem_singleton] at h; subst h; exact .head _
theorem idxD_len : ∀ fr : List Fr, (idxD fr).length = fr.length
  | [] => rfl
  | f :: r => by simp [idxD, idxD_len r]
theorem idxD_get : ∀ {fr : List Fr} {x : Str}, (x ∈ fr.map (·.node) → ∃ j : Nat, j < fr.length ∧ aget (idxD fr) x = some (.int j)) ∧ (x ∉ fr.map (·.node) → aget (idxD fr) x = none)
  | [], x => ⟨fun h => (by cases h), fun _ => rfl⟩
  | f :: r, x => by
    have ih := idxD_get (fr := r) (x := x)
    unfold aget at ih ⊢
    simp only [idxD, List.find?_append]
    constructor
    · intro h
      by_cases hr : x ∈ r.map (·.node)
      · obtain ⟨j, hj, e⟩ := ih.1 hr
        refine ⟨j, by simp; (first | lia | omega), ?_⟩
        cases q : (idxD r).find? fun e => e.1 = x with
        | none => rw [q] at e; cases e
        | some w => rw [q] at e; simpa using e
      · have e := ih.2 hr
        simp only [List.map_cons, List.mem_cons] at h
        have hx : f.node = x := by rcases h with h | h; exact h.symm; exact (hr h).elim
        refine ⟨r.length, by simp, ?_⟩
        cases q : (idxD r).find? fun e => e.1 = x with
        | some w => rw [q] at e; cases e
        | none => simp [hx]
    · intro h
      simp only [List.map_cons, List.mem_cons, not_or] at h
      have e := ih.2 h.2
      cases q : (idxD r).find? fun e => e.1 = x with
      | some w => rw [q] at e; cases e
      | none => simp [Ne.symm h.1]
theorem idxD_set {fr : List Fr} {x : Str} {c : Cell} (h : x ∉ fr.map (·.node)) : aset (idxD fr) x (.int (fr.length : Nat)) = idxD (⟨x, c⟩ :: fr) := by
  unfold aset
  rw [if_neg]
  · rfl
  · simp only [List.any_eq_true, decide_eq_true_eq, not_exists, not_and]
    intro k hk e
    exact h (e ▸ idxD_keys fr k hk)
theorem idxD_del {f : Fr} {fr : List Fr} (h : f.node ∉ fr.map (·.node)) : adel (idxD (f :: fr)) f.node = idxD fr := by
  unfold adel
  simp only [idxD, List.filter_append]
  rw [List.filter_eq_self.mpr]
  · simp
  · intro k hk
    simp only [ne_eq, decide_eq_true_eq]
    exact fun e => h (e ▸ idxD_keys fr k hk)
end Mine

end

section
open PySem PySem.W PyProof.Rows PySem.Calls
set_option maxRecDepth 100000
namespace Mine
variable {p : PC} {n : Nat} {b : Mode} {env : Env} {X : Value → St → Prop} {st : St} {ad : Ad}

theorem ne_of {σ : Addr → Option AObj} {a c : Addr} {o o' : AObj} (h : σ a = some o) (h' : σ c = some o') (hne : o ≠ o') : a ≠ c := fun z => by rw [z, h'] at h; exact hne (Option.some.inj h).symm
theorem ne_fresh {σ : Addr → Option AObj} {a c : Addr} {o : AObj} (h : σ a = some o) (h' : σ c = none) : a ≠ c := fun z => by rw [z, h'] at h; cases h

theorem wrap_ne_iter {it sa : Addr} {i : Int} : AObj.raw (wrapObj it) ≠ .raw (iterObj sa i) := by
  intro z
  have h := congrArg (fun o => match o with | AObj.raw o => (match o.cls with | .type t => t | _ => "") | _ => "") z
  exact absurd (show ("method-wrapper" : String) = "list_iterator" from h) (by decide)

/-- the objects of the search: stack, iterators' stack, seen, places; σ₀ is what stood before -/
structure DG (σ₀ : Addr → Option AObj) (sA iA eA dA : Addr) (σ : Addr → Option AObj) (stl : List Str) (itl : List Addr) (seen : Str → Bool) (ns : Nat) (dl : List (Str × AV)) (cells : List Cell) : Prop where
  ext : ∀ a o, σ₀ a = some o → σ a = some o
  hs : σ sA = some (.list (stl.map .str))
  hi : σ iA = some (.list (itl.map .ref))
  he : σ eA = some (.set seen ns)
  hd : ∃ ep, σ dA = some (.dict dl ep)
  new : σ₀ sA = none ∧ σ₀ iA = none ∧ σ₀ eA = none ∧ σ₀ dA = none
  ne : sA ≠ iA
  cel : ∀ c ∈ cells, σ c.it = some (.raw (iterObj c.sa c.pos)) ∧ σ c.wr = some (.raw (wrapObj c.it)) ∧ σ₀ c.it = none
  nd : (cells.map (·.it)).Nodup

section
variable {σ₀ σ : Addr → Option AObj} {sA iA eA dA : Addr} {stl : List Str} {itl : List Addr} {seen : Str → Bool} {ns : Nat} {dl : List (Str × AV)} {cells : List Cell}
theorem DG.setS (D : DG σ₀ sA iA eA dA σ stl itl seen ns dl cells) (l : List Str) : DG σ₀ sA iA eA dA (upd σ sA (.list (l.map .str))) l itl seen ns dl cells := by
  obtain ⟨ep, hd⟩ := D.hd
  have k : ∀ a o, σ a = some o → (∀ l, o ≠ .list l) → upd σ sA (.list (l.map .str)) a = some o := fun a o e h => by
    rw [upd_ne _ _ (ne_of e D.hs (h _))]; exact e
  refine ⟨fun a o e => ?_, upd_same .., ?_, k _ _ D.he (by intro _ z; cases z), ⟨ep, k _ _ hd (by intro _ z; cases z)⟩, D.new, D.ne, fun c hc => ?_, D.nd⟩
  · rw [upd_ne _ _ (ne_fresh e D.new.1)]; exact D.ext a o e
  · rw [upd_ne _ _ D.ne.symm]; exact D.hi
  · obtain ⟨h1, h2, h3⟩ := D.cel c hc
    exact ⟨k _ _ h1 (by intro _ z; cases z), k _ _ h2 (by intro _ z; cases z), h3⟩
theorem DG.setI (D : DG σ₀ sA iA eA dA σ stl itl seen ns dl cells) (l : List Addr) : DG σ₀ sA iA eA dA (upd σ iA (.list (l.map .ref))) stl l seen ns dl cells := by
  obtain ⟨ep, hd⟩ := D.hd
  have k : ∀ a o, σ a = some o → (∀ l, o ≠ .list l) → upd σ iA (.list (l.map .ref)) a = some o := fun a o e h => by
    rw [upd_ne _ _ (ne_of e D.hi (h _))]; exact e
  refine ⟨fun a o e => ?_, ?_, upd_same .., k _ _ D.he (by intro _ z; cases z), ⟨ep, k _ _ hd (by intro _ z; cases z)⟩, D.new, D.ne, fun c hc => ?_, D.nd⟩
  · rw [upd_ne _ _ (ne_fresh e D.new.2.1)]; exact D.ext a o e
  · rw [upd_ne _ _ D.ne]; exact D.hs
  · obtain ⟨h1, h2, h3⟩ := D.cel c hc
    exact ⟨k _ _ h1 (by intro _ z; cases z), k _ _ h2 (by intro _ z; cases z), h3⟩
theorem DG.setE (D : DG σ₀ sA iA eA dA σ stl itl seen ns dl cells) (T : Str → Bool) (m : Nat) : DG σ₀ sA iA eA dA (upd σ eA (.set T m)) stl itl T m dl cells := by
  obtain ⟨ep, hd⟩ := D.hd
  have k : ∀ a o, σ a = some o → (∀ T m, o ≠ .set T m) → upd σ eA (.set T m) a = some o := fun a o e h => by
    rw [upd_ne _ _ (ne_of e D.he (h _ _))]; exact e
  refine ⟨fun a o e => ?_, k _ _ D.hs (by intro _ _ z; cases z), k _ _ D.hi (by intro _ _ z; cases z), upd_same .., ⟨ep, k _ _ hd (by intro _ _ z; cases z)⟩, D.new, D.ne, fun c hc => ?_, D.nd⟩
  · rw [upd_ne _ _ (ne_fresh e D.new.2.2.1)]; exact D.ext a o e
  · obtain ⟨h1, h2, h3⟩ := D.cel c hc
    exact ⟨k _ _ h1 (by intro _ _ z; cases z), k _ _ h2 (by intro _ _ z; cases z), h3⟩
theorem DG.setD (D : DG σ₀ sA iA eA dA σ stl itl seen ns dl cells) (l : List (Str × AV)) (ep' : Nat) : DG σ₀ sA iA eA dA (upd σ dA (.dict l ep')) stl itl seen ns l cells := by
  obtain ⟨ep, hd⟩ := D.hd
  have k : ∀ a o, σ a = some o → (∀ T m, o ≠ .dict T m) → upd σ dA (.dict l ep') a = some o := fun a o e h => by
    rw [upd_ne _ _ (ne_of e hd (h _ _))]; exact e
  refine ⟨fun a o e => ?_, k _ _ D.hs (by intro _ _ z; cases z), k _ _ D.hi (by intro _ _ z; cases z), k _ _ D.he (by intro _ _ z; cases z), ⟨ep', upd_same ..⟩, D.new, D.ne, fun c hc => ?_, D.nd⟩
  · rw [upd_ne _ _ (ne_fresh e D.new.2.2.2)]; exact D.ext a o e
  · obtain ⟨h1, h2, h3⟩ := D.cel c hc
    exact ⟨k _ _ h1 (by intro _ _ z; cases z), k _ _ h2 (by intro _ _ z; cases z), h3⟩
theorem DG.newC (D : DG σ₀ sA iA eA dA σ stl itl seen ns dl cells) {it wr sa : Addr} (h1 : σ it = none) (h2 : upd σ it (.raw (iterObj sa 0)) wr = none) :
    DG σ₀ sA iA eA dA (upd (upd σ it (.raw (iterObj sa 0))) wr (.raw (wrapObj it))) stl itl seen ns dl (⟨it, wr, sa, 0⟩ :: cells) := by
  obtain ⟨ep, hd⟩ := D.hd
  have hw : wr ≠ it := fun z => by rw [z, upd_same] at h2; cases h2
  have h3 : σ wr = none := by rwa [upd_ne _ _ hw] at h2
  have k : ∀ a o, σ a = some o → upd (upd σ it (.raw (iterObj sa 0))) wr (.raw (wrapObj it)) a = some o := fun a o e => by
    rw [upd_ne _ _ (ne_fresh e h3), upd_ne _ _ (ne_fresh e h1)]; exact e
  refine ⟨fun a o e => k a o (D.ext a o e), k _ _ D.hs, k _ _ D.hi, k _ _ D.he, ⟨ep, k _ _ hd⟩, D.new, D.ne, fun c hc => ?_, ?_⟩
  · rcases List.mem_cons.mp hc with rfl | hc
    · refine ⟨by rw [upd_ne _ _ hw.symm, upd_same]; rfl, upd_same .., ?_⟩
      cases q : σ₀ it with
      | none => rfl
      | some o => rw [D.ext _ _ q] at h1; cases h1
    · obtain ⟨e1, e2, e3⟩ := D.cel c hc
      exact ⟨k _ _ e1, k _ _ e2, e3⟩
  · simp only [List.map_cons, List.nodup_cons]
    refine ⟨fun h => ?_, D.nd⟩
    obtain ⟨c, hc, e⟩ := List.mem_map.mp h
    have := (D.cel c hc).1
    rw [e, h1] at this; cases this
theorem DG.adv {c : Cell} (D : DG σ₀ sA iA eA dA σ stl itl seen ns dl (c :: cells)) : DG σ₀ sA iA eA dA (upd σ c.it (.raw (iterObj c.sa ((c.pos : Int) + 1)))) stl itl seen ns dl ({ c with pos := c.pos + 1 } :: cells) := by
  obtain ⟨ep, hd⟩ := D.hd
  obtain ⟨h1, h2, h3⟩ := D.cel c (.head _)
  have hnd := D.nd
  simp only [List.map_cons, List.nodup_cons] at hnd
  have k : ∀ a o, σ a = some o → (o ≠ .raw (iterObj c.sa c.pos)) → upd σ c.it (.raw (iterObj c.sa ((c.pos : Int) + 1))) a = some o := fun a o e h => by
    rw [upd_ne _ _ (ne_of e h1 h)]; exact e
  refine ⟨fun a o e => ?_, k _ _ D.hs (by intro z; cases z), k _ _ D.hi (by intro z; cases z), k _ _ D.he (by intro z; cases z), ⟨ep, k _ _ hd (by intro z; cases z)⟩, D.new, D.ne, fun c' hc => ?_, by simpa using hnd⟩
  · rw [upd_ne _ _ (ne_fresh e h3)]; exact D.ext a o e
  · rcases List.mem_cons.mp hc with rfl | hc
    · exact ⟨upd_same .., k _ _ h2 wrap_ne_iter, h3⟩
    · obtain ⟨e1, e2, e3⟩ := D.cel c' (.tail _ hc)
      refine ⟨?_, k _ _ e2 wrap_ne_iter, e3⟩
      have hne : c'.it ≠ c.it := fun z => hnd.1 (by rw [← z]; exact List.mem_map_of_mem hc)
      rw [upd_ne _ _ hne]; exact e1
theorem DG.delC {c : Cell} (D : DG σ₀ sA iA eA dA σ stl itl seen ns dl (c :: cells)) : DG σ₀ sA iA eA dA (era σ c.it) stl itl seen ns dl cells := by
  obtain ⟨ep, hd⟩ := D.hd
  obtain ⟨h1, h2, h3⟩ := D.cel c (.head _)
  have hnd := D.nd
  simp only [List.map_cons, List.nodup_cons] at hnd
  have k : ∀ a o, σ a = some o → (o ≠ .raw (iterObj c.sa c.pos)) → era σ c.it a = some o := fun a o e h => by
    rw [era_ne _ (ne_of e h1 h)]; exact e
  refine ⟨fun a o e => ?_, k _ _ D.hs (by intro z; cases z), k _ _ D.hi (by intro z; cases z), k _ _ D.he (by intro z; cases z), ⟨ep, k _ _ hd (by intro z; cases z)⟩, D.new, D.ne, fun c' hc => ?_, hnd.2⟩
  · rw [era_ne _ (ne_fresh e h3)]; exact D.ext a o e
  · obtain ⟨e1, e2, e3⟩ := D.cel c' (.tail _ hc)
    refine ⟨?_, k _ _ e2 wrap_ne_iter, e3⟩
    have hne : c'.it ≠ c.it := fun z => hnd.1 (by rw [← z]; exact List.mem_map_of_mem hc)
    rw [era_ne _ hne]; exact e1
end
end Mine

end

section
open PySem PySem.W PyProof.Rows PySem.Calls
set_option maxRecDepth 100000
namespace Mine
variable {p : PC} {n : Nat} {b : Mode} {env : Env} {X : Value → St → Prop} {st : St} {ad : Ad}


noncomputable def whBody : Stmt → List Stmt
  | .While _ b _ _ => b
  | _ => []
noncomputable def fF : List Stmt := fnBody (methS (nthS P1 8) 8)
noncomputable def fFor : Stmt := fF.getD 5 dumS
noncomputable def fWh : Stmt := (forBody fFor).getD 1 dumS
noncomputable def fIf : Stmt := (whBody fWh).getD 0 dumS
noncomputable def fIn : Stmt := (whBody fWh).getD 1 dumS

theorem isExc_stop : isSubtype (.type "StopIteration") (.type "BaseException") = pure true := by rw [isSubtype_type]; kernel_rfl
theorem notTuple_stop : isSubtype (.type ((Manifest.find? "StopIteration").elim "type" fun x => x.metatype)) (.type "tuple") = pure false := by
  rw [show (Manifest.find? "StopIteration").elim "type" (fun x => x.metatype) = "type" from by kernel_rfl]; exact tc_notTuple
theorem sub_stop : isSubtype (.type "StopIteration") (.type "StopIteration") = pure true := by rw [isSubtype_type]; kernel_rfl

theorem SR.ext {σ σ' : Addr → Option AObj} {S : Srt} (hR : SR ad σ S) (k : ∀ a o, σ a = some o → σ' a = some o) : SR ad σ' S := by
  obtain ⟨e1, h1⟩ := hR.hdx
  obtain ⟨e2, h2⟩ := hR.hnd
  exact ⟨k _ _ hR.hx, ⟨e1, k _ _ h1⟩, ⟨e2, k _ _ h2⟩, fun i hi => ⟨k _ _ (hR.hin i hi).1, k _ _ (hR.hin i hi).2⟩, fun a l e => ⟨k _ _ (hR.hrd a l e).1, (hR.hrd a l e).2⟩, hR.names, hR.addrs, hR.succs, hR.ne⟩

/-- the frame of the search -/
structure FS (S : Srt) (σ₀ : Addr → Option AObj) (sA iA eA dA : Addr) (st : St) (fr : List Fr) (seen : Str → Bool) (ns : Nat) : Prop where
  r1 : st.ρ "n2i" = some (.ref S.nd)
  r2 : st.ρ "stack" = some (.ref sA)
  r3 : st.ρ "itstack" = some (.ref iA)
  r4 : st.ρ "seen" = some (.ref eA)
  r5 : st.ρ "node2stacki" = some (.ref dA)
  dg : DG σ₀ sA iA eA dA st.σ (fr.reverse.map (·.node)) (fr.reverse.map (·.cell.wr)) seen ns (idxD fr) (fr.map (·.cell))
  sas : ∀ f ∈ fr, ∃ i ∈ S.infos, i.name = f.node ∧ i.succ = f.cell.sa

theorem info_ss {S : Srt} {σ : Addr → Option AObj} (hR : SR ad σ S) {i : Info} (hi : i ∈ S.infos) : succOf (S.infos.map Info.nod) i.name = i.ss := by
  have hn : ((S.infos.map Info.nod).map (·.name)).Nodup := by
    rw [List.map_map]; exact hR.names
  exact succOf_eq hn (z := i.nod) (List.mem_map_of_mem hi)

/-- while stack: try: node = itstack[-1](); break .. -/
theorem inner_loop {L' f0 : Addr} {q : Str} {cd : Value} {σ₀ : Addr → Option AObj} {S : Srt} {sA iA eA dA : Addr} {st : St} {fr : List Fr} {fin : List Str} {seen : Str → Bool} {ns : Nat} {Q : AF → St → Prop} (hB : KB p) (hR : SR ad σ₀ S)
    (hz : S.infos.length ≤ 900) (hcl : ∀ z ∈ S.infos, ∀ y ∈ z.ss, ∃ w ∈ S.infos, w.name = y)
    (Z : FS S σ₀ sA iA eA dA st fr seen ns) (D : Dfs (S.infos.map Info.nod) fr fin seen) (H : Head (succOf (S.infos.map Info.nod)) fin fr) (hfr : fr.length ≤ 900)
    (hbrk : ∀ st' fr' fin' node, FS S σ₀ sA iA eA dA st' fr' seen ns → st'.ρ "node" = some (.str node) → (∃ w ∈ S.infos, w.name = node) → Dfs (S.infos.map Info.nod) fr' fin' seen → LowC (succOf (S.infos.map Info.nod)) fin' node fr' → fr'.length ≤ fr.length → frW (succOf (S.infos.map Info.nod)) fr' < frW (succOf (S.infos.map Info.nod)) fr → Q .next st')
    (hend : ∀ st' fin', FS S σ₀ sA iA eA dA st' [] seen ns → Dfs (S.infos.map Info.nod) [] fin' seen → Q .brk st') :
    XW p n .body (mkEnv (fnScope (methS (nthS P1 8) 8)) L' f0 q cd) fIn Q X st := by
  refine XW.while (by decide) (fun m st' => ∃ fr' fin', m = fr'.length ∧ FS S σ₀ sA iA eA dA st' fr' seen ns ∧ Dfs (S.infos.map Info.nod) fr' fin' seen ∧ Head (succOf (S.infos.map Info.nod)) fin' fr' ∧ fr'.length ≤ fr.length ∧ frW (succOf (S.infos.map Info.nod)) fr' ≤ frW (succOf (S.infos.map Info.nod)) fr) ?_ fr.length ⟨fr, fin, rfl, Z, D, H, Nat.le_refl _, Nat.le_refl _⟩
  rintro m st' ⟨fr', fin', rfl, F', D', H', hl', hw'⟩
  refine TW.plain (EW.var F'.r2 ?_)
  refine truthy_list (.inr ⟨sA, rfl, F'.dg.hs⟩) ?_ (by simp; (first | lia | omega))
  cases fr' with
  | nil =>
    rw [if_neg (by simp)]
    refine SW.cons ?_
    refine XW.brk ?_
    exact hend st' fin' F' D'
  | cons f r =>
    rw [if_pos (by simp)]
    obtain ⟨i, hi, hin, his⟩ := F'.sas f (.head _)
    obtain ⟨c1, c2, c3⟩ := F'.dg.cel f.cell (.head _)
    have hss := info_ss hR hi
    rw [hin] at hss
    have hl : st'.σ f.cell.sa = some (.list (i.ss.map .str)) := F'.dg.ext _ _ (his ▸ (hR.hin i hi).2)
    have hit := F'.dg.hi
    simp only [List.reverse_cons, List.map_append, List.map_cons, List.map_nil] at hit
    refine SW.cons ?_
    refine XW.tryB (T := "StopIteration") ?t1 ?t2 ?t3 ?t4 ?t5 ?t6 ?t7 ?t8 ?t9
    case t1 => decide
    case t2 => exact hB.stop
    case t3 => exact bb_stop
    case t4 => exact isExc_stop
    case t5 => exact notTuple_stop
    case t7 => rfl
    case t8 => decide +kernel
    case t9 => decide +kernel
    refine SW.cons ?_
    refine XW.assign ?_
    refine EW.callE (wr := f.cell.wr) (it := f.cell.it) ?_
    refine EW.sub ?_
    refine EW.var F'.r3 ?_
    refine EW.unop ?_
    refine EW.int ?_
    refine neg_int ?_
    refine idx_last (x := .ref f.cell.wr) (.inr ⟨iA, rfl, hit⟩) (by simp) ⟨rfl, c2, ?_⟩
    by_cases hp : f.cell.pos < i.ss.length
    · obtain ⟨c, hc⟩ : ∃ c, i.ss[f.cell.pos]? = some c := ⟨_, List.getElem?_eq_getElem hp⟩
      refine call_next c2 c1 hl (a := .str c) (by simp [hc]) ?_
      dsimp only
      refine SW.cons ?_
      refine XW.brk ?_
      dsimp only
      refine hbrk _ (⟨f.node, { f.cell with pos := f.cell.pos + 1 }⟩ :: r) fin' c ?_ rfl (hcl i hi c (List.mem_of_getElem? hc)) (D'.adv rfl) (H'.next (by rw [hss]; exact hc)) (by simpa using hl') ?_
      · refine ⟨F'.r1, F'.r2, F'.r3, F'.r4, F'.r5, ?_, fun f' hf' => ?_⟩
        · have := F'.dg.adv
          simp [idxD] at this ⊢
          exact this
        · rcases List.mem_cons.mp hf' with rfl | hf'
          · exact ⟨i, hi, hin, his⟩
          · exact F'.sas f' (.tail _ hf')
      · refine Nat.lt_of_lt_of_le ?_ hw'
        simp only [frW, hss]
        (first | lia | omega)
    · have hnone : (i.ss.map AV.str)[((f.cell.pos : Nat) : Int).toNat]? = none := by simp; (first | lia | omega)
      refine call_stop (by decide) c2 c1 hl hnone ⟨"StopIteration", rfl, sub_stop, ?_⟩
      have hn := D'.nod
      simp only [List.map_cons, List.nodup_cons] at hn
      have G1 := F'.dg.delC
      have hs1 := G1.hs
      simp only [List.reverse_cons, List.map_append, List.map_cons, List.map_nil] at hs1
      refine SW.cons ?_
      refine XW.delSub ?_
      refine EW.var F'.r5 ?_
      refine EW.callM ?_
      refine EW.var F'.r2 ?_
      refine MW.builtin (recv_list (.inr ⟨sA, rfl, hs1⟩)) F.plainAttrs_list F.slot_list_pop F.type_list_pop ?_
      refine AW.nil ?_
      refine call_pop hs1 (a := .str f.node) (by simp) ?_ (by simp at hl' ⊢; (first | lia | omega))
      have G2 := G1.setS (r.reverse.map (·.node))
      obtain ⟨ep2, hd2⟩ := G2.hd
      rw [List.dropLast_concat]
      have hget := (idxD_get (fr := f :: r) (x := f.node)).1 (.head _)
      refine del_dict hd2 ?_ (fun ep3 => ?_) (by rw [idxD_len]; simp at hl' ⊢; (first | lia | omega))
      · obtain ⟨j, _, e⟩ := hget; rw [e]; rfl
      rw [idxD_del hn.1]
      have G3 := G2.setD (idxD r) ep3
      have hi3 := G3.hi
      simp only [List.reverse_cons, List.map_append, List.map_cons, List.map_nil] at hi3
      dsimp only
      refine SW.cons ?_
      refine XW.expr ?_
      refine EW.callM ?_
      refine EW.var F'.r3 ?_
      refine MW.builtin (recv_list (.inr ⟨iA, rfl, hi3⟩)) F.plainAttrs_list F.slot_list_pop F.type_list_pop ?_
      refine AW.nil ?_
      refine call_pop hi3 (a := .ref f.cell.wr) (by simp) ?_ (by simp at hl' ⊢; (first | lia | omega))
      rw [List.dropLast_concat]
      have G4 := G3.setI (r.reverse.map (·.cell.wr))
      refine SW.nil ?_
      refine SW.nil ?_
      obtain ⟨p1, p2⟩ := H'.pop (by rw [hss]; (first | lia | omega))
      refine ⟨r.length, by simp, r, f.node :: fin', rfl, ⟨F'.r1, F'.r2, F'.r3, F'.r4, F'.r5, G4, fun f' hf' => F'.sas f' (.tail _ hf')⟩, D'.pop p1, p2, by simp at hl'; (first | lia | omega), Nat.le_trans ?_ hw'⟩
      simp only [frW]; (first | lia | omega)
end Mine

end

section
open PySem PySem.W PyProof.Rows PySem.Calls
set_option maxRecDepth 100000
namespace Mine
variable {p : PC} {n : Nat} {b : Mode} {env : Env} {X : Value → St → Prop} {st : St} {ad : Ad}


noncomputable def strip (g : List Nod) : List Nod := g.map fun z => ⟨z.name, z.np, []⟩
theorem unW_all (seen : Str → Bool) : ∀ g : List Nod, unW seen (strip g) ≤ g.length
  | [] => Nat.le_refl _
  | z :: g => by
    have := unW_all seen g
    simp only [strip, List.map_cons, unW, List.length_cons, List.length_nil] at this ⊢
    split <;> (first | lia | omega)
theorem strip_names (g : List Nod) : (strip g).map (·.name) = g.map (·.name) := by simp [strip, Function.comp_def]

theorem mapA (l : List Addr) (a : Addr) : l.map AV.ref ++ [AV.ref a] = (l ++ [a]).map AV.ref := by simp
theorem mapS (l : List Str) (a : Str) : l.map AV.str ++ [AV.str a] = (l ++ [a]).map AV.str := by simp

/-- if node in seen: .. else: .. -/
theorem outer_if {L' f0 : Addr} {q : Str} {cd : Value} {σ₀ : Addr → Option AObj} {S : Srt} {sA iA eA dA : Addr} {st : St} {fr : List Fr} {fin : List Str} {seen : Str → Bool} {ns : Nat} {node : Str} {Q : AF → St → Prop} (hS : KS2 p ad) (hB : KB p) (hR : SR ad σ₀ S)
    (Z : FS S σ₀ sA iA eA dA st fr seen ns) (hnode : st.ρ "node" = some (.str node)) (hw : ∃ w ∈ S.infos, w.name = node) (D : Dfs (S.infos.map Info.nod) fr fin seen) (H : LowC (succOf (S.infos.map Info.nod)) fin node fr) (hfr : fr.length ≤ 900) (hns : ns ≤ 900)
    (hret : ∀ st' l, l ≠ [] → l.length ≤ 1000 → SR ad st'.σ S → Cyc (S.infos.map Info.nod) → Q (.ret (.lst l)) st')
    (hold : seen node = true → Head (succOf (S.infos.map Info.nod)) fin fr → Q .next st)
    (hnew : seen node = false → ∀ st' c, FS S σ₀ sA iA eA dA st' (⟨node, c⟩ :: fr) (seenW seen node) (ns + 1) → c.pos = 0 → st'.ρ "node" = some (.str node) → Dfs (S.infos.map Info.nod) (⟨node, c⟩ :: fr) fin (seenW seen node) → Head (succOf (S.infos.map Info.nod)) fin (⟨node, c⟩ :: fr) → Q .next st') :
    XW p n .body (mkEnv (fnScope (methS (nthS P1 8) 8)) L' f0 q cd) fIf Q X st := by
  refine XW.iff ?_
  refine TW.cmp ?_
  refine EW.var hnode ?_
  refine EW.var Z.r4 ?_
  refine in_set Z.dg.he ?_
  refine truthy_bool ?_
  obtain ⟨ep, hd⟩ := Z.dg.hd
  cases hse : seen node with
  | true =>
    rw [if_pos rfl]
    refine SW.cons ?_
    refine XW.iff ?_
    refine TW.cmp ?_
    refine EW.var hnode ?_
    refine EW.var Z.r5 ?_
    refine in_dict hd ?_
    refine truthy_bool ?_
    by_cases hin : node ∈ fr.map (·.node)
    · obtain ⟨j, hj, e⟩ := (idxD_get (fr := fr)).1 hin
      rw [e, if_pos (by rfl)]
      refine SW.cons ?_
      refine XW.ret ?_
      refine EW.binop ?_
      refine EW.cut ?_
      refine EW.var Z.r2 ?_
      refine OW.yes ?_
      refine EW.sub ?_
      refine EW.var Z.r5 ?_
      refine EW.var hnode ?_
      refine idx_dict hd e ?_
      refine OW.no ?_
      refine cut_from (.inr ⟨sA, rfl, Z.dg.hs⟩) ?_ (by simp; (first | lia | omega))
      refine EW.list ?_
      refine LW.cons ?_
      refine EW.var hnode ?_
      refine LW.nil ⟨?_, by simp⟩
      refine add_lists (.inl rfl) (.inl rfl) ?_ (by simp; (first | lia | omega))
      exact hret _ _ (by simp) (by simp; (first | lia | omega)) (hR.ext Z.dg.ext) (H.cyc hin)
    · rw [(idxD_get (fr := fr)).2 hin, if_neg (by simp)]
      refine SW.nil ?_
      refine SW.nil ?_
      have hfin : node ∈ fin := by
        rcases (D.seen node).mp hse with h | h
        · exact h
        · exact (hin h).elim
      exact hold hse (H.head hfin)
  | false =>
    rw [if_neg (by decide)]
    have hni : node ∉ fr.map (·.node) := fun h => by rw [(D.seen node).mpr (.inr h)] at hse; cases hse
    obtain ⟨i, hi, hin⟩ := hw
    refine SW.cons ?_
    refine XW.expr ?_
    refine EW.callM ?_
    refine EW.var Z.r4 ?_
    refine MW.builtin (recv_set Z.dg.he) F.plainAttrs_set F.slot_set_add F.type_set_add ?_
    refine AW.cons (LW.cons ?_)
    refine EW.var hnode ?_
    refine LW.nil ?_
    refine call_sadd Z.dg.he ?_ (by (first | lia | omega))
    have G1 := Z.dg.setE (seenW seen node) (ns + 1)
    rw [hse]
    have hi1 := G1.hi
    obtain ⟨ep1, hnd⟩ := hR.hnd
    obtain ⟨ha1, ha2⟩ := hR.hin i hi
    dsimp only
    refine SW.cons ?_
    refine XW.append ?_
    refine EW.var Z.r3 ⟨iA, rfl, ?_, _, hi1⟩
    refine EW.attr ?_
    refine EW.callB hB.iter bb_iter ?_
    refine AW.cons (LW.cons ?_)
    refine EW.attr ?_
    refine EW.sub ?_
    refine EW.var Z.r1 ?_
    refine EW.var hnode ?_
    refine idx_dict (G1.ext _ _ hnd) (aget_info.1 i hi hin hR.names) ?_
    refine ga_slot (G1.ext _ _ ha1) hS.clsN hS.sSucc rfl ?_
    refine LW.nil ?_
    refine call_iter (G1.ext _ _ ha2) fun it hit => ?_
    refine ga_next (upd_same ..) fun wr hwr => ?_
    have G2 := G1.newC hit hwr
    refine ⟨_, G2.hi, by simp; (first | lia | omega), ?_⟩
    rw [mapA]
    have G3 := G2.setI (fr.reverse.map (·.cell.wr) ++ [wr])
    obtain ⟨ep3, hd3⟩ := G3.hd
    dsimp only
    refine SW.cons ?_
    refine XW.assignSub ?_
    refine EW.callB hB.len bb_len ?_
    refine AW.cons (LW.cons ?_)
    refine EW.var Z.r2 ?_
    refine LW.nil ?_
    refine call_len (.inr ⟨sA, rfl, G3.hs⟩) ?_ (by simp; (first | lia | omega))
    refine EW.var Z.r5 ?_
    refine EW.var hnode ?_
    have hlen : (((fr.reverse.map (·.node)).map AV.str).length : Int) = ((fr.length : Nat) : Int) := by simp
    rw [hlen]
    refine si_dict hd3 (fun ep4 => ?_) (by rw [idxD_len]; (first | lia | omega))
    rw [idxD_set (c := ⟨it, wr, i.succ, 0⟩) hni]
    have G4 := G3.setD (idxD (⟨node, ⟨it, wr, i.succ, 0⟩⟩ :: fr)) ep4
    dsimp only
    refine SW.cons ?_
    refine XW.append ?_
    refine EW.var Z.r2 ⟨sA, rfl, ?_, _, G4.hs⟩
    refine EW.var hnode ?_
    refine ⟨_, G4.hs, by simp; (first | lia | omega), ?_⟩
    rw [mapS]
    have G5 := G4.setS (fr.reverse.map (·.node) ++ [node])
    refine SW.nil ?_
    refine hnew hse _ ⟨it, wr, i.succ, 0⟩ ⟨Z.r1, Z.r2, Z.r3, Z.r4, Z.r5, ?_, fun f hf => ?_⟩ rfl hnode (D.push hse ⟨i.nod, List.mem_map_of_mem hi, hin⟩) ⟨fun y hy => by simp at hy, H⟩
    · simp only [List.reverse_cons, List.map_append, List.map_cons, List.map_nil] at G5 ⊢
      exact G5
    · rcases List.mem_cons.mp hf with rfl | hf
      · exact ⟨i, hi, hin, rfl⟩
      · exact Z.sas f hf
end Mine

end

section
open PySem PySem.W PyProof.Rows PySem.Calls
set_option maxRecDepth 100000
namespace Mine
variable {p : PC} {n : Nat} {b : Mode} {env : Env} {X : Value → St → Prop} {st : St} {ad : Ad}

theorem seenW_mono {seen : Str → Bool} {x y : Str} (h : seen y = true) : seenW seen x y = true := by simp [seenW, h]
theorem seenW_self {seen : Str → Bool} {x : Str} : seenW seen x x = true := by simp [seenW]

/-- while True: .. -/
theorem outer_loop {L' f0 : Addr} {q : Str} {cd : Value} {σ₀ : Addr → Option AObj} {S : Srt} {sA iA eA dA : Addr} {st : St} {fin : List Str} {seen : Str → Bool} {ns : Nat} {v0 : Str} {dn : List Str} {Q : AF → St → Prop} (hS : KS2 p ad) (hB : KB p) (hR : SR ad σ₀ S)
    (hz : S.infos.length ≤ 400) (hcl : ∀ z ∈ S.infos, ∀ y ∈ z.ss, ∃ w ∈ S.infos, w.name = y)
    (Z : FS S σ₀ sA iA eA dA st [] seen ns) (hnode : st.ρ "node" = some (.str v0)) (hw : ∃ w ∈ S.infos, w.name = v0) (D : Dfs (S.infos.map Info.nod) [] fin seen) (hdn : ∀ y ∈ dn, seen y = true) (hns : ns + unW seen (strip (S.infos.map Info.nod)) ≤ S.infos.length)
    (hret : ∀ st' l, l ≠ [] → l.length ≤ 1000 → SR ad st'.σ S → Cyc (S.infos.map Info.nod) → Q (.ret (.lst l)) st')
    (hend : ∀ st' fin' seen' ns', FS S σ₀ sA iA eA dA st' [] seen' ns' → Dfs (S.infos.map Info.nod) [] fin' seen' → (∀ y ∈ dn, seen' y = true) → seen' v0 = true → ns' + unW seen' (strip (S.infos.map Info.nod)) ≤ S.infos.length → Q .next st') :
    XW p n .body (mkEnv (fnScope (methS (nthS P1 8) 8)) L' f0 q cd) fWh Q X st := by
  have hnm : ((S.infos.map Info.nod).map (·.name)).Nodup := by rw [List.map_map]; exact hR.names
  refine XW.while (by decide) (fun m st' => ∃ fr fin seen ns node, m = unW seen (S.infos.map Info.nod) + frW (succOf (S.infos.map Info.nod)) fr ∧ FS S σ₀ sA iA eA dA st' fr seen ns ∧ st'.ρ "node" = some (.str node) ∧ (∃ w ∈ S.infos, w.name = node) ∧ Dfs (S.infos.map Info.nod) fr fin seen ∧ LowC (succOf (S.infos.map Info.nod)) fin node fr ∧ (∀ y ∈ dn, seen y = true) ∧ (seen v0 = true ∨ node = v0) ∧ ns + unW seen (strip (S.infos.map Info.nod)) ≤ S.infos.length ∧ fr.length ≤ ns) ?_ _
    ⟨[], fin, seen, ns, v0, rfl, Z, hnode, hw, D, trivial, hdn, .inr rfl, hns, Nat.zero_le _⟩
  rintro m st' ⟨fr, fin, seen, ns, node, rfl, Z, hnode, hw, D, H, hdn, hv0, hns, hfr⟩
  refine TW.plain (EW.bool (truthy_bool ?_))
  rw [if_pos rfl]
  refine SW.cons ?_
  refine outer_if (ad := ad) (fin := fin) hS hB hR Z hnode hw D H (by (first | lia | omega)) (by (first | lia | omega)) (fun st2 l hl hz2 hR2 hc => hret st2 l hl hz2 hR2 hc) (fun hse hh => ?_) fun hse st2 c Z2 hc0 hn2 D2 H2 => ?_
  · dsimp only
    refine SW.cons ?_
    have hv0' : seen v0 = true := by rcases hv0 with h | h; exact h; exact h ▸ hse
    refine inner_loop hB hR (by (first | lia | omega)) hcl Z D hh (by (first | lia | omega)) (fun st3 fr3 fin3 node3 Z3 hn3 hw3 D3 H3 hl3 hlt => SW.nil ?_) fun st3 fin3 Z3 D3 => hend st3 fin3 seen ns Z3 D3 hdn hv0' hns
    exact ⟨_, by (first | lia | omega), fr3, fin3, seen, ns, node3, rfl, Z3, hn3, hw3, D3, H3, hdn, .inl hv0', hns, by (first | lia | omega)⟩
  · dsimp only
    refine SW.cons ?_
    obtain ⟨w, hw1, hw2⟩ := hw
    have e1 : unW (seenW seen node) (S.infos.map Info.nod) + (w.ss.length + 1) = unW seen (S.infos.map Info.nod) := by
      have := unW_add (z := w.nod) hnm (List.mem_map_of_mem hw1) (by show seen w.name = false; rw [hw2]; exact hse)
      rw [show w.nod.name = node from hw2] at this
      exact this
    have e2 : unW (seenW seen node) (strip (S.infos.map Info.nod)) + 1 = unW seen (strip (S.infos.map Info.nod)) := by
      have := unW_add (z := ⟨w.name, w.np, []⟩) (g := strip (S.infos.map Info.nod)) (seen := seen) (by rw [strip_names]; exact hnm) (List.mem_map.mpr ⟨w.nod, List.mem_map_of_mem hw1, rfl⟩) (by show seen w.name = false; rw [hw2]; exact hse)
      rw [show (⟨w.name, w.np, []⟩ : Nod).name = node from hw2] at this
      simpa using this
    have e3 : succOf (S.infos.map Info.nod) node = w.ss := hw2 ▸ info_ss hR hw1
    have hv0' : seenW seen node v0 = true := by rcases hv0 with h | h; exact seenW_mono h; exact h ▸ seenW_self
    have e4 : frW (succOf (S.infos.map Info.nod)) (⟨node, c⟩ :: fr) = w.ss.length + frW (succOf (S.infos.map Info.nod)) fr := by
      simp only [frW, e3, hc0]; (first | lia | omega)
    refine inner_loop hB hR (by (first | lia | omega)) hcl Z2 D2 H2 (by simp; (first | lia | omega)) (fun st3 fr3 fin3 node3 Z3 hn3 hw3 D3 H3 hl3 hlt => SW.nil ?_) fun st3 fin3 Z3 D3 => hend st3 fin3 _ (ns + 1) Z3 D3 (fun y hy => seenW_mono (hdn y hy)) hv0' (by (first | lia | omega))
    refine ⟨_, ?_, fr3, fin3, seenW seen node, ns + 1, node3, rfl, Z3, hn3, hw3, D3, H3, fun y hy => seenW_mono (hdn y hy), .inl hv0', by (first | lia | omega), by simp at hl3; (first | lia | omega)⟩
    rw [e4] at hlt
    (first | lia | omega)

theorem find_body {L' f0 : Addr} {q : Str} {cd : Value} {σ₀ : Addr → Option AObj} {S : Srt} {Q : AF → St → Prop} (hS : KS2 p ad) (hB : KB p) (hR : SR ad σ₀ S)
    (hz : S.infos.length ≤ 400) (hcl : ∀ z ∈ S.infos, ∀ y ∈ z.ss, ∃ w ∈ S.infos, w.name = y)
    (hret : ∀ st' l, l ≠ [] → l.length ≤ 1000 → SR ad st'.σ S → Cyc (S.infos.map Info.nod) → Q (.ret (.lst l)) st')
    (hend : ∀ st', SR ad st'.σ S → ¬ Cyc (S.infos.map Info.nod) → Q (.ret .none) st') :
    SW p n .body (mkEnv (fnScope (methS (nthS P1 8) 8)) L' f0 q cd) (fnBody (methS (nthS P1 8) 8)) Q X ⟨fun y => [("self", AV.ref S.x)].reverse.lookup y, σ₀⟩ := by
  obtain ⟨ep1, hdx⟩ := hR.hdx
  obtain ⟨ep2, hnd⟩ := hR.hnd
  refine SW.cons ?_
  refine XW.assign ?_
  refine EW.attr ?_
  refine EW.var rfl ?_
  refine ga_dict hR.hx hdx hS.clsT hS.dictT hS.f1 ag_n2i ?_
  dsimp only
  refine SW.cons ?_
  refine XW.assign ?_
  refine EW.listM ?_
  refine LW.nil ⟨fun sA hsA => ?_, by simp⟩
  dsimp only
  refine SW.cons ?_
  refine XW.assign ?_
  refine EW.listM ?_
  refine LW.nil ⟨fun iA hiA => ?_, by simp⟩
  dsimp only
  refine SW.cons ?_
  refine XW.assign ?_
  refine EW.callT hB.set bb_set ?_
  refine AW.nil ?_
  refine call_set0 fun eA heA => ?_
  dsimp only
  refine SW.cons ?_
  refine XW.assign ?_
  refine EW.dict0 fun dA hdA => ?_
  dsimp only
  replace hsA : σ₀ sA = none := hsA
  replace hiA : upd σ₀ sA (.list []) iA = none := hiA
  replace heA : upd (upd σ₀ sA (.list [])) iA (.list []) eA = none := heA
  replace hdA : upd (upd (upd σ₀ sA (.list [])) iA (.list [])) eA (.set (fun _ => false) 0) dA = none := hdA
  have n1 : iA ≠ sA := fun z => by rw [z, upd_same] at hiA; cases hiA
  have n2 : eA ≠ iA := fun z => by rw [z, upd_same] at heA; cases heA
  have n3 : eA ≠ sA := fun z => by rw [z, upd_ne _ _ n1.symm, upd_same] at heA; cases heA
  have n4 : dA ≠ eA := fun z => by rw [z, upd_same] at hdA; cases hdA
  have n5 : dA ≠ iA := fun z => by rw [z, upd_ne _ _ n2.symm, upd_same] at hdA; cases hdA
  have n6 : dA ≠ sA := fun z => by rw [z, upd_ne _ _ n3.symm, upd_ne _ _ n1.symm, upd_same] at hdA; cases hdA
  rw [upd_ne _ _ n1] at hiA
  rw [upd_ne _ _ n2, upd_ne _ _ n3] at heA
  rw [upd_ne _ _ n4, upd_ne _ _ n5, upd_ne _ _ n6] at hdA
  have G0 : DG σ₀ sA iA eA dA (upd (upd (upd (upd σ₀ sA (.list [])) iA (.list [])) eA (.set (fun _ => false) 0)) dA (.dict [] 0)) [] [] (fun _ => false) 0 [] [] := by
    refine ⟨fun a o e => ?_, ?_, ?_, ?_, ⟨0, upd_same ..⟩, ⟨hsA, hiA, heA, hdA⟩, n1.symm, fun c hc => (by cases hc), .nil⟩
    · rw [upd_ne _ _ (ne_fresh e hdA), upd_ne _ _ (ne_fresh e heA), upd_ne _ _ (ne_fresh e hiA), upd_ne _ _ (ne_fresh e hsA)]; exact e
    · rw [upd_ne _ _ n6.symm, upd_ne _ _ n3.symm, upd_ne _ _ n1.symm, upd_same]; rfl
    · rw [upd_ne _ _ n5.symm, upd_ne _ _ n2.symm, upd_same]; rfl
    · rw [upd_ne _ _ n4.symm, upd_same]
  refine SW.cons ?_
  refine XW.for rfl (ItE.of (EW.var rfl ⟨_, _, iter_dict (G0.ext _ _ hnd), ?_⟩))
  refine ForW.run (fun r st => ∃ dn rest fin seen ns, r = rest.map .str ∧ S.infos.map (·.name) = dn ++ rest ∧ FS S σ₀ sA iA eA dA st [] seen ns ∧ Dfs (S.infos.map Info.nod) [] fin seen ∧ (∀ y ∈ dn, seen y = true) ∧ ns + unW seen (strip (S.infos.map Info.nod)) ≤ S.infos.length)
    ?_ ?_ ?_ _ _ ⟨[], S.infos.map (·.name), [], fun _ => false, 0, by simp [infoD], rfl, ⟨rfl, rfl, rfl, rfl, rfl, G0, fun f hf => by cases hf⟩, ⟨trivial, .nil, fun f hf => (by cases hf), fun y => by simp, fun f hf => by cases hf⟩, fun y hy => (by cases hy), by
      have := unW_all (fun _ => false) (S.infos.map Info.nod)
      simpa using this⟩
  · rintro r st ⟨dn, rest, fin, seen, ns, _, _, Z, _⟩
    exact Z.dg.ext _ _ hnd
  · rintro st ⟨dn, rest, fin, seen, ns, hr, hdr, Z, D, hdn, hns⟩
    cases rest with
    | cons _ _ => cases hr
    | nil =>
      rw [List.append_nil] at hdr
      refine SW.nil ?_
      dsimp only
      refine SW.cons ?_
      refine XW.ret ?_
      refine EW.noneC ?_
      refine hend st (hR.ext Z.dg.ext) (topo_acyclic D.topo fun z hz => ?_)
      obtain ⟨i, hi, rfl⟩ := List.mem_map.mp hz
      have h1 : seen i.name = true := hdn _ (hdr ▸ List.mem_map_of_mem hi)
      rcases (D.seen _).mp h1 with h | h
      · exact h
      · cases h
  · rintro v r st ⟨dn, rest, fin, seen, ns, hr, hdr, Z, D, hdn, hns⟩
    cases rest with
    | nil => cases hr
    | cons t rest =>
      cases hr
      refine AsW.name ?_
      have Z' : FS S σ₀ sA iA eA dA (st.set "node" (.str t)) [] seen ns := ⟨Z.r1, Z.r2, Z.r3, Z.r4, Z.r5, Z.dg, Z.sas⟩
      refine SW.cons ?_
      refine XW.iff ?_
      refine TW.cmp ?_
      refine EW.var rfl ?_
      refine EW.var Z'.r4 ?_
      refine in_set Z'.dg.he ?_
      refine truthy_bool ?_
      cases hse : seen t with
      | true =>
        rw [if_pos rfl]
        refine SW.cons ?_
        refine XW.cont ?_
        refine ⟨dn ++ [t], rest, fin, seen, ns, rfl, by rw [hdr]; simp, Z', D, fun y hy => ?_, hns⟩
        rcases List.mem_append.mp hy with hy | hy
        · exact hdn y hy
        · simp only [List.mem_singleton] at hy; subst hy; exact hse
      | false =>
        rw [if_neg (by decide)]
        refine SW.nil ?_
        dsimp only
        refine SW.cons ?_
        have hwt : ∃ w ∈ S.infos, w.name = t := by
          have : t ∈ S.infos.map (·.name) := by rw [hdr]; simp
          obtain ⟨i, hi, e⟩ := List.mem_map.mp this
          exact ⟨i, hi, e⟩
        refine outer_loop (v0 := t) (dn := dn) hS hB hR hz hcl Z' rfl hwt D hdn hns (fun st' l hl hz2 hR' hc => hret st' l hl hz2 hR' hc) fun st' fin' seen' ns' Zs Ds hd' hv' hns' => ?_
        refine SW.nil ?_
        refine ⟨dn ++ [t], rest, fin', seen', ns', rfl, by rw [hdr]; simp, Zs, Ds, fun y hy => ?_, hns'⟩
        rcases List.mem_append.mp hy with hy | hy
        · exact hd' y hy
        · simp only [List.mem_singleton] at hy; subst hy; exact hv'
end Mine

end

section
open PySem PySem.W PyProof.Rows PySem.Calls
set_option maxRecDepth 100000
namespace Mine
variable {p : PC} {n : Nat} {b : Mode} {env : Env} {X : Value → St → Prop} {st : St} {ad : Ad}


noncomputable abbrev bmV : List Value := [.type "ValueError", .type "Exception", .type "BaseException", .type "object"]
structure KC (p : PC) (a : Ad) : Prop where
  own : OwnClsQ (Str.ofString "CycleError") a.cyc bmV "ValueError.__new__" p.mg p.base

theorem bindSelf {fd : FuncData} {x : AV} (hs : ∀ v : Value, bindArgs fd ⟨[v], []⟩ = pure [(Str.ofString "self", v)]) : BindA p fd [x] [("self", x)] := by
  refine BindA.plain rfl fun vs hl => ?_
  obtain ⟨v, vs, rfl⟩ : ∃ v r, vs = v :: r := by cases vs with | nil => cases hl | cons v r => exact ⟨v, r, rfl⟩
  cases vs with
  | cons _ _ => simp at hl
  | nil => exact hs v

/-- self._find_cycle() -/
theorem callFind {σ : Addr → Option AObj} {ρ : String → Option AV} {S : Srt} {Q : AV → St → Prop} (hS : KS2 p ad) (hB : KB p) (hb : b ≠ .handler) (hR : SR ad σ S)
    (hz : S.infos.length ≤ 400) (hcl : ∀ z ∈ S.infos, ∀ y ∈ z.ss, ∃ w ∈ S.infos, w.name = y)
    (hret : ∀ σ' l, l ≠ [] → l.length ≤ 1000 → SR ad σ' S → Cyc (S.infos.map Info.nod) → Q (.lst l) ⟨ρ, σ'⟩)
    (hend : ∀ σ', SR ad σ' S → ¬ Cyc (S.infos.map Info.nod) → Q .none ⟨ρ, σ'⟩) : CC p (n + 1) b env (.ref ad.find) [.ref S.x] Q X ⟨ρ, σ⟩ := by
  obtain ⟨fo, fd, F⟩ := hS.fFind.ex
  refine callFnC F (bindSelf fun v => ?_) hb (by intro y hy; simp only [List.mem_cons, List.not_mem_nil, or_false] at hy; rcases hy with rfl; rfl) (by decide +kernel) rfl rfl rfl fun L' q cd => ?_
  · have h1 := F.params
    have h2 := F.dflt
    have h3 := F.kwd
    obtain ⟨a1, a2, a3, a4, a5, a6, a7, a8⟩ := fd
    simp only at h1 h2 h3
    subst h1 h2 h3
    rfl
  · exact find_body hS hB hR hz hcl (fun st' l hl hz2 hR' hc => hret _ l hl hz2 hR' hc) fun st' hR' hc => hend _ hR' hc
theorem tests_nil {Q : Bool → St → Prop} (h : Q true st) : TestsW p n env [] Q st := h
theorem ElemsW.of {E : AV → Option AV → Prop} {α : Type} : ∀ (l : List α) (v : α → AV) (r : α → Option AV), (∀ a ∈ l, E (v a) (r a)) → ElemsW E (l.map v) (l.map r)
  | [], _, _, _ => .nil
  | a :: l, v, r, h => .cons (h a (.head _)) (ElemsW.of l v r fun x hx => h x (.tail _ hx))
noncomputable def readyOf (l : List Nod) : List Str := (l.filter fun z => z.np = 0).map (·.name)
theorem rs_ready (l : List Info) : (l.map fun i => if i.np = 0 then some (AV.str i.name) else none).filterMap id = (readyOf (l.map Info.nod)).map AV.str := by
  induction l with
  | nil => rfl
  | cons i l ih =>
    unfold readyOf at ih ⊢
    simp only [List.map_cons]
    by_cases h : i.np = 0
    · simp only [h, if_true, List.filterMap_cons, id]
      rw [ih]
      simp [Info.nod, h]
    · simp only [h, if_false, List.filterMap_cons, id]
      rw [ih]
      simp [Info.nod, h]

theorem aset_ready {nd : Addr} {r r' : AV} {po nf : Int} : aset (attrs nd r po nf) (Str.ofString "_ready_nodes") r' = attrs nd r' po nf := rfl

theorem SR.attrs {σ : Addr → Option AObj} {S : Srt} (hR : SR ad σ S) (r : Option (Addr × List Str)) (po nf : Int) (ep : Nat) (hr : ∀ a l, r = some (a, l) → σ a = some (.list (l.map .str)) ∧ ∀ i ∈ S.infos, i.succ ≠ a) :
    SR ad (upd σ S.dx (.dict (attrs S.nd (readyA r) po nf) ep)) { S with ready := r, po := po, nf := nf } := by
  obtain ⟨ep1, hdx⟩ := hR.hdx
  obtain ⟨ep2, hnd⟩ := hR.hnd
  have k : ∀ a o, σ a = some o → (∀ es ep, o ≠ .dict es ep) → upd σ S.dx (.dict (Mine.attrs S.nd (readyA r) po nf) ep) a = some o := fun a o e h => by
    rw [upd_ne _ _ (ne_of e hdx (h _ _))]; exact e
  refine ⟨k _ _ hR.hx (by intro _ _ z; cases z), ⟨ep, upd_same ..⟩, ⟨ep2, ?_⟩, fun i hi => ⟨k _ _ (hR.hin i hi).1 (by intro _ _ z; cases z), k _ _ (hR.hin i hi).2 (by intro _ _ z; cases z)⟩, fun a l e => ⟨k _ _ (hr a l e).1 (by intro _ _ z; cases z), (hr a l e).2⟩, hR.names, hR.addrs, hR.succs, hR.ne⟩
  rw [upd_ne _ _ hR.ne.symm]; exact hnd
theorem SR.rlist {σ : Addr → Option AObj} {S : Srt} (hR : SR ad σ S) {D : Addr} {l : List Str} (hr : S.ready = some (D, l)) (l' : List Str) : SR ad (upd σ D (.list (l'.map .str))) { S with ready := some (D, l') } := by
  obtain ⟨ep1, hdx⟩ := hR.hdx
  obtain ⟨ep2, hnd⟩ := hR.hnd
  obtain ⟨h1, h2⟩ := hR.hrd D l hr
  have k : ∀ a o, σ a = some o → (∀ es, o ≠ .list es) → upd σ D (.list (l'.map .str)) a = some o := fun a o e h => by
    rw [upd_ne _ _ (ne_of e h1 (h _))]; exact e
  refine ⟨k _ _ hR.hx (by intro _ z; cases z), ⟨ep1, ?_⟩, ⟨ep2, k _ _ hnd (by intro _ z; cases z)⟩, fun i hi => ⟨k _ _ (hR.hin i hi).1 (by intro _ z; cases z), ?_⟩, fun a l'' e => ?_, hR.names, hR.addrs, hR.succs, hR.ne⟩
  · rw [hr] at hdx; exact k _ _ hdx (by intro _ z; cases z)
  · rw [upd_ne _ _ (h2 i hi)]; exact (hR.hin i hi).2
  · cases e; exact ⟨upd_same .., h2⟩

theorem prepare_body {L' f : Addr} {q : Str} {cd : Value} {σ : Addr → Option AObj} {S : Srt} {Q : AF → St → Prop} (hS : KS2 p ad) (hC : KC p ad) (hB : KB p) (hR : SR ad σ S) (hr : S.ready = none)
    (hz : S.infos.length ≤ 400) (hcl : ∀ z ∈ S.infos, ∀ y ∈ z.ss, ∃ w ∈ S.infos, w.name = y)
    (hok : ∀ st' D, SR ad st'.σ { S with ready := some (D, readyOf (S.infos.map Info.nod)) } → ¬ Cyc (S.infos.map Info.nod) → Q .next st')
    (hcy : ∀ st' D, SR ad st'.σ { S with ready := some (D, readyOf (S.infos.map Info.nod)) } → Cyc (S.infos.map Info.nod) → X (.ref ad.cyc) st') :
    SW p (n + 1) .body (mkEnv (fnScope (methS (nthS P1 8) 3)) L' f q cd) (fnBody (methS (nthS P1 8) 3)) Q X ⟨fun y => [("self", AV.ref S.x)].reverse.lookup y, σ⟩ := by
  obtain ⟨ep1, hdx⟩ := hR.hdx
  obtain ⟨ep2, hnd⟩ := hR.hnd
  repeat (first | refine SW.cons ?_ | refine XW.assign ?_ | refine XW.iff ?_ | refine XW.ret ?_ | refine XW.expr ?_ | refine XW.assignAttr ?_ | refine XW.augAttr ?_ | refine TW.cmp ?_ | refine TW.not ?_ | refine EW.var (by first | exact rfl | assumption) ?_ | refine EW.int ?_ | refine EW.str ?_ | refine EW.bool ?_ | refine EW.noneC ?_ | refine EW.attr ?_ | refine EW.callM ?_ | refine EW.binop ?_ | refine EW.unop ?_ | refine EW.tup ?_ | refine EW.list ?_ | refine EW.cut ?_ | refine EW.sub ?_ | refine OW.no ?_ | refine OW.yes ?_ | refine LW.nil ?_ | refine LW.cons ?_ | refine AW.cons ?_ | refine AW.nil ?_ | refine truthy_bool ?_ | refine AsW.name ?_ | refine AsW.tup (by decide) ?_ | dsimp only)
  refine ga_dict hR.hx hdx hS.clsT hS.dictT hS.f2 ag_ready ?_
  rw [hr]
  refine EW.noneC ?_
  refine isnot_none_f ?_
  refine truthy_bool ?_
  rw [if_neg (by decide)]
  refine SW.nil ?_
  dsimp only
  refine SW.cons ?_
  refine XW.assignAttr ?_
  refine EW.compM (by decide) (ItE.of ?_) ?_ ?_ ?_
  · refine EW.callM ?_
    refine EW.attr ?_
    refine EW.var rfl ?_
    refine ga_dict hR.hx hdx hS.clsT hS.dictT hS.f1 ag_n2i ?_
    refine MW.builtin (recv_dict hnd) F.plainAttrs_dict F.slot_dict_values F.type_dict_values ?_
    refine AW.nil ?_
    refine call_values hnd fun w hw => ?_
    replace hw : σ w = none := hw
    have k1 : ∀ a o, σ a = some o → upd σ w (.raw (viewObj S.nd)) a = some o := fun a o e => by rw [upd_ne _ _ (ne_fresh e hw)]; exact e
    refine ⟨_, _, iter_values (upd_same ..) (k1 _ _ hnd), k1 _ _ hnd, by simp [infoD]; (first | lia | omega), S.infos.map (fun i => if i.np = 0 then some (.str i.name) else none), ?_, fun D hD => ?_⟩
    · rw [show (infoD S.infos).map (fun x => x.2) = S.infos.map (fun i => AV.ref i.addr) from by simp [infoD]]
      refine ElemsW.of S.infos _ _ fun i him => ?_
      have hi := k1 _ _ (hR.hin i him).1
      intro C ρ
      refine AsW.name ?_
      refine TW.cmp ?_
      refine EW.attr ?_
      refine EW.var rfl ?_
      refine ga_slot hi hS.clsN hS.sPred rfl ?_
      refine EW.int ?_
      refine eq_int ?_
      refine truthy_bool ?_
      by_cases h0 : i.np = 0
      · rw [if_pos (by simp [h0])]
        refine tests_nil ?_
        rw [if_pos rfl]
        refine EW.attr ?_
        refine EW.var rfl ?_
        refine ga_slot hi hS.clsN hS.sNode rfl ?_
        exact ⟨by rw [if_pos h0], rfl⟩
      · rw [if_neg (by simp [h0])]
        simp only [Bool.false_eq_true, if_false]
        exact ⟨by rw [if_neg h0], rfl⟩
    · rw [rs_ready]
      replace hD : upd σ w (.raw (viewObj S.nd)) D = none := hD
      have hR1 := hR.ext k1
      have k2 : ∀ a o, upd σ w (.raw (viewObj S.nd)) a = some o → upd (upd σ w (.raw (viewObj S.nd))) D (.list ((readyOf (S.infos.map Info.nod)).map .str)) a = some o := fun a o e => by rw [upd_ne _ _ (ne_fresh e hD)]; exact e
      have hR2 := hR1.ext k2
      obtain ⟨ep3, hdx2⟩ := hR2.hdx
      refine EW.var rfl ?_
      refine sa_dict hR2.hx hdx2 hS.clsT hS.dictT hS.t2 (fun ep4 => ?_) (by simp [attrs])
      rw [aset_ready]
      have hR3 := hR2.attrs (some (D, readyOf (S.infos.map Info.nod))) S.po S.nf ep4 fun a l e => by
        cases e
        exact ⟨upd_same .., fun i hi z => by have := (hR1.hin i hi).2; rw [z, hD] at this; cases this⟩
      obtain ⟨ep5, hdx3⟩ := hR3.hdx
      dsimp only
      refine SW.cons ?_
      refine XW.assign ?_
      refine EW.callM ?_
      refine EW.var rfl ?_
      refine MW.own hR3.hx hdx3 hS.clsT hS.mFind rfl ?_
      refine AW.nil ?_
      refine CC.cw (callFind (S := { S with ready := some (D, readyOf (S.infos.map Info.nod)) }) hS hB (by decide) hR3 hz hcl (fun σ' l hl hlz hR4 hc => ?_) fun σ' hR4 hc => ?_)
      · dsimp only
        refine SW.cons ?_
        refine XW.iff ?_
        refine TW.plain (EW.var rfl ?_)
        refine truthy_list (.inl rfl) ?_ (by (first | lia | omega))
        rw [if_pos (by cases l with | nil => exact (hl rfl).elim | cons _ _ => rfl)]
        refine SW.cons ?_
        refine XW.raiseK hC.own.own F.excBase_ValueError (by decide) hS.nsC ?_
        refine AW.cons (LW.cons ?_)
        refine EW.fstr1 (EW.str ?_)
        refine LW.cons ?_
        refine EW.var rfl ?_
        refine LW.nil ⟨hcy _ D hR4 hc, by simp⟩
      · dsimp only
        refine SW.cons ?_
        refine XW.iff ?_
        refine TW.plain (EW.var rfl ?_)
        refine truthy_none ?_
        rw [if_neg (by decide)]
        refine SW.nil ?_
        refine SW.nil ?_
        exact hok _ D hR4 hc
  · decide +kernel
  · decide +kernel
  · decide +kernel
end Mine

end

section
open PySem PySem.W PyProof.Rows PySem.Calls
set_option maxRecDepth 100000
namespace Mine
variable {p : PC} {n : Nat} {b : Mode} {env : Env} {X : Value → St → Prop} {st : St} {ad : Ad}


theorem bindOf {f : Addr} {fo : Obj} {fd : FuncData} {x : AV} {s : Stmt} (F : FnOK p f (fnArgs s) (fnBody s) (fnScope s) .none fo fd) (h : ∀ fd : FuncData, fd.params = fnArgs s → fd.defaults = .none → fd.kwdefaults = .none → ∀ v : Value, bindArgs fd ⟨[v], []⟩ = pure [(Str.ofString "self", v)]) : BindA p fd [x] [("self", x)] :=
  bindSelf (h fd F.params F.dflt F.kwd)
theorem bindPrep (fd : FuncData) (h1 : fd.params = fnArgs (methS (nthS P1 8) 3)) (h2 : fd.defaults = .none) (h3 : fd.kwdefaults = .none) (v : Value) : bindArgs fd ⟨[v], []⟩ = pure [(Str.ofString "self", v)] := by
  obtain ⟨a1, a2, a3, a4, a5, a6, a7, a8⟩ := fd
  simp only at h1 h2 h3
  subst h1 h2 h3
  rfl
theorem bindReady (fd : FuncData) (h1 : fd.params = fnArgs (methS (nthS P1 8) 4)) (h2 : fd.defaults = .none) (h3 : fd.kwdefaults = .none) (v : Value) : bindArgs fd ⟨[v], []⟩ = pure [(Str.ofString "self", v)] := by
  obtain ⟨a1, a2, a3, a4, a5, a6, a7, a8⟩ := fd
  simp only at h1 h2 h3
  subst h1 h2 h3
  rfl
theorem bindAct (fd : FuncData) (h1 : fd.params = fnArgs (methS (nthS P1 8) 5)) (h2 : fd.defaults = .none) (h3 : fd.kwdefaults = .none) (v : Value) : bindArgs fd ⟨[v], []⟩ = pure [(Str.ofString "self", v)] := by
  obtain ⟨a1, a2, a3, a4, a5, a6, a7, a8⟩ := fd
  simp only at h1 h2 h3
  subst h1 h2 h3
  rfl

theorem callPrep {σ : Addr → Option AObj} {ρ : String → Option AV} {S : Srt} {Q : AV → St → Prop} (hS : KS2 p ad) (hC : KC p ad) (hB : KB p) (hb : b ≠ .handler) (hR : SR ad σ S) (hr : S.ready = none)
    (hz : S.infos.length ≤ 400) (hcl : ∀ z ∈ S.infos, ∀ y ∈ z.ss, ∃ w ∈ S.infos, w.name = y)
    (hok : ∀ σ' D, SR ad σ' { S with ready := some (D, readyOf (S.infos.map Info.nod)) } → ¬ Cyc (S.infos.map Info.nod) → Q .none ⟨ρ, σ'⟩)
    (hcy : ∀ σ' D, SR ad σ' { S with ready := some (D, readyOf (S.infos.map Info.nod)) } → Cyc (S.infos.map Info.nod) → X (.ref ad.cyc) ⟨ρ, σ'⟩) : CC p (n + 2) b env (.ref ad.prep) [.ref S.x] Q X ⟨ρ, σ⟩ := by
  obtain ⟨fo, fd, F⟩ := hS.fPrep.ex
  refine callFnC F (bindOf F bindPrep) hb (by intro y hy; simp only [List.mem_cons, List.not_mem_nil, or_false] at hy; rcases hy with rfl; rfl) (by decide +kernel) rfl rfl rfl fun L' q cd => ?_
  exact prepare_body hS hC hB hR hr hz hcl (fun st' D hR' hc => hok _ D hR' hc) fun st' D hR' hc => hcy _ D hR' hc

/-- _law_refused -/
theorem refused_body {L' f : Addr} {q : Str} {cd : Value} {σ : Addr → Option AObj} {S : Srt} {Q : AF → St → Prop} (hS : KS2 p ad) (hC : KC p ad) (hB : KB p) (hR : SR ad σ S) (hr : S.ready = none)
    (hz : S.infos.length ≤ 400) (hcl : ∀ z ∈ S.infos, ∀ y ∈ z.ss, ∃ w ∈ S.infos, w.name = y)
    (h : ∀ st' D (c : Bool), SR ad st'.σ { S with ready := some (D, readyOf (S.infos.map Info.nod)) } → (c = true ↔ Cyc (S.infos.map Info.nod)) → Q (.ret (.bool c)) st') :
    SW p (n + 2) .body (mkEnv (fnScope (nthS P1 13)) L' f q cd) (fnBody (nthS P1 13)) Q X ⟨fun y => [("sorter", AV.ref S.x)].reverse.lookup y, σ⟩ := by
  obtain ⟨ep1, hdx⟩ := hR.hdx
  refine SW.cons ?_
  refine XW.tryK (C := ad.cyc) (bmB := bmV) (newId := "ValueError.__new__") ?t1 ?t2 ?t3 ?t4 ?t5 ?t6 ?t7
  case t1 => decide
  case t2 => exact hS.nsC
  case t3 => exact hC.own
  case t4 => decide
  case t6 => rfl
  case t7 => decide +kernel
  refine SW.cons ?_
  refine XW.expr ?_
  refine EW.callM ?_
  refine EW.var rfl ?_
  refine MW.own hR.hx hdx hS.clsT hS.mPrep rfl ?_
  refine AW.nil ?_
  refine CC.cw (callPrep hS hC hB (by decide) hR hr hz hcl (fun σ' D hR' hc => ?_) fun σ' D hR' hc => ⟨rfl, ?_⟩)
  · refine SW.nil ?_
    dsimp only
    refine SW.cons ?_
    refine XW.ret ?_
    refine EW.bool ?_
    exact h _ D false hR' ⟨fun z => (by cases z), fun z => (hc z).elim⟩
  · refine SW.cons ?_
    refine XW.ret ?_
    refine EW.bool ?_
    exact h _ D true hR' ⟨fun _ => hc, fun _ => rfl⟩

noncomputable def gPut (g : List Nod) (x : Str) (k : Int) : List Nod := g.map fun z => if z.name = x then { z with np := k } else z
noncomputable def gOut (g : List Nod) (l : List Str) : List Nod := l.foldl (fun g x => gPut g x (-1)) g
theorem gPut_set {l : List Info} (x : Str) (k : Int) : gPut (l.map Info.nod) x k = (setNp l x k).map Info.nod := by
  unfold gPut setNp
  simp only [List.map_map]
  refine List.map_congr_left fun j hj => ?_
  simp only [Function.comp]
  by_cases h : j.name = x
  · rw [if_pos h, if_pos (show j.nod.name = x from h)]; rfl
  · rw [if_neg h, if_neg (show ¬ j.nod.name = x from h)]
theorem setNp_mem {l : List Info} {x y : Str} {k : Int} (h : ∃ w ∈ l, w.name = y) : ∃ w ∈ setNp l x k, w.name = y := by
  have : y ∈ (setNp l x k).map Info.name := by
    rw [(setNp_name l x k).1]
    obtain ⟨w, hw, e⟩ := h
    exact e ▸ List.mem_map_of_mem hw
  obtain ⟨w, hw, e⟩ := List.mem_map.mp this
  exact ⟨w, hw, e⟩

theorem ag_po {nd : Addr} {r : AV} {po nf : Int} : aget (attrs nd r po nf) (Str.ofString "_npassedout") = some (.int po) := rfl
theorem ag_nf {nd : Addr} {r : AV} {po nf : Int} : aget (attrs nd r po nf) (Str.ofString "_nfinished") = some (.int nf) := rfl
theorem aset_po {nd : Addr} {r : AV} {po nf k : Int} : aset (attrs nd r po nf) (Str.ofString "_npassedout") (.int k) = attrs nd r k nf := rfl
theorem aset_nf {nd : Addr} {r : AV} {po nf k : Int} : aset (attrs nd r po nf) (Str.ofString "_nfinished") (.int k) = attrs nd r po k := rfl

theorem ready_body {L' f : Addr} {q : Str} {cd : Value} {σ : Addr → Option AObj} {S : Srt} {D : Addr} {l : List Str} {Q : AF → St → Prop} (hS : KS2 p ad) (hB : KB p) (hR : SR ad σ S) (hr : S.ready = some (D, l))
    (hz : l.length ≤ 1000) (hin : ∀ y ∈ l, ∃ w ∈ S.infos, w.name = y)
    (h : ∀ st' infos', SR ad st'.σ { S with infos := infos', ready := some (D, []), po := S.po + l.length } → infos'.map Info.nod = gOut (S.infos.map Info.nod) l → Q (.ret (.tup (l.map .str))) st') :
    SW p n .body (mkEnv (fnScope (methS (nthS P1 8) 4)) L' f q cd) (fnBody (methS (nthS P1 8) 4)) Q X ⟨fun y => [("self", AV.ref S.x)].reverse.lookup y, σ⟩ := by
  obtain ⟨ep1, hdx⟩ := hR.hdx
  obtain ⟨ep2, hnd⟩ := hR.hnd
  obtain ⟨t0, hout⟩ := hS.out
  rw [hr] at hdx
  repeat (first | refine SW.cons ?_ | refine XW.assign ?_ | refine XW.iff ?_ | refine XW.ret ?_ | refine XW.expr ?_ | refine XW.assignAttr ?_ | refine XW.augAttr ?_ | refine TW.cmp ?_ | refine TW.not ?_ | refine EW.var (by first | exact rfl | assumption) ?_ | refine EW.int ?_ | refine EW.str ?_ | refine EW.bool ?_ | refine EW.noneC ?_ | refine EW.attr ?_ | refine EW.callM ?_ | refine EW.binop ?_ | refine EW.unop ?_ | refine EW.tup ?_ | refine EW.list ?_ | refine EW.cut ?_ | refine EW.sub ?_ | refine OW.no ?_ | refine OW.yes ?_ | refine LW.nil ?_ | refine LW.cons ?_ | refine AW.cons ?_ | refine AW.nil ?_ | refine truthy_bool ?_ | refine AsW.name ?_ | refine AsW.tup (by decide) ?_ | dsimp only)
  refine ga_dict hR.hx hdx hS.clsT hS.dictT hS.f2 ag_ready ?_
  refine EW.noneC ?_
  refine is_none_f (by intro z; cases z) ?_
  refine truthy_bool ?_
  rw [if_neg (by decide)]
  refine SW.nil ?_
  dsimp only
  refine SW.cons ?_
  refine XW.assign ?_
  refine EW.callT hB.tuple bb_tuple ?_
  refine AW.cons (LW.cons ?_)
  refine EW.attr ?_
  refine EW.var rfl ?_
  refine ga_dict hR.hx hdx hS.clsT hS.dictT hS.f2 ag_ready ?_
  refine LW.nil ?_
  refine call_tuple (.inr ⟨D, rfl, (hR.hrd D l hr).1⟩) ?_ (by simp; (first | lia | omega))
  dsimp only
  refine SW.cons ?_
  refine XW.assign ?_
  refine EW.attr ?_
  refine EW.var rfl ?_
  refine ga_dict hR.hx hdx hS.clsT hS.dictT hS.f1 ag_n2i ?_
  dsimp only
  refine SW.cons ?_
  refine XW.for rfl (ItE.of (EW.var rfl ⟨_, _, iter_tup, ?_⟩))
  refine ForW.run (fun r st' => ∃ dn rest infos', r = rest.map .str ∧ l = dn ++ rest ∧ st'.ρ "self" = some (.ref S.x) ∧ st'.ρ "n2i" = some (.ref S.nd) ∧ st'.ρ "result" = some (.tup (l.map .str)) ∧ SR ad st'.σ { S with infos := infos' } ∧ infos'.map Info.nod = gOut (S.infos.map Info.nod) dn ∧ (∀ y ∈ l, ∃ w ∈ infos', w.name = y))
    (fun _ _ _ => trivial) ?_ ?_ _ _ ⟨[], l, S.infos, rfl, rfl, rfl, rfl, rfl, hR, rfl, hin⟩
  · rintro st' ⟨dn, rest, infos', hr', hl, h1, h2, h3, hR', hg', hin'⟩
    cases rest with
    | cons _ _ => cases hr'
    | nil =>
      rw [List.append_nil] at hl
      subst hl
      obtain ⟨ep3, hdx3⟩ := hR'.hdx
      have hl3 := (hR'.hrd D l hr).1
      replace hdx3 : st'.σ S.dx = some (.dict (attrs S.nd (readyA S.ready) S.po S.nf) ep3) := hdx3
      rw [hr] at hdx3
      refine SW.nil ?_
      dsimp only
      refine SW.cons ?_
      refine XW.expr ?_
      refine EW.callM ?_
      refine EW.attr ?_
      refine EW.var h1 ?_
      refine ga_dict hR'.hx hdx3 hS.clsT hS.dictT hS.f2 ag_ready ?_
      refine MW.builtin (recv_list (.inr ⟨D, rfl, hl3⟩)) F.plainAttrs_list F.slot_list_clear F.type_list_clear ?_
      refine AW.nil ?_
      refine call_clear hl3 ?_ (by simp; (first | lia | omega))
      have hR4 := hR'.rlist hr []
      obtain ⟨ep4, hdx4⟩ := hR4.hdx
      dsimp only
      refine SW.cons ?_
      refine XW.augAttr ?_
      refine EW.var h1 ?_
      refine ga_dict hR4.hx hdx4 hS.clsT hS.dictT hS.f3 ag_po ?_
      refine EW.callB hB.len bb_len ?_
      refine AW.cons (LW.cons ?_)
      refine EW.var h3 ?_
      refine LW.nil ?_
      refine call_lenT ?_ (by simp; (first | lia | omega))
      rw [List.length_map]
      refine iadd_int ?_
      refine sa_dict hR4.hx hdx4 hS.clsT hS.dictT hS.t3 (fun ep5 => ?_) (by simp [attrs])
      rw [aset_po]
      have hR5 := hR4.attrs (some (D, [])) (S.po + l.length) S.nf ep5 fun a l' e => by
        cases e
        exact hR4.hrd D [] rfl
      dsimp only
      refine SW.cons ?_
      refine XW.ret ?_
      refine EW.var h3 ?_
      exact h _ infos' hR5 hg'
  · rintro v r st' ⟨dn, rest, infos', hr', hl, h1, h2, h3, hR', hg', hin'⟩
    cases rest with
    | nil => cases hr'
    | cons t rest =>
      cases hr'
      obtain ⟨i, hi, hn⟩ := hin' t (by rw [hl]; simp)
      obtain ⟨ep3, hnd3⟩ := hR'.hnd
      obtain ⟨e1, e2⟩ := hR'.hin i hi
      refine AsW.name ?_
      refine SW.cons ?_
      refine XW.assignAttr ?_
      refine EW.glob hout (.int (-1) t0) ?_
      refine EW.sub ?_
      refine EW.var h2 ?_
      refine EW.var rfl ?_
      refine idx_dict hnd3 (aget_info.1 i hi hn hR'.names) ?_
      refine sa_slot e1 hS.clsN hS.sPred ?_
      have hR4 := hR'.np hi (-1)
      refine SW.nil ?_
      refine ⟨dn ++ [t], rest, setNp infos' i.name (-1), rfl, by rw [hl]; simp, h1, h2, h3, hR4, ?_, fun y hy => setNp_mem (hin' y hy)⟩
      rw [← gPut_set, hg', hn]
      unfold gOut
      rw [List.foldl_append]; rfl

theorem callReady {σ : Addr → Option AObj} {ρ : String → Option AV} {S : Srt} {D : Addr} {l : List Str} {Q : AV → St → Prop} (hS : KS2 p ad) (hB : KB p) (hb : b ≠ .handler) (hR : SR ad σ S) (hr : S.ready = some (D, l))
    (hz : l.length ≤ 1000) (hin : ∀ y ∈ l, ∃ w ∈ S.infos, w.name = y)
    (h : ∀ σ' infos', SR ad σ' { S with infos := infos', ready := some (D, []), po := S.po + l.length } → infos'.map Info.nod = gOut (S.infos.map Info.nod) l → Q (.tup (l.map .str)) ⟨ρ, σ'⟩) : CC p (n + 1) b env (.ref ad.ready) [.ref S.x] Q X ⟨ρ, σ⟩ := by
  obtain ⟨fo, fd, F⟩ := hS.fReady.ex
  refine callFnC F (bindOf F bindReady) hb (by intro y hy; simp only [List.mem_cons, List.not_mem_nil, or_false] at hy; rcases hy with rfl; rfl) (by decide +kernel) rfl rfl rfl fun L' q cd => ?_
  exact ready_body hS hB hR hr hz hin fun st' infos' hR' hg => h _ infos' hR' hg
end Mine

end

section
open PySem PySem.W PyProof.Rows PySem.Calls
set_option maxRecDepth 100000
namespace Mine
variable {p : PC} {n : Nat} {b : Mode} {env : Env} {X : Value → St → Prop} {st : St} {ad : Ad}


theorem EW.orE {e₁ e₂ : Expr} {rest : List Expr} {pos : Pos} {Q : AV → St → Prop} (H : EW p n b env e₁ (fun a st1 => GF p n b env VR a BR truthy (fun c st2 => if c then Q a st2 else EW p n b env (.BoolOp .Or (e₂ :: rest) pos) Q X st2) X st1) X st) : EW p n b env (.BoolOp .Or (e₁ :: e₂ :: rest) pos) Q X st :=
  GW.mk fun _ _ _ _ _ hA S => BoolOp_or (H.use hA S (.refl _) fun v s1 h1 a st1 k1 _ S1 hv H1 =>
    wpAny_mono (H1 _ _ _ _ _ _ hA S1 hv) (fun c s2 z_ => z_.elim fun h2 y st2 k2 S2 r q => by
      obtain rfl : y = c := r
      cases y with
      | true => exact NP.mk S2 (k1.trans k2) (hv.mono k2) q
      | false => exact GW.at q hA S2 (k1.trans k2)) fun _ _ e => EP.mono k1 (fun _ _ z => z) e)
theorem EW.orOne {e : Expr} {op : BoolOp} {pos : Pos} {Q : AV → St → Prop} (H : EW p n b env e Q X st) : EW p n b env (.BoolOp op [e] pos) Q X st :=
  GW.mk fun _ _ _ _ _ hA S => BoolOp_one (H _ _ _ _ _ hA S)

theorem act_body {L' f : Addr} {q : Str} {cd : Value} {σ : Addr → Option AObj} {S : Srt} {D : Addr} {l : List Str} {Q : AF → St → Prop} (hS : KS2 p ad) (hB : KB p) (hR : SR ad σ S) (hr : S.ready = some (D, l)) (hz : l.length ≤ 1000)
    (h : ∀ st', st'.σ = σ → Q (.ret (.bool (decide (S.nf < S.po) || !l.isEmpty))) st') :
    SW p n .body (mkEnv (fnScope (methS (nthS P1 8) 5)) L' f q cd) (fnBody (methS (nthS P1 8) 5)) Q X ⟨fun y => [("self", AV.ref S.x)].reverse.lookup y, σ⟩ := by
  obtain ⟨ep1, hdx⟩ := hR.hdx
  rw [hr] at hdx
  repeat (first | refine SW.cons ?_ | refine XW.assign ?_ | refine XW.iff ?_ | refine XW.ret ?_ | refine XW.expr ?_ | refine XW.assignAttr ?_ | refine XW.augAttr ?_ | refine TW.cmp ?_ | refine TW.not ?_ | refine EW.var (by first | exact rfl | assumption) ?_ | refine EW.int ?_ | refine EW.str ?_ | refine EW.bool ?_ | refine EW.noneC ?_ | refine EW.attr ?_ | refine EW.callM ?_ | refine EW.binop ?_ | refine EW.unop ?_ | refine EW.tup ?_ | refine EW.list ?_ | refine EW.cut ?_ | refine EW.sub ?_ | refine OW.no ?_ | refine OW.yes ?_ | refine LW.nil ?_ | refine LW.cons ?_ | refine AW.cons ?_ | refine AW.nil ?_ | refine truthy_bool ?_ | refine AsW.name ?_ | refine AsW.tup (by decide) ?_ | dsimp only)
  refine ga_dict hR.hx hdx hS.clsT hS.dictT hS.f2 ag_ready ?_
  refine EW.noneC ?_
  refine is_none_f (by intro z; cases z) ?_
  refine truthy_bool ?_
  rw [if_neg (by decide)]
  refine SW.nil ?_
  dsimp only
  refine SW.cons ?_
  refine XW.ret ?_
  refine EW.orE ?_
  refine EW.cmp ?_
  refine EW.attr ?_
  refine EW.var rfl ?_
  refine ga_dict hR.hx hdx hS.clsT hS.dictT hS.f4 ag_nf ?_
  refine EW.attr ?_
  refine EW.var rfl ?_
  refine ga_dict hR.hx hdx hS.clsT hS.dictT hS.f3 ag_po ?_
  refine lt_int ?_
  refine truthy_bool ?_
  cases hlt : decide (S.nf < S.po) with
  | true =>
    rw [if_pos rfl]
    have := h ⟨fun y => [("self", AV.ref S.x)].reverse.lookup y, σ⟩ rfl
    rw [hlt] at this
    exact this
  | false =>
    rw [if_neg (by decide)]
    refine EW.orOne ?_
    refine EW.callT hB.bool bb_bool ?_
    refine AW.cons (LW.cons ?_)
    refine EW.attr ?_
    refine EW.var rfl ?_
    refine ga_dict hR.hx hdx hS.clsT hS.dictT hS.f2 ag_ready ?_
    refine LW.nil ?_
    refine call_boolL (.inr ⟨D, rfl, (hR.hrd D l hr).1⟩) ?_ (by simp; (first | lia | omega))
    have := h ⟨fun y => [("self", AV.ref S.x)].reverse.lookup y, σ⟩ rfl
    rw [hlt] at this
    have e : (!(l.map AV.str).isEmpty) = (false || !l.isEmpty) := by cases l <;> rfl
    rw [e]
    exact this
theorem callAct {σ : Addr → Option AObj} {ρ : String → Option AV} {S : Srt} {D : Addr} {l : List Str} {Q : AV → St → Prop} (hS : KS2 p ad) (hB : KB p) (hb : b ≠ .handler) (hR : SR ad σ S) (hr : S.ready = some (D, l)) (hz : l.length ≤ 1000)
    (h : Q (.bool (decide (S.nf < S.po) || !l.isEmpty)) ⟨ρ, σ⟩) : CC p (n + 1) b env (.ref ad.act) [.ref S.x] Q X ⟨ρ, σ⟩ := by
  obtain ⟨fo, fd, F⟩ := hS.fAct.ex
  refine callFnC F (bindOf F bindAct) hb (by intro y hy; simp only [List.mem_cons, List.not_mem_nil, or_false] at hy; rcases hy with rfl; rfl) (by decide +kernel) rfl rfl rfl fun L' q cd => ?_
  refine act_body hS hB hR hr hz fun st' hσ => ?_
  show Q _ ⟨ρ, st'.σ⟩
  rw [hσ]; exact h

/-! done -/
noncomputable def npOf (g : List Nod) (x : Str) : Int := ((g.find? fun y => y.name = x).map (·.np)).getD 0
theorem npOf_eq {g : List Nod} (hn : (g.map (·.name)).Nodup) {z : Nod} (hz : z ∈ g) : npOf g z.name = z.np := by
  unfold npOf
  cases e : g.find? fun y => y.name = z.name with
  | none => have := List.find?_eq_none.mp e z hz; simp at this
  | some w =>
    have h1 := List.mem_of_find?_eq_some e
    have h2 : w.name = z.name := by simpa using List.find?_some e
    rw [inj_of_nodup hn h1 hz h2]; rfl
noncomputable def decOne (a : List Nod × List Str) (s : Str) : List Nod × List Str := (gMore a.1 s (-1), if npOf (gMore a.1 s (-1)) s = 0 then a.2 ++ [s] else a.2)
noncomputable def gDone (g : List Nod) (rd : List Str) (x : Str) : List Nod × List Str := (succOf g x).foldl decOne (gPut g x (-2), rd)

noncomputable def dF : List Stmt := fnBody (methS (nthS P1 8) 7)
noncomputable def dFor : Stmt := dF.getD 2 dumS

theorem decOne_len (ss : List Str) : ∀ (a : List Nod × List Str), (ss.foldl decOne a).2.length ≤ a.2.length + ss.length := by
  induction ss with
  | nil => intro a; exact Nat.le_refl _
  | cons s ss ih =>
    intro a
    have h1 := ih (decOne a s)
    have h2 : (decOne a s).2.length ≤ a.2.length + 1 := by
      unfold decOne; dsimp only; split <;> simp
    simp only [List.foldl_cons, List.length_cons]
    (first | lia | omega)

/-- one node is done -/
theorem done_one {L' f : Addr} {q : Str} {cd : Value} {st : St} {S : Srt} {D : Addr} {l : List Str} {i : Info} {Q : AF → St → Prop} (hS : KS2 p ad) (hB : KB p) (hR : SR ad st.σ S) (hr : S.ready = some (D, l))
    (h1 : st.ρ "self" = some (.ref S.x)) (h2 : st.ρ "n2i" = some (.ref S.nd)) (h3 : st.ρ "node" = some (.str i.name)) (hi : i ∈ S.infos) (hnp : i.np = -1) (hz : l.length + i.ss.length ≤ 1000) (hcl : ∀ y ∈ i.ss, ∃ w ∈ S.infos, w.name = y)
    (h : ∀ st' infos', (∀ y, y ≠ "nodeinfo" → y ≠ "stat" → y ≠ "successor" → y ≠ "successor_info" → st'.ρ y = st.ρ y) →
      SR ad st'.σ { S with infos := infos', ready := some (D, (gDone (S.infos.map Info.nod) l i.name).2), nf := S.nf + 1 } → infos'.map Info.nod = (gDone (S.infos.map Info.nod) l i.name).1 → Q .next st') :
    SW p n .body (mkEnv (fnScope (methS (nthS P1 8) 7)) L' f q cd) (forBody dFor) Q X st := by
  obtain ⟨ep1, hdx⟩ := hR.hdx
  obtain ⟨ep2, hnd⟩ := hR.hnd
  obtain ⟨t0, hout⟩ := hS.out
  obtain ⟨t1, hdn⟩ := hS.dn
  obtain ⟨e1, e2⟩ := hR.hin i hi
  refine SW.cons ?_
  refine XW.iff ?_
  refine TW.cmp ?_
  refine EW.named ?_
  refine EW.callM ?_
  refine EW.var h2 ?_
  refine MW.builtin (recv_dict hnd) F.plainAttrs_dict F.slot_dict_get F.type_dict_get ?_
  refine AW.cons (LW.cons ?_)
  refine EW.var h3 ?_
  refine LW.nil ?_
  refine call_dget hnd ?_
  rw [aget_info.1 i hi rfl hR.names]
  refine AsW.name ?_
  refine EW.noneC ?_
  refine is_none_f (by intro z; cases z) ?_
  refine truthy_bool ?_
  rw [if_neg (by decide)]
  refine SW.nil ?_
  dsimp only
  refine SW.cons ?_
  refine XW.assign ?_
  refine EW.attr ?_
  refine EW.var rfl ?_
  refine ga_slot e1 hS.clsN hS.sPred rfl ?_
  dsimp only
  refine SW.cons ?_
  refine XW.iff ?_
  refine TW.cmp ?_
  refine EW.var rfl ?_
  refine EW.glob hout (.int (-1) t0) ?_
  refine ne_int ?_
  refine truthy_bool ?_
  rw [if_neg (by rw [hnp]; decide)]
  refine SW.nil ?_
  dsimp only
  refine SW.cons ?_
  refine XW.assignAttr ?_
  refine EW.glob hdn (.int (-2) t1) ?_
  refine EW.var rfl ?_
  refine sa_slot e1 hS.clsN hS.sPred ?_
  have hR1 := hR.np hi (-2)
  dsimp only
  refine SW.cons ?_
  refine XW.for rfl (ItE.of (EW.attr (EW.var rfl ?_)))
  have hl1 : upd st.σ i.addr (infoO ad { i with np := -2 }) i.succ = some (.list (i.ss.map .str)) :=
    (hR1.hin { i with np := -2 } (List.mem_map.mpr ⟨i, hi, if_pos rfl⟩)).2
  refine ga_slot (upd_same ..) hS.clsN hS.sSucc rfl ⟨_, _, iter_list (.inr ⟨i.succ, rfl, hl1⟩), ?_⟩
  have hsO : succOf (S.infos.map Info.nod) i.name = i.ss := info_ss hR hi
  refine ForW.run (fun r st' => ∃ dn rest infos' rd, r = rest.map .str ∧ i.ss = dn ++ rest ∧ (∀ y, y ≠ "nodeinfo" → y ≠ "stat" → y ≠ "successor" → y ≠ "successor_info" → st'.ρ y = st.ρ y) ∧ SR ad st'.σ { S with infos := infos', ready := some (D, rd) } ∧ (infos'.map Info.nod, rd) = dn.foldl decOne (gPut (S.infos.map Info.nod) i.name (-2), l)
      ∧ (∀ y ∈ i.ss, ∃ w ∈ infos', w.name = y) ∧ ∃ j ∈ infos', j.succ = i.succ ∧ j.ss = i.ss)
    ?_ ?_ ?_ _ _ ⟨[], i.ss, setNp S.infos i.name (-2), l, rfl, rfl, fun y y1 y2 _ _ => ?_, ?_, ?_, fun y hy => setNp_mem (hcl y hy), { i with np := -2 }, List.mem_map.mpr ⟨i, hi, if_pos rfl⟩, rfl, rfl⟩
  · rintro r st' ⟨dn, rest, infos', rd, _, _, _, hR', _, _, j, hj, hj1, hj2⟩
    exact .inr ⟨_, rfl, hj1 ▸ hj2 ▸ (hR'.hin j hj).2⟩
  · rintro st' ⟨dn, rest, infos', rd, hr', hss, hρ, hR', hg', hin', j, hj, hj1, hj2⟩
    cases rest with
    | cons _ _ => cases hr'
    | nil =>
      rw [List.append_nil] at hss
      obtain ⟨ep3, hdx3⟩ := hR'.hdx
      have hs1 : st'.ρ "self" = some (.ref S.x) := (hρ _ (by decide) (by decide) (by decide) (by decide)).trans h1
      refine SW.nil ?_
      dsimp only
      refine SW.cons ?_
      refine XW.augAttr ?_
      refine EW.var hs1 ?_
      refine ga_dict hR'.hx hdx3 hS.clsT hS.dictT hS.f4 ag_nf ?_
      refine EW.int ?_
      refine iadd_int ?_
      refine sa_dict hR'.hx hdx3 hS.clsT hS.dictT hS.t4 (fun ep4 => ?_) (by simp [attrs])
      rw [aset_nf]
      have hR4 := hR'.attrs (some (D, rd)) S.po (S.nf + 1) ep4 fun a l' e => by
        cases e
        exact hR'.hrd D rd rfl
      refine SW.nil ?_
      have hgD : gDone (S.infos.map Info.nod) l i.name = (infos'.map Info.nod, rd) := by
        unfold gDone
        rw [hsO, hg', ← hss]
      refine h _ infos' hρ ?_ (by rw [hgD])
      rw [hgD]
      exact hR4
  · rintro v r st' ⟨dn, rest, infos', rd, hr', hss, hρ, hR', hg', hin', j, hj, hj1, hj2⟩
    cases rest with
    | nil => cases hr'
    | cons t rest =>
      cases hr'
      have hlen : i.ss.length = dn.length + 1 + rest.length := by rw [hss]; simp; (first | lia | omega)
      have hs1 : st'.ρ "self" = some (.ref S.x) := (hρ _ (by decide) (by decide) (by decide) (by decide)).trans h1
      have hs2 : st'.ρ "n2i" = some (.ref S.nd) := (hρ _ (by decide) (by decide) (by decide) (by decide)).trans h2
      obtain ⟨w, hw, hwn⟩ := hin' t (by rw [hss]; simp)
      obtain ⟨ep3, hnd3⟩ := hR'.hnd
      obtain ⟨e3, e4⟩ := hR'.hin w hw
      have hrl : rd.length ≤ l.length + dn.length := by
        have := decOne_len dn (gPut (S.infos.map Info.nod) i.name (-2), l)
        rw [← hg'] at this
        exact this
      refine AsW.name ?_
      refine SW.cons ?_
      refine XW.assign ?_
      refine EW.sub ?_
      refine EW.var hs2 ?_
      refine EW.var rfl ?_
      refine idx_dict hnd3 (aget_info.1 w hw hwn hR'.names) ?_
      dsimp only
      refine SW.cons ?_
      refine XW.augAttr ?_
      refine EW.var rfl ?_
      refine ga_slot e3 hS.clsN hS.sPred rfl ?_
      refine EW.int ?_
      refine isub_int ?_
      refine sa_slot e3 hS.clsN hS.sPred ?_
      have hR4 := hR'.np hw (w.np - 1)
      have hg4 : gMore (infos'.map Info.nod) t (-1) = (setNp infos' w.name (w.np - 1)).map Info.nod := by
        rw [← hwn]; exact gMore_set hw hR'.names (-1)
      have hnp4 : npOf ((setNp infos' w.name (w.np - 1)).map Info.nod) t = w.np - 1 := by
        have hm : ({ w with np := w.np - 1 } : Info) ∈ setNp infos' w.name (w.np - 1) := List.mem_map.mpr ⟨w, hw, if_pos rfl⟩
        have := npOf_eq (g := (setNp infos' w.name (w.np - 1)).map Info.nod) (by rw [List.map_map]; exact hR4.names) (z := ({ w with np := w.np - 1 } : Info).nod) (List.mem_map_of_mem hm)
        rw [← hwn]; exact this
      have hcl4 : ∀ y ∈ i.ss, ∃ w' ∈ setNp infos' w.name (w.np - 1), w'.name = y := fun y hy => setNp_mem (hin' y hy)
      have hj4 : ∃ j' ∈ setNp infos' w.name (w.np - 1), j'.succ = i.succ ∧ j'.ss = i.ss := by
        by_cases hjn : j.name = w.name
        · exact ⟨{ j with np := w.np - 1 }, List.mem_map.mpr ⟨j, hj, if_pos hjn⟩, hj1, hj2⟩
        · exact ⟨j, List.mem_map.mpr ⟨j, hj, if_neg hjn⟩, hj1, hj2⟩
      dsimp only
      refine SW.cons ?_
      refine XW.iff ?_
      refine TW.cmp ?_
      refine EW.attr ?_
      refine EW.var rfl ?_
      refine ga_slot (upd_same ..) hS.clsN hS.sPred rfl ?_
      refine EW.int ?_
      refine eq_int ?_
      refine truthy_bool ?_
      have hstep : ∀ rd', rd' = (if w.np - 1 = 0 then rd ++ [t] else rd) → ((setNp infos' w.name (w.np - 1)).map Info.nod, rd') = (dn ++ [t]).foldl decOne (gPut (S.infos.map Info.nod) i.name (-2), l) := fun rd' e => by
        rw [List.foldl_append, ← hg']
        show _ = decOne (infos'.map Info.nod, rd) t
        unfold decOne
        dsimp only
        rw [hg4, hnp4, e]
      by_cases h0 : w.np - 1 = 0
      · rw [if_pos (by simp [h0])]
        obtain ⟨ep5, hdx5⟩ := hR4.hdx
        have hl5 := (hR4.hrd D rd rfl).1
        refine SW.cons ?_
        refine XW.append ?_
        refine EW.attr ?_
        refine EW.var hs1 ?_
        refine ga_dict hR4.hx hdx5 hS.clsT hS.dictT hS.f2 ag_ready ⟨D, rfl, ?_, _, hl5⟩
        refine EW.var rfl ?_
        refine ⟨_, hl5, by simp; (first | lia | omega), ?_⟩
        rw [mapS]
        have hR6 := hR4.rlist (D := D) (l := rd) rfl (rd ++ [t])
        refine SW.nil ?_
        refine SW.nil ?_
        refine ⟨dn ++ [t], rest, _, rd ++ [t], rfl, by rw [hss]; simp, fun y y1 y2 y3 y4 => ?_, hR6, hstep _ (by rw [if_pos h0]), hcl4, hj4⟩
        show upd (upd st'.ρ _ _) _ _ y = _
        rw [upd_ne _ _ y4, upd_ne _ _ y3]; exact hρ y y1 y2 y3 y4
      · rw [if_neg (by simpa using h0)]
        refine SW.nil ?_
        refine SW.nil ?_
        refine ⟨dn ++ [t], rest, _, rd, rfl, by rw [hss]; simp, fun y y1 y2 y3 y4 => ?_, hR4, hstep _ (by rw [if_neg h0]), hcl4, hj4⟩
        show upd (upd st'.ρ _ _) _ _ y = _
        rw [upd_ne _ _ y4, upd_ne _ _ y3]; exact hρ y y1 y2 y3 y4
  · show upd (upd st.ρ _ _) _ _ y = _
    rw [upd_ne _ _ y2, upd_ne _ _ y1]
  · have : ({ S with infos := setNp S.infos i.name (-2), ready := some (D, l) } : Srt) = { S with infos := setNp S.infos i.name (-2) } := by rw [← hr]
    rw [this]; exact hR1
  · rw [← gPut_set]; rfl
end Mine

end

section
open PySem PySem.W PyProof.Rows PySem.Calls
set_option maxRecDepth 100000
namespace Mine
variable {p : PC} {n : Nat} {b : Mode} {env : Env} {X : Value → St → Prop} {st : St} {ad : Ad}


/-- a node that is not ready -/
theorem done_fail {L' f : Addr} {q : Str} {cd : Value} {st : St} {S : Srt} {i : Info} {Q : AF → St → Prop} (hS : KS2 p ad) (hB : KB p) (hR : SR ad st.σ S)
    (h2 : st.ρ "n2i" = some (.ref S.nd)) (h3 : st.ρ "node" = some (.str i.name)) (hi : i ∈ S.infos) (hnp : 0 ≤ i.np) (hrep : (reprText i.name).length ≤ 1000)
    (h : ∀ st', st'.σ = st.σ → X (.type "ValueError") st') :
    SW p n .body (mkEnv (fnScope (methS (nthS P1 8) 7)) L' f q cd) (forBody dFor) Q X st := by
  obtain ⟨ep2, hnd⟩ := hR.hnd
  obtain ⟨t0, hout⟩ := hS.out
  obtain ⟨e1, e2⟩ := hR.hin i hi
  refine SW.cons ?_
  refine XW.iff ?_
  refine TW.cmp ?_
  refine EW.named ?_
  refine EW.callM ?_
  refine EW.var h2 ?_
  refine MW.builtin (recv_dict hnd) F.plainAttrs_dict F.slot_dict_get F.type_dict_get ?_
  refine AW.cons (LW.cons ?_)
  refine EW.var h3 ?_
  refine LW.nil ?_
  refine call_dget hnd ?_
  rw [aget_info.1 i hi rfl hR.names]
  refine AsW.name ?_
  refine EW.noneC ?_
  refine is_none_f (by intro z; cases z) ?_
  refine truthy_bool ?_
  rw [if_neg (by decide)]
  refine SW.nil ?_
  dsimp only
  refine SW.cons ?_
  refine XW.assign ?_
  refine EW.attr ?_
  refine EW.var rfl ?_
  refine ga_slot e1 hS.clsN hS.sPred rfl ?_
  dsimp only
  refine SW.cons ?_
  refine XW.iff ?_
  refine TW.cmp ?_
  refine EW.var rfl ?_
  refine EW.glob hout (.int (-1) t0) ?_
  refine ne_int ?_
  refine truthy_bool ?_
  rw [if_pos (by simp; (first | lia | omega))]
  refine SW.cons ?_
  refine XW.iff ?_
  refine TW.cmp ?_
  refine EW.var rfl ?_
  refine EW.int ?_
  refine ge_int ?_
  refine truthy_bool ?_
  rw [if_pos (by simpa using hnp)]
  refine SW.cons ?_
  refine XW.raiseB F.excCall_ValueError F.excRaise_ValueError (by decide) hB.value bb_value ?_
  refine AW.cons (LW.cons ?_)
  refine EW.fstr3 h3 ?_ ?_
  · refine LW.nil ⟨h _ rfl, by simp⟩
  · have e1 : (Str.ofString "node ").length ≤ 100 := by decide +kernel
    have e2 : (Str.ofString " was not passed out (still not ready)").length ≤ 100 := by decide +kernel
    have : (Str.ofString "node ").length + (reprText i.name).length + (Str.ofString " was not passed out (still not ready)").length ≤ 16777216 := by (first | lia | omega)
    exact this

theorem bindDone {f : Addr} {fo : Obj} {fd : FuncData} {x : AV} {rest : List AV} (hz : rest.length ≤ 1000) (F : FnOK p f (fnArgs (methS (nthS P1 8) 7)) (fnBody (methS (nthS P1 8) 7)) (fnScope (methS (nthS P1 8) 7)) .none fo fd) : BindA p fd (x :: rest) [("self", x), ("nodes", .tup rest)] := by
  refine BindA.var (as := [x]) (bs := [("self", x)]) rfl (by (first | lia | omega)) fun vs rs hl => ?_
  obtain ⟨v, vs, rfl⟩ : ∃ v r, vs = v :: r := by cases vs with | nil => cases hl | cons v r => exact ⟨v, r, rfl⟩
  cases vs with
  | cons _ _ => simp at hl
  | nil =>
    have h1 := F.params
    have h2 := F.dflt
    have h3 := F.kwd
    obtain ⟨a1, a2, a3, a4, a5, a6, a7, a8⟩ := fd
    simp only at h1 h2 h3
    subst h1 h2 h3
    cases rs with
    | nil => rfl
    | cons r rs => rfl

/-- sorter.done(node) -/
theorem callDone {σ : Addr → Option AObj} {ρ : String → Option AV} {S : Srt} {D : Addr} {l : List Str} {i : Info} {Q : AV → St → Prop} (hS : KS2 p ad) (hB : KB p) (hb : b ≠ .handler) (hR : SR ad σ S) (hr : S.ready = some (D, l))
    (hi : i ∈ S.infos) (hz : l.length + i.ss.length ≤ 1000) (hcl : ∀ y ∈ i.ss, ∃ w ∈ S.infos, w.name = y) (hrep : (reprText i.name).length ≤ 1000)
    (hok : i.np = -1 → ∀ σ' infos', SR ad σ' { S with infos := infos', ready := some (D, (gDone (S.infos.map Info.nod) l i.name).2), nf := S.nf + 1 } → infos'.map Info.nod = (gDone (S.infos.map Info.nod) l i.name).1 → Q .none ⟨ρ, σ'⟩)
    (hno : 0 ≤ i.np → ∀ σ', X (.type "ValueError") ⟨ρ, σ'⟩) (hnp : i.np = -1 ∨ 0 ≤ i.np) : CC p (n + 1) b env (.ref ad.done) [.ref S.x, .str i.name] Q X ⟨ρ, σ⟩ := by
  obtain ⟨fo, fd, F⟩ := hS.fDone.ex
  obtain ⟨ep1, hdx⟩ := hR.hdx
  rw [hr] at hdx
  refine callFnC F (bindDone (rest := [.str i.name]) (by simp) F) hb (by intro y hy; simp only [List.mem_cons, List.not_mem_nil, or_false] at hy; rcases hy with rfl | rfl <;> rfl) (by decide +kernel) rfl rfl rfl fun L' q cd => ?_
  repeat (first | refine SW.cons ?_ | refine XW.assign ?_ | refine XW.iff ?_ | refine XW.ret ?_ | refine XW.expr ?_ | refine XW.assignAttr ?_ | refine XW.augAttr ?_ | refine TW.cmp ?_ | refine TW.not ?_ | refine EW.var (by first | exact rfl | assumption) ?_ | refine EW.int ?_ | refine EW.str ?_ | refine EW.bool ?_ | refine EW.noneC ?_ | refine EW.attr ?_ | refine EW.callM ?_ | refine EW.binop ?_ | refine EW.unop ?_ | refine EW.tup ?_ | refine EW.list ?_ | refine EW.cut ?_ | refine EW.sub ?_ | refine OW.no ?_ | refine OW.yes ?_ | refine LW.nil ?_ | refine LW.cons ?_ | refine AW.cons ?_ | refine AW.nil ?_ | refine truthy_bool ?_ | refine AsW.name ?_ | refine AsW.tup (by decide) ?_ | dsimp only)
  refine ga_dict hR.hx hdx hS.clsT hS.dictT hS.f2 ag_ready ?_
  refine EW.noneC ?_
  refine is_none_f (by intro z; cases z) ?_
  refine truthy_bool ?_
  rw [if_neg (by decide)]
  refine SW.nil ?_
  dsimp only
  refine SW.cons ?_
  refine XW.assign ?_
  refine EW.attr ?_
  refine EW.var rfl ?_
  refine ga_dict hR.hx hdx hS.clsT hS.dictT hS.f1 ag_n2i ?_
  dsimp only
  refine SW.cons ?_
  refine XW.for rfl (ItE.of (EW.var rfl ⟨_, _, iter_tup, ?_⟩))
  refine ⟨trivial, AsW.name ?_⟩
  rcases hnp with hnp | hnp
  · refine done_one (S := S) (i := i) hS hB hR hr rfl rfl rfl hi hnp hz hcl fun st' infos' hρ hR' hg' => ?_
    refine ⟨trivial, SW.nil ?_⟩
    dsimp only
    refine SW.nil ?_
    exact hok hnp _ infos' hR' hg'
  · exact done_fail (S := S) (i := i) hS hB hR rfl rfl hi hnp hrep fun st' _ => hno hnp _

/-! the run -/
structure TS where
  g : List Nod
  rd : List Str
  po : Int
  nf : Int
noncomputable def TS.next (s : TS) (t : Str) : TS := ⟨(gDone (gOut s.g s.rd) [] t).1, (gDone (gOut s.g s.rd) [] t).2, s.po + s.rd.length, s.nf + 1⟩
noncomputable def takenRun : List Str → TS → Bool
  | [], s => !(decide (s.nf < s.po) || !s.rd.isEmpty)
  | t :: r, s => if npOf (gOut s.g s.rd) t = -1 then takenRun r (s.next t) else false
noncomputable def RunOK : List Str → TS → Prop
  | [], s => s.rd.length ≤ 900
  | t :: r, s => s.rd.length ≤ 900 ∧ (∀ y ∈ s.rd, ∃ z ∈ s.g, z.name = y) ∧ (∃ z ∈ s.g, z.name = t) ∧ (∀ z ∈ s.g, z.ss.length ≤ 100 ∧ ∀ y ∈ z.ss, ∃ w ∈ s.g, w.name = y) ∧ (reprText t).length ≤ 1000
    ∧ (npOf (gOut s.g s.rd) t = -1 ∨ 0 ≤ npOf (gOut s.g s.rd) t) ∧ (npOf (gOut s.g s.rd) t = -1 → RunOK r (s.next t))
theorem gPut_names (g : List Nod) (x : Str) (k : Int) : (gPut g x k).map (fun z => (z.name, z.ss)) = g.map (fun z => (z.name, z.ss)) := by
  unfold gPut
  rw [List.map_map]
  refine List.map_congr_left fun z _ => ?_
  simp only [Function.comp]
  split <;> rfl
theorem gOut_names (l : List Str) : ∀ g : List Nod, (gOut g l).map (fun z => (z.name, z.ss)) = g.map (fun z => (z.name, z.ss)) := by
  induction l with
  | nil => intro g; rfl
  | cons x l ih => intro g; exact (ih (gPut g x (-1))).trans (gPut_names g x (-1))
theorem same_names {g g' : List Nod} (h : g'.map (fun z => (z.name, z.ss)) = g.map (fun z => (z.name, z.ss))) {z : Nod} (hz : z ∈ g) : ∃ w ∈ g', w.name = z.name ∧ w.ss = z.ss := by
  have : (z.name, z.ss) ∈ g'.map (fun z => (z.name, z.ss)) := by rw [h]; exact List.mem_map.mpr ⟨z, hz, rfl⟩
  obtain ⟨w, hw, e⟩ := List.mem_map.mp this
  exact ⟨w, hw, congrArg (·.1) e, congrArg (·.2) e⟩

theorem isExc_value : isSubtype (.type "ValueError") (.type "BaseException") = pure true := by rw [isSubtype_type]; kernel_rfl
theorem notTuple_value : isSubtype (.type ((Manifest.find? "ValueError").elim "type" fun x => x.metatype)) (.type "tuple") = pure false := by
  rw [show (Manifest.find? "ValueError").elim "type" (fun x => x.metatype) = "type" from by kernel_rfl]; exact tc_notTuple
theorem sub_value : isSubtype (.type "ValueError") (.type "ValueError") = pure true := by rw [isSubtype_type]; kernel_rfl

theorem taken_body {L' f : Addr} {q : Str} {cd : Value} {σ : Addr → Option AObj} {S : Srt} {D : Addr} {l : List Str} {order : List Str} {Q : AF → St → Prop} (hS : KS2 p ad) (hB : KB p) (hR : SR ad σ S) (hr : S.ready = some (D, l))
    (hok : RunOK order ⟨S.infos.map Info.nod, l, S.po, S.nf⟩)
    (h : ∀ st', Q (.ret (.bool (takenRun order ⟨S.infos.map Info.nod, l, S.po, S.nf⟩))) st') :
    SW p (n + 1) .body (mkEnv (fnScope (nthS P1 14)) L' f q cd) (fnBody (nthS P1 14)) Q X ⟨fun y => [("sorter", AV.ref S.x), ("order", AV.lst (order.map .str))].reverse.lookup y, σ⟩ := by
  refine SW.cons ?_
  refine XW.for rfl (ItE.of (EW.var rfl ⟨_, _, iter_list (.inl rfl), ?_⟩))
  refine ForW.run (fun r st' => ∃ rest S' l', r = rest.map .str ∧ st'.ρ "sorter" = some (.ref S.x) ∧ SR ad st'.σ S' ∧ S'.x = S.x ∧ S'.ready = some (D, l') ∧ RunOK rest ⟨S'.infos.map Info.nod, l', S'.po, S'.nf⟩ ∧ takenRun order ⟨S.infos.map Info.nod, l, S.po, S.nf⟩ = takenRun rest ⟨S'.infos.map Info.nod, l', S'.po, S'.nf⟩)
    (fun _ _ _ => .inl rfl) ?_ ?_ _ _ ⟨order, S, l, rfl, rfl, hR, rfl, hr, hok, rfl⟩
  · rintro st' ⟨rest, S', l', hr', h1, hR', hx, hrd, hrun, hval⟩
    cases rest with
    | cons _ _ => cases hr'
    | nil =>
      obtain ⟨ep, hdx⟩ := hR'.hdx
      refine SW.nil ?_
      dsimp only
      refine SW.cons ?_
      refine XW.ret ?_
      refine EW.unop ?_
      refine EW.callM ?_
      refine EW.var h1 ?_
      rw [← hx]
      refine MW.own hR'.hx hdx hS.clsT hS.mAct rfl ?_
      refine AW.nil ?_
      refine CC.cw (callAct hS hB (by decide) hR' hrd (by have := hrun; simp only [RunOK] at this; (first | lia | omega)) ?_)
      refine not_bool ?_
      have := h st'
      rw [hval] at this
      exact this
  · rintro v r st' ⟨rest, S', l', hr', h1, hR', hx, hrd, hrun, hval⟩
    cases rest with
    | nil => cases hr'
    | cons t rest =>
      cases hr'
      obtain ⟨ep, hdx⟩ := hR'.hdx
      obtain ⟨c1, c2, c3, c4, c5, c6, c7⟩ := hrun
      dsimp only at c1 c2 c3 c4 c6 c7
      refine AsW.name ?_
      refine SW.cons ?_
      refine XW.expr ?_
      refine EW.callM ?_
      refine EW.var h1 ?_
      rw [← hx]
      refine MW.own hR'.hx hdx hS.clsT hS.mReady rfl ?_
      refine AW.nil ?_
      refine CC.cw (callReady hS hB (by decide) hR' hrd (by (first | lia | omega)) (fun y hy => ?_) fun σ1 infos1 hR1 hg1 => ?_)
      · obtain ⟨z, hz, e⟩ := c2 y hy
        obtain ⟨w, hw, rfl⟩ := List.mem_map.mp hz
        exact ⟨w, hw, e⟩
      dsimp only
      have hnm := gOut_names l' (S'.infos.map Info.nod)
      rw [← hg1] at hnm
      have mem1 : ∀ z ∈ S'.infos.map Info.nod, ∃ w ∈ infos1, w.name = z.name ∧ w.ss = z.ss := fun z hz => by
        obtain ⟨w, hw, e1, e2⟩ := same_names hnm hz
        obtain ⟨w', hw', rfl⟩ := List.mem_map.mp hw
        exact ⟨w', hw', e1, e2⟩
      obtain ⟨z, hz, hzn⟩ := c3
      obtain ⟨i, hi, hin, his⟩ := mem1 z hz
      have hnpi : npOf (gOut (S'.infos.map Info.nod) l') t = i.np := by
        rw [← hg1, ← hzn, ← hin]
        exact npOf_eq (z := i.nod) (by rw [List.map_map]; exact hR1.names) (List.mem_map_of_mem hi)
      obtain ⟨ep1, hdx1⟩ := hR1.hdx
      have hit : i.name = t := hin.trans hzn
      subst hit
      refine SW.cons ?_
      refine XW.tryB (T := "ValueError") ?t1 ?t2 ?t3 ?t4 ?t5 ?t6 ?t7 ?t8 ?t9
      case t1 => decide
      case t2 => exact hB.value
      case t3 => exact bb_value
      case t4 => exact isExc_value
      case t5 => exact notTuple_value
      case t7 => rfl
      case t8 => decide +kernel
      case t9 => decide +kernel
      refine SW.cons ?_
      refine XW.expr ?_
      refine EW.callM ?_
      refine EW.var (show _ = some (AV.ref S'.x) from (by rw [hx]; exact h1)) ?_
      refine MW.own hR1.hx hdx1 hS.clsT hS.mDone rfl ?_
      refine AW.cons (LW.cons ?_)
      refine EW.var rfl ?_
      refine LW.nil ?_
      refine CC.cw (callDone (S := { S' with infos := infos1, ready := some (D, []), po := S'.po + l'.length }) (i := i) hS hB (by decide) hR1 rfl hi (by rw [his]; have := (c4 z hz).1; simp; (first | lia | omega)) (fun y hy => ?_) c5 (fun hm σ2 infos2 hR2 hg2 => ?_) (fun hp σ2 => ⟨"ValueError", rfl, sub_value, ?_⟩) ?_)
      · rw [his] at hy
        obtain ⟨w, hw, e⟩ := (c4 z hz).2 y hy
        obtain ⟨w', hw', e1, _⟩ := mem1 w hw
        exact ⟨w', hw', e1.trans e⟩
      · refine SW.nil ?_
        refine SW.nil ?_
        have hm1 : npOf (gOut (S'.infos.map Info.nod) l') i.name = -1 := hnpi.trans hm
        have hts : (⟨infos2.map Info.nod, (gDone (infos1.map Info.nod) [] i.name).2, S'.po + l'.length, S'.nf + 1⟩ : TS) = TS.next ⟨S'.infos.map Info.nod, l', S'.po, S'.nf⟩ i.name := by
          unfold TS.next
          dsimp only
          rw [← hg1, hg2]
        refine ⟨rest, _, (gDone (infos1.map Info.nod) [] i.name).2, rfl, by rw [hx]; exact h1, hR2, rfl, rfl, ?_, ?_⟩
        · show RunOK rest ⟨infos2.map Info.nod, _, S'.po + l'.length, S'.nf + 1⟩
          rw [hts]; exact c7 hm1
        · show _ = takenRun rest ⟨infos2.map Info.nod, _, S'.po + l'.length, S'.nf + 1⟩
          rw [hts, hval, takenRun, if_pos hm1]
      · refine SW.cons ?_
        refine XW.ret ?_
        refine EW.bool ?_
        have hm1 : ¬ npOf (gOut (S'.infos.map Info.nod) l') i.name = -1 := by rw [hnpi]; (first | lia | omega)
        have := h ⟨upd st'.ρ "text" (.str i.name), σ2⟩
        rw [hval, takenRun, if_neg hm1] at this
        exact this
      · rw [← hnpi]; exact c6
end Mine

end

section
open PySem PySem.W PyProof.Rows PySem.Calls
set_option maxRecDepth 100000
namespace Mine
variable {p : PC} {n : Nat} {b : Mode} {env : Env} {X : Value → St → Prop} {st : St} {ad : Ad}


structure AdL where
  (rows leads sorter refused taken restore : Addr)
structure KF1 (p : PC) (name : String) (f : Addr) (s : Stmt) : Prop where
  ns : nsIn p.K mainGlobals (Str.ofString name) = some (some (.ref f))
  keep : keepIn p.K (.ref f) = true
  fn : FnK p f s .none
structure KL (p : PC) (a : AdL) : Prop where
  rows : KF1 p "_law_rows" a.rows (nthS P1 10)
  leads : KF1 p "_law_leads" a.leads (nthS P1 11)
  sorter : KF1 p "_law_sorter" a.sorter (nthS P1 12)
  refused : KF1 p "_law_refused" a.refused (nthS P1 13)
  taken : KF1 p "_law_taken" a.taken (nthS P1 14)
  restore : KF1 p "restore" a.restore (nthS P1 2)

noncomputable def isF (r : Row) : Bool := r.kind == 0 || r.kind == 2
noncomputable def isS (r : Row) : Bool := r.kind == 1 || r.kind == 2
noncomputable def firstOf (t : List Row) : List Str := (t.filter isF).map (·.text)
noncomputable def secondOf (t : List Row) : List Str := (t.filter isS).map (·.text)
noncomputable def orderOf (t : List Row) : List Str := (t.filter fun r => r.kind != 3).map (·.text)
noncomputable def rot {α : Type} (l : List α) (i : Nat) : List α := l.drop i ++ l.take i
structure RowOK (r : Row) : Prop where
  kind : 0 ≤ r.kind ∧ r.kind ≤ 3
  one : restF (tagOf 1) r.mark = if isF r then some r.text else none
  two : restF (tagOf 2) r.mark = if isS r then some r.text else none
  len : r.mark.length ≤ 1000
  cut : Dat (.str (Txt.slice r.mark none (some 2)))
  txt : Dat (.str r.text)
noncomputable def startG (pace : Nat) (t : List Row) : List Nod := sorterG (firstOf t) (secondOf t) pace
noncomputable def startT (pace : Nat) (t : List Row) : TS := ⟨startG pace t, readyOf (startG pace t), 0, 0⟩
noncomputable def goodB (pace : Int) (t : List Row) : Bool := (leadsOf pace 0 t).all fun x => decide (1 ≤ x.2)
structure TurnOK (pace : Nat) (t : List Row) : Prop where
  cyc : Cyc (startG pace t) ↔ ∃ x ∈ leadsOf pace 0 t, x.1 = 2 ∧ x.2 < 1
  run : RunOK (orderOf t ++ [Str.ofString "end"]) (startT pace t)
  val : takenRun (orderOf t ++ [Str.ofString "end"]) (startT pace t) = goodB pace t
  cl : ∀ z ∈ startG pace t, ∀ y ∈ z.ss, ∃ w ∈ startG pace t, w.name = y

theorem filt_map {α : Type} (P : α → Bool) (f : α → AV) : ∀ l : List α, (l.map fun r => if P r then some (f r) else none).filterMap id = (l.filter P).map f
  | [] => rfl
  | a :: l => by
    have ih := filt_map P f l
    cases h : P a <;> simp [h, ih]
theorem some_map {α : Type} (f : α → AV) : ∀ l : List α, (l.map fun r => some (f r)).filterMap id = l.map f
  | [] => rfl
  | a :: l => by simp [some_map f l]
theorem filterMap_rest {tag : Str} {P : Row → Bool} : ∀ {t : List Row}, (∀ r ∈ t, restF tag r.mark = if P r then some r.text else none) → (t.map (·.mark)).filterMap (restF tag) = (t.filter P).map (·.text)
  | [], _ => rfl
  | r :: t, h => by
    have ih := filterMap_rest fun r hr => h r (.tail _ hr)
    have h1 := h r (.head _)
    cases hp : P r with
    | true => rw [hp] at h1; simp only [List.map_cons, List.filterMap_cons, h1, List.filter_cons, hp, if_true, ih]
    | false => rw [hp] at h1; simp only [List.map_cons, List.filterMap_cons, h1, List.filter_cons, hp, if_false, Bool.false_eq_true, ih]

theorem dat_strs {l : List Str} (h : ∀ x ∈ l, Dat (.str x)) : Dat (.lst (l.map .str)) := by
  have h1 : noRefs (l.map .str) = true := by
    induction l with
    | nil => rfl
    | cons x l ih => simp [noRefs, noRef, ih fun y hy => h y (.tail _ hy)]
  have h2 : PyData.canLayAll0 (toDs (l.map .str)) = true := by
    clear h1
    induction l with
    | nil => rfl
    | cons x l ih =>
      have := (h x (.head _)).2.1
      simp only [List.map_cons, toDs, PyData.canLayAll0, Bool.and_eq_true]
      exact ⟨this, ih fun y hy => h y (.tail _ hy)⟩
  have h3 : PyData.depthAll (toDs (l.map AV.str)) = 0 := by
    clear h1 h2 h
    induction l with
    | nil => rfl
    | cons x l ih => simp [toDs, toD, PyData.depthAll, PyData.depth, ih]
  refine ⟨h1, h2, ?_⟩
  show PyData.depthAll (toDs (l.map AV.str)) + 1 ≤ 50
  (first | lia | omega)
theorem dat_ints (l : List Int) : Dat (.lst (l.map .int)) := by
  refine ⟨?_, ?_, ?_⟩
  · show noRefs (l.map .int) = true
    induction l with
    | nil => rfl
    | cons x l ih => simp [noRefs, noRef, ih]
  · show PyData.canLayAll0 (toDs (l.map .int)) = true
    induction l with
    | nil => rfl
    | cons x l ih => simp only [List.map_cons, toDs, PyData.canLayAll0, Bool.and_eq_true]; exact ⟨rfl, ih⟩
  · have : PyData.depthAll (toDs (l.map AV.int)) = 0 := by
      induction l with
      | nil => rfl
      | cons x l ih => simp [toDs, toD, PyData.depthAll, PyData.depth, ih]
    show PyData.depthAll (toDs (l.map AV.int)) + 1 ≤ 50
    (first | lia | omega)
theorem dat_int (i : Int) : Dat (.int i) := ⟨rfl, rfl, by show (0 : Nat) ≤ 50; (first | lia | omega)⟩
theorem eqv_strs (l : List Str) : PyData.eqv (toD (.lst (l.map .str))) (toD (.lst (l.map .str))) = true := by
  show PyData.eqvAll (toDs (l.map .str)) (toDs (l.map .str)) = true
  induction l with
  | nil => rfl
  | cons x l ih => simp [toDs, toD, PyData.eqvAll, PyData.eqv, ih]
theorem eqv_nil (l : List AV) : PyData.eqv (toD (.lst l)) (toD (.lst [])) = l.isEmpty := by
  cases l <;> rfl
theorem rot_map {α β : Type} (f : α → β) (l : List α) (i : Nat) : (l.map f).drop i ++ (l.map f).take i = (rot l i).map f := by simp [rot]
theorem rot_mem {α : Type} {l : List α} {i : Nat} {x : α} (h : x ∈ rot l i) : x ∈ l := by
  rcases List.mem_append.mp h with h | h
  · exact List.mem_of_mem_drop h
  · exact List.mem_of_mem_take h

theorem bind1 {s : Stmt} {x : String} {f : Addr} {fo : Obj} {fd : FuncData} {a : AV} (F : FnOK p f (fnArgs s) (fnBody s) (fnScope s) .none fo fd) (h : ∀ fd : FuncData, fd.params = fnArgs s → fd.defaults = .none → fd.kwdefaults = .none → ∀ v : Value, bindArgs fd ⟨[v], []⟩ = pure [(Str.ofString x, v)]) : BindA p fd [a] [(x, a)] := by
  refine BindA.plain rfl fun vs hl => ?_
  obtain ⟨v, vs, rfl⟩ : ∃ v r, vs = v :: r := by cases vs with | nil => cases hl | cons v r => exact ⟨v, r, rfl⟩
  cases vs with
  | cons _ _ => simp at hl
  | nil => exact h fd F.params F.dflt F.kwd v
theorem bind2' {s : Stmt} {x y : String} {f : Addr} {fo : Obj} {fd : FuncData} {a c : AV} (F : FnOK p f (fnArgs s) (fnBody s) (fnScope s) .none fo fd) (h : ∀ fd : FuncData, fd.params = fnArgs s → fd.defaults = .none → fd.kwdefaults = .none → ∀ v u : Value, bindArgs fd ⟨[v, u], []⟩ = pure [(Str.ofString x, v), (Str.ofString y, u)]) : BindA p fd [a, c] [(x, a), (y, c)] := by
  refine BindA.plain rfl fun vs hl => ?_
  obtain ⟨v, vs, rfl⟩ : ∃ v r, vs = v :: r := by cases vs with | nil => cases hl | cons v r => exact ⟨v, r, rfl⟩
  obtain ⟨u, vs, rfl⟩ : ∃ v r, vs = v :: r := by cases vs with | nil => cases hl | cons v r => exact ⟨v, r, rfl⟩
  cases vs with
  | cons _ _ => simp at hl
  | nil => exact h fd F.params F.dflt F.kwd v u
theorem bind3' {s : Stmt} {x y z : String} {f : Addr} {fo : Obj} {fd : FuncData} {a c d : AV} (F : FnOK p f (fnArgs s) (fnBody s) (fnScope s) .none fo fd) (h : ∀ fd : FuncData, fd.params = fnArgs s → fd.defaults = .none → fd.kwdefaults = .none → ∀ v u w : Value, bindArgs fd ⟨[v, u, w], []⟩ = pure [(Str.ofString x, v), (Str.ofString y, u), (Str.ofString z, w)]) : BindA p fd [a, c, d] [(x, a), (y, c), (z, d)] := by
  refine BindA.plain rfl fun vs hl => ?_
  obtain ⟨v, vs, rfl⟩ : ∃ v r, vs = v :: r := by cases vs with | nil => cases hl | cons v r => exact ⟨v, r, rfl⟩
  obtain ⟨u, vs, rfl⟩ : ∃ v r, vs = v :: r := by cases vs with | nil => cases hl | cons v r => exact ⟨v, r, rfl⟩
  obtain ⟨w, vs, rfl⟩ : ∃ v r, vs = v :: r := by cases vs with | nil => cases hl | cons v r => exact ⟨v, r, rfl⟩
  cases vs with
  | cons _ _ => simp at hl
  | nil => exact h fd F.params F.dflt F.kwd v u w

theorem b_rows (fd : FuncData) (h1 : fd.params = fnArgs (nthS P1 10)) (h2 : fd.defaults = .none) (h3 : fd.kwdefaults = .none) (v : Value) : bindArgs fd ⟨[v], []⟩ = pure [(Str.ofString "script", v)] := by
  obtain ⟨a1, a2, a3, a4, a5, a6, a7, a8⟩ := fd
  simp only at h1 h2 h3
  subst h1 h2 h3
  rfl
theorem b_refused (fd : FuncData) (h1 : fd.params = fnArgs (nthS P1 13)) (h2 : fd.defaults = .none) (h3 : fd.kwdefaults = .none) (v : Value) : bindArgs fd ⟨[v], []⟩ = pure [(Str.ofString "sorter", v)] := by
  obtain ⟨a1, a2, a3, a4, a5, a6, a7, a8⟩ := fd
  simp only at h1 h2 h3
  subst h1 h2 h3
  rfl
theorem b_leads (fd : FuncData) (h1 : fd.params = fnArgs (nthS P1 11)) (h2 : fd.defaults = .none) (h3 : fd.kwdefaults = .none) (v u : Value) : bindArgs fd ⟨[v, u], []⟩ = pure [(Str.ofString "turn", v), (Str.ofString "pace", u)] := by
  obtain ⟨a1, a2, a3, a4, a5, a6, a7, a8⟩ := fd
  simp only at h1 h2 h3
  subst h1 h2 h3
  rfl
theorem b_taken (fd : FuncData) (h1 : fd.params = fnArgs (nthS P1 14)) (h2 : fd.defaults = .none) (h3 : fd.kwdefaults = .none) (v u : Value) : bindArgs fd ⟨[v, u], []⟩ = pure [(Str.ofString "sorter", v), (Str.ofString "order", u)] := by
  obtain ⟨a1, a2, a3, a4, a5, a6, a7, a8⟩ := fd
  simp only at h1 h2 h3
  subst h1 h2 h3
  rfl
theorem b_restore (fd : FuncData) (h1 : fd.params = fnArgs (nthS P1 2)) (h2 : fd.defaults = .none) (h3 : fd.kwdefaults = .none) (v u : Value) : bindArgs fd ⟨[v, u], []⟩ = pure [(Str.ofString "delta", v), (Str.ofString "which", u)] := by
  obtain ⟨a1, a2, a3, a4, a5, a6, a7, a8⟩ := fd
  simp only at h1 h2 h3
  subst h1 h2 h3
  rfl
theorem b_sorter (fd : FuncData) (h1 : fd.params = fnArgs (nthS P1 12)) (h2 : fd.defaults = .none) (h3 : fd.kwdefaults = .none) (v u w : Value) : bindArgs fd ⟨[v, u, w], []⟩ = pure [(Str.ofString "first", v), (Str.ofString "second", u), (Str.ofString "pace", w)] := by
  obtain ⟨a1, a2, a3, a4, a5, a6, a7, a8⟩ := fd
  simp only at h1 h2 h3
  subst h1 h2 h3
  rfl

/-- list(restore(e, which)) -/
theorem EW.restore {adl : AdL} {t : List Row} {which : Int} {lp np ipos pos : Pos} {e : Expr} {k : Nat} {cpos : Pos} {Q : AV → St → Prop} (hB : KB p) (hL : KL p adl) (hp : p.gp = AllBare) (hw : which = 1 ∨ which = 2) (ht : ∀ r ∈ t, RowOK r) (hz : t.length ≤ 100)
    (H : EW p (n + 2) .body env e (fun a st1 => a = .lst ((t.map (·.mark)).map .str) ∧ Q (.lst (((t.map (·.mark)).filterMap (restF (tagOf which))).map .str)) st1) X st)
    (hs2 : backTo ipos (starEach [e, .Constant (.int which) k cpos] env) = [(false, eval e env), (false, eval (.Constant (.int which) k cpos) env)] := by rfl)
    (hs : backTo pos (starEach [.Call (.Name (Str.ofString "restore") np) [e, .Constant (.int which) k cpos] [] ipos] env) = [(false, eval (.Call (.Name (Str.ofString "restore") np) [e, .Constant (.int which) k cpos] [] ipos) env)] := by rfl)
    (hxL : env.kindOf (Str.ofString "list") = some .globalImplicit := by rfl) (hxF : env.kindOf (Str.ofString "restore") = some .globalImplicit := by rfl) :
    EW p (n + 2) .body env (.Call (.Name (Str.ofString "list") lp) [.Call (.Name (Str.ofString "restore") np) [e, .Constant (.int which) k cpos] [] ipos] [] pos) Q X st := by
  obtain ⟨fo, fd, F⟩ := hL.restore.fn.ex
  have hlen : ((t.map (·.mark)).filterMap (restF (tagOf which))).length ≤ 1000 := by
    have := List.length_filterMap_le (restF (tagOf which)) (t.map (·.mark))
    rw [List.length_map] at this; (first | lia | omega)
  refine EW.listGen (bs := [("delta", .lst ((t.map (·.mark)).map .str)), ("which", .int which)]) (items := (t.map (·.mark)).filterMap (restF (tagOf which))) F hp hB.list hL.restore.ns
    (by intro y hy; simp only [List.mem_cons, List.not_mem_nil, or_false] at hy; rcases hy with rfl | rfl <;> rfl) (by decide +kernel) rfl rfl rfl hlen ?_ hs hxL hxF (by decide +kernel)
  refine AW.cons (LW.cons (H.mono (fun a st1 hq => ?_) fun _ _ z => z) ?_) hs2
  · obtain ⟨rfl, hq⟩ := hq
    refine LW.cons (EW.int (LW.nil ⟨bind2' F b_restore, ?_, hq⟩)) rfl
    refine restore_go hB hw (fun y hy => ?_) ?_
    · obtain ⟨r, hr, rfl⟩ := List.mem_map.mp hy
      exact ⟨(ht r hr).len, (ht r hr).cut⟩
    · rcases hw with rfl | rfl
      · exact ⟨rfl, by decide +kernel, by decide +kernel⟩
      · exact ⟨rfl, by decide +kernel, by decide +kernel⟩
  · rw [hs2]; rfl
end Mine

end

section
open PySem PySem.W PyProof.Rows PySem.Calls
set_option maxRecDepth 100000
namespace Mine
variable {p : PC} {n : Nat} {b : Mode} {env : Env} {X : Value → St → Prop} {st : St} {ad : Ad}


noncomputable def kindAt (rows : List Row) (i : Nat) : Int := ((rows[i]?).map (·.kind)).getD 3
noncomputable def countTo (rows : List Row) (pace : Int) : Nat → Int
  | 0 => 0
  | i + 1 => countTo rows pace i + if kindAt rows i != 3 && goodB pace (rot rows i) then 1 else 0
noncomputable def moreOfL (rows : List Row) (pace : Int) : Int := (firstOf rows).length - pace * (secondOf rows).length

theorem asws_nil {Q : Unit → St → Prop} (h : Q () st) : AsWs p n b env X [] [] Q st := h
theorem in_two (a c k : Int) : ((toDs [.int a, .int c]).any fun y => PyData.eqv y (toD (.int k))) = (k == a || k == c) := by
  have hc : ∀ a k : Int, (a == k) = (k == a) := fun a k => by
    by_cases h : a = k
    · subst h; rfl
    · rw [beq_eq_false_iff_ne.mpr h, beq_eq_false_iff_ne.mpr (Ne.symm h)]
  show ((a == k) || ((c == k) || false)) = _
  rw [Bool.or_false, hc a, hc c]
theorem rot_zero {α : Type} (l : List α) : rot l 0 = l := by simp [rot]
theorem rangeA_cons {i k : Nat} (h : i < k) : rangeA (i : Nat) (k - i) = .int (i : Nat) :: rangeA ((i + 1 : Nat) : Int) (k - (i + 1)) := by
  have : k - i = (k - (i + 1)) + 1 := by (first | lia | omega)
  rw [this]; rfl

theorem law_body {adl : AdL} {L' f : Addr} {q : Str} {cd : Value} {script : List Int} {rows : List Row} {pn : Nat} {σ : Addr → Option AObj} {Q : AF → St → Prop} (hB : KB p) (hS : KS2 p ad) (hC : KC p ad) (hL : KL p adl) (hp : p.gp = AllBare) (hs : script.length ≤ 63)
    (er : rowsOf (cellsOf script) = rows) (ep : paceOf (cellsOf script) = (pn : Nat)) (hpn : pn ≤ 3) (hz : rows.length ≤ 15) (hrow : ∀ r ∈ rows, RowOK r) (hturn : ∀ i, i < rows.length → kindAt rows i ≠ 3 → TurnOK pn (rot rows i))
    (hcount : countTo rows pn rows.length = if 0 > moreOfL rows pn then 0 else moreOfL rows pn)
    (h : ∀ st', Q (.ret (.bool true)) st') :
    SW p (n + 5) .body (mkEnv (fnScope (nthS P1 15)) L' f q cd) (fnBody (nthS P1 15)) Q X ⟨fun y => [("script", AV.lst (script.map .int))].reverse.lookup y, σ⟩ := by
  have hrot : ∀ i, (rot rows i).length ≤ 15 := fun i => by simp [rot]; (first | lia | omega)
  have hkinds : ∀ r ∈ rows, 0 ≤ r.kind ∧ r.kind ≤ 3 := fun r hr => (hrow r hr).kind
  have hrotOK : ∀ i, ∀ r ∈ rot rows i, RowOK r := fun i r hr => hrow r (rot_mem hr)
  refine SW.cons ?_
  refine XW.assignT ?_
  refine EW.callK hL.rows.ns hL.rows.keep ?_
  refine AW.cons (LW.cons ?_)
  refine EW.var rfl ?_
  refine LW.nil ?_
  obtain ⟨fo1, fd1, F1⟩ := hL.rows.fn.ex
  refine callFn F1 (bind1 F1 b_rows) (by decide) (by intro y hy; simp only [List.mem_cons, List.not_mem_nil, or_false] at hy; rcases hy with rfl; rfl) (by decide +kernel) rfl rfl rfl fun L1 q1 cd1 => ?_
  refine rows_body hB hs fun st1 hσ1 => ?_
  rw [er, ep]
  show AsW p (n + 5) .body _ _ (.tup [.lst (rows.map rowA), .int pn]) _ X _
  refine AsW.tup (by decide) ?_
  refine AsW.name ?_
  refine AsW.name ?_
  dsimp only
  refine SW.cons ?_
  refine XW.assignComp (by decide) (ItE.of (EW.var rfl ⟨_, _, iter_list (.inl rfl), .inl rfl, by simp; (first | lia | omega), rows.map (fun r => some (.str r.mark)), ?_, ?_⟩)) ?_ ?_ ?_
  · refine ElemsW.of rows _ _ fun r hr => ?_
    intro C ρ
    refine AsW.tup (by decide) ?_
    refine AsW.name ?_
    refine AsW.name ?_
    refine AsW.name ?_
    refine asws_nil ?_
    refine tests_nil ?_
    rw [if_pos rfl]
    refine EW.var rfl ?_
    exact ⟨rfl, rfl⟩
  · rw [some_map, show rows.map (fun r => AV.str r.mark) = (rows.map (·.mark)).map AV.str from by simp]
    dsimp only
    refine SW.cons ?_
    refine XW.assign ?_
    refine EW.binop ?_
    refine EW.callB hB.len bb_len ?_
    refine AW.cons (LW.cons ?_)
    refine EW.restore (t := rows) hB hL hp (.inl rfl) hrow (by (first | lia | omega)) ?_
    refine EW.var rfl ⟨rfl, ?_⟩
    refine LW.nil ?_
    rw [filterMap_rest fun r hr => (hrow r hr).one]
    refine call_len (.inl rfl) ?_ (by have := List.length_filter_le isF rows; simp; (first | lia | omega))
    refine EW.binop ?_
    refine EW.var rfl ?_
    refine EW.callB hB.len bb_len ?_
    refine AW.cons (LW.cons ?_)
    refine EW.restore (t := rows) hB hL hp (.inr rfl) hrow (by (first | lia | omega)) ?_
    refine EW.var rfl ⟨rfl, ?_⟩
    refine LW.nil ?_
    rw [filterMap_rest fun r hr => (hrow r hr).two]
    refine call_len (.inl rfl) ?_ (by have := List.length_filter_le isS rows; simp; (first | lia | omega))
    refine mul_int ?_ (mulOk_small hpn)
    refine sub_int ?_
    rw [show ((((rows.filter isF).map (·.text)).map AV.str).length : Int) - (pn : Int) * ((((rows.filter isS).map (·.text)).map AV.str).length : Int) = moreOfL rows pn from by simp [moreOfL, firstOf, secondOf]]
    dsimp only
    refine SW.cons ?_
    refine XW.assign ?_
    refine EW.int ?_
    dsimp only
    refine SW.cons ?_
    refine XW.for rfl (ItE.range hB.range ?_)
    refine EW.callB hB.len bb_len ?_
    refine AW.cons (LW.cons ?_)
    refine EW.var rfl ?_
    refine LW.nil ?_
    refine call_len (.inl rfl) ?_ (by simp; (first | lia | omega))
    refine ⟨rows.length, by simp, by (first | lia | omega), ?_⟩
    refine ForW.run (fun r st' => ∃ i, i ≤ rows.length ∧ r = rangeA (i : Nat) (rows.length - i) ∧ st'.ρ "rows" = some (.lst (rows.map rowA)) ∧ st'.ρ "pace" = some (.int pn) ∧ st'.ρ "delta" = some (.lst ((rows.map (·.mark)).map .str)) ∧ st'.ρ "more" = some (.int (moreOfL rows pn)) ∧ st'.ρ "count" = some (.int (countTo rows pn i)))
      (fun _ _ _ => trivial) ?_ ?_ _ _ ⟨0, Nat.zero_le _, rfl, rfl, rfl, rfl, rfl, rfl⟩
    · rintro st' ⟨i, hi, hr', g1, g2, g3, g4, g5⟩
      have hin : i = rows.length := by
        rcases Nat.lt_or_ge i rows.length with hlt | hge
        · rw [rangeA_cons hlt] at hr'; cases hr'
        · (first | lia | omega)
      subst hin
      refine SW.nil ?_
      dsimp only
      refine SW.cons ?_
      refine XW.ret ?_
      refine EW.cmp ?_
      refine EW.var g5 ?_
      refine EW.callB hB.max bb_max ?_
      refine AW.cons (LW.cons ?_)
      refine EW.var g4 ?_
      refine LW.cons ?_
      refine EW.int ?_
      refine LW.nil ?_
      refine call_max ?_ (by decide)
      refine eq_int ?_
      rw [hcount, beq_self_eq_true]
      exact h st'
    · rintro v r st' ⟨i, hi, hr', g1, g2, g3, g4, g5⟩
      have hlt : i < rows.length := by
        rcases Nat.lt_or_ge i rows.length with hlt | hge
        · exact hlt
        · rw [show rows.length - i = 0 from by (first | lia | omega)] at hr'; cases hr'
      rw [rangeA_cons hlt] at hr'
      cases hr'
      obtain ⟨rw0, hrw⟩ : ∃ r, rows[i]? = some r := ⟨_, List.getElem?_eq_getElem hlt⟩
      have hki : kindAt rows i = rw0.kind := by unfold kindAt; rw [hrw]; rfl
      refine AsW.name ?_
      refine SW.cons ?_
      refine XW.iff ?_
      refine TW.cmp ?_
      refine EW.sub ?_
      refine EW.sub ?_
      refine EW.var g1 ?_
      refine EW.var rfl ?_
      refine idx_list (x := rowA rw0) (.inl rfl) (by (first | lia | omega)) (by simp [hrw]) ?_
      refine EW.int ?_
      refine idx_tup (j := 0) (x := .int rw0.kind) rfl rfl ?_
      refine EW.int ?_
      refine eq_int ?_
      refine truthy_bool ?_
      by_cases hk3 : rw0.kind = 3
      · rw [if_pos (by simp [hk3])]
        refine SW.cons ?_
        refine XW.cont ?_
        refine ⟨i + 1, hlt, rfl, g1, g2, g3, g4, ?_⟩
        show st'.ρ "count" = _
        rw [g5, countTo, hki, hk3]
        simp
      rw [if_neg (by simpa using hk3)]
      obtain ⟨T1, T2, T3, T4⟩ := hturn i hlt (by rw [hki]; exact hk3)
      refine SW.nil ?_
      dsimp only
      refine SW.cons ?_
      refine XW.assign ?_
      refine EW.binop ?_
      refine EW.cut ?_
      refine EW.var g1 ?_
      refine OW.yes ?_
      refine EW.var rfl ?_
      refine OW.no ?_
      refine cut_from (.inl rfl) ?_ (by simp; (first | lia | omega))
      refine EW.cut ?_
      refine EW.var g1 ?_
      refine OW.no ?_
      refine OW.yes ?_
      refine EW.var rfl ?_
      refine cut_upto (.inl rfl) ?_ (by simp; (first | lia | omega))
      refine add_lists (.inl rfl) (.inl rfl) ?_ (by simp; (first | lia | omega))
      rw [show (((i : Nat) : Int)).toNat = i from rfl, rot_map]
      dsimp only
      refine SW.cons ?_
      refine XW.assign ?_
      refine EW.restore (t := rot rows i) hB hL hp (.inl rfl) (hrotOK i) (by have := hrot i; (first | lia | omega)) ?_
      refine EW.binop ?_
      refine EW.cut ?_
      refine EW.var g3 ?_
      refine OW.yes ?_
      refine EW.var rfl ?_
      refine OW.no ?_
      refine cut_from (.inl rfl) ?_ (by simp; (first | lia | omega))
      refine EW.cut ?_
      refine EW.var g3 ?_
      refine OW.no ?_
      refine OW.yes ?_
      refine EW.var rfl ?_
      refine cut_upto (.inl rfl) ?_ (by simp; (first | lia | omega))
      refine add_lists (.inl rfl) (.inl rfl) ⟨by simp [rot], ?_⟩ (by simp; (first | lia | omega))
      rw [filterMap_rest fun r hr => (hrotOK i r hr).one]
      dsimp only
      refine SW.cons ?_
      refine XW.assign ?_
      refine EW.restore (t := rot rows i) hB hL hp (.inr rfl) (hrotOK i) (by have := hrot i; (first | lia | omega)) ?_
      refine EW.binop ?_
      refine EW.cut ?_
      refine EW.var g3 ?_
      refine OW.yes ?_
      refine EW.var rfl ?_
      refine OW.no ?_
      refine cut_from (.inl rfl) ?_ (by simp; (first | lia | omega))
      refine EW.cut ?_
      refine EW.var g3 ?_
      refine OW.no ?_
      refine OW.yes ?_
      refine EW.var rfl ?_
      refine cut_upto (.inl rfl) ?_ (by simp; (first | lia | omega))
      refine add_lists (.inl rfl) (.inl rfl) ⟨by simp [rot], ?_⟩ (by simp; (first | lia | omega))
      rw [filterMap_rest fun r hr => (hrotOK i r hr).two]
      rw [show ((rot rows i).filter isF).map (·.text) = firstOf (rot rows i) from rfl, show ((rot rows i).filter isS).map (·.text) = secondOf (rot rows i) from rfl]
      dsimp only
      refine SW.cons ?_
      refine XW.iff ?_
      refine TW.cmp ?_
      refine EW.var rfl ?_
      refine EW.comp (by decide) (ItE.of (EW.var rfl ⟨_, _, iter_list (.inl rfl), .inl rfl, by have := hrot i; simp; (first | lia | omega), (rot rows i).map (fun r => if isF r then some (.str r.text) else none), ?_, ?_⟩)) ?_ ?_ ?_
      · refine ElemsW.of (rot rows i) _ _ fun r hr => ?_
        intro C ρ
        refine AsW.tup (by decide) ?_
        refine AsW.name ?_
        refine AsW.name ?_
        refine AsW.name ?_
        refine asws_nil ?_
        refine TW.cmp ?_
        refine EW.var rfl ?_
        refine EW.list ?_
        refine LW.cons ?_
        refine EW.int ?_
        refine LW.cons ?_
        refine EW.int ?_
        refine LW.nil ⟨?_, by simp⟩
        refine in_list (dat_int _) (dat_ints [0, 2]) ?_
        rw [in_two]
        refine truthy_bool ?_
        rw [show (r.kind == 0 || r.kind == 2) = isF r from rfl]
        cases hP : isF r with
        | true =>
          rw [if_pos rfl]
          refine tests_nil ?_
          rw [if_pos rfl, if_pos rfl]
          refine EW.var rfl ?_
          exact ⟨rfl, rfl⟩
        | false =>
          simp only [Bool.false_eq_true, if_false]
          exact ⟨trivial, rfl⟩
      · rw [filt_map, show ((rot rows i).filter isF).map (fun r => AV.str r.text) = (firstOf (rot rows i)).map AV.str from by simp [firstOf]]
        have hdat1 : Dat (.lst ((firstOf (rot rows i)).map .str)) := dat_strs fun x hx => by
          obtain ⟨r, hr, rfl⟩ := List.mem_map.mp hx
          exact (hrotOK i r ((List.mem_filter.mp hr).1)).txt
        have hdat2 : Dat (.lst ((secondOf (rot rows i)).map .str)) := dat_strs fun x hx => by
          obtain ⟨r, hr, rfl⟩ := List.mem_map.mp hx
          exact (hrotOK i r ((List.mem_filter.mp hr).1)).txt
        refine ne_data hdat1 hdat1 ?_
        rw [eqv_strs]
        refine truthy_bool ?_
        rw [if_neg (by decide)]
        refine SW.nil ?_
        dsimp only
        refine SW.cons ?_
        refine XW.iff ?_
        refine TW.cmp ?_
        refine EW.var rfl ?_
        refine EW.comp (by decide) (ItE.of (EW.var rfl ⟨_, _, iter_list (.inl rfl), .inl rfl, by have := hrot i; simp; (first | lia | omega), (rot rows i).map (fun r => if isS r then some (.str r.text) else none), ?_, ?_⟩)) ?_ ?_ ?_
        · refine ElemsW.of (rot rows i) _ _ fun r hr => ?_
          intro C ρ
          refine AsW.tup (by decide) ?_
          refine AsW.name ?_
          refine AsW.name ?_
          refine AsW.name ?_
          refine asws_nil ?_
          refine TW.cmp ?_
          refine EW.var rfl ?_
          refine EW.list ?_
          refine LW.cons ?_
          refine EW.int ?_
          refine LW.cons ?_
          refine EW.int ?_
          refine LW.nil ⟨?_, by simp⟩
          refine in_list (dat_int _) (dat_ints [1, 2]) ?_
          rw [in_two]
          refine truthy_bool ?_
          rw [show (r.kind == 1 || r.kind == 2) = isS r from rfl]
          cases hP : isS r with
          | true =>
            rw [if_pos rfl]
            refine tests_nil ?_
            rw [if_pos rfl, if_pos rfl]
            refine EW.var rfl ?_
            exact ⟨rfl, rfl⟩
          | false =>
            simp only [Bool.false_eq_true, if_false]
            exact ⟨trivial, rfl⟩
        · rw [filt_map, show ((rot rows i).filter isS).map (fun r => AV.str r.text) = (secondOf (rot rows i)).map AV.str from by simp [secondOf]]
          refine ne_data hdat2 hdat2 ?_
          rw [eqv_strs]
          refine truthy_bool ?_
          rw [if_neg (by decide)]
          refine SW.nil ?_
          dsimp only
          refine SW.cons ?_
          refine XW.assign ?_
          refine EW.callK hL.leads.ns hL.leads.keep ?_
          refine AW.cons (LW.cons ?_)
          refine EW.var rfl ?_
          refine LW.cons ?_
          refine EW.var g2 ?_
          refine LW.nil ?_
          obtain ⟨fo2, fd2, F2⟩ := hL.leads.fn.ex
          refine callFn F2 (bind2' F2 b_leads) (by decide) (by intro y hy; simp only [List.mem_cons, List.not_mem_nil, or_false] at hy; rcases hy with rfl | rfl <;> rfl) (by decide +kernel) rfl rfl rfl fun L2 q2 cd2 => ?_
          refine leads_body (rows := rot rows i) (pace := pn) (by have := hrot i; (first | lia | omega)) (fun r hr => (hrotOK i r hr).kind) fun st2 hσ2 => ?_
          show _
          dsimp only
          refine SW.cons ?_
          refine XW.assign ?_
          refine EW.callK hL.sorter.ns hL.sorter.keep ?_
          refine AW.cons (LW.cons ?_)
          refine EW.var rfl ?_
          refine LW.cons ?_
          refine EW.var rfl ?_
          refine LW.cons ?_
          refine EW.var g2 ?_
          refine LW.nil ?_
          obtain ⟨fo3, fd3, F3⟩ := hL.sorter.fn.ex
          refine callFn F3 (bind3' F3 b_sorter) (by decide) (by intro y hy; simp only [List.mem_cons, List.not_mem_nil, or_false] at hy; rcases hy with rfl | rfl | rfl <;> rfl) (by decide +kernel) rfl rfl rfl fun L3 q3 cd3 => ?_
          have hfl : (firstOf (rot rows i)).length ≤ 15 := by
            have h1 := List.length_filter_le isF (rot rows i)
            have h2 := hrot i
            simp [firstOf]; (first | lia | omega)
          have hsl : (secondOf (rot rows i)).length ≤ 15 := by
            have h1 := List.length_filter_le isS (rot rows i)
            have h2 := hrot i
            simp [secondOf]; (first | lia | omega)
          refine lsorter_body hS hB hfl hsl hpn fun x st3 hF3 => ?_
          obtain ⟨⟨S, hR, hSx, hSr, hSp, hSn, hSg⟩, hFl, hFs⟩ := hF3
          have hSz : S.infos.length ≤ 92 := by
            have := congrArg List.length hSg
            rw [List.length_map] at this
            (first | lia | omega)
          have hcl : ∀ z ∈ S.infos, ∀ y ∈ z.ss, ∃ w ∈ S.infos, w.name = y := fun z hz y hy => by
            have h1 : z.nod ∈ startG pn (rot rows i) := by
              show z.nod ∈ sorterG _ _ _
              rw [← hSg]; exact List.mem_map_of_mem hz
            obtain ⟨w, hw, e⟩ := T4 z.nod h1 y hy
            have hw' : w ∈ S.infos.map Info.nod := by rw [hSg]; exact hw
            obtain ⟨w', hw1, rfl⟩ := List.mem_map.mp hw'
            exact ⟨w', hw1, e⟩
          show SW _ _ _ _ _ _ _ _
          refine SW.cons ?_
          refine XW.iff ?_
          refine TW.cmp ?_
          refine EW.callK hL.refused.ns hL.refused.keep ?_
          refine AW.cons (LW.cons ?_)
          refine EW.var rfl ?_
          refine LW.nil ?_
          obtain ⟨fo4, fd4, F4⟩ := hL.refused.fn.ex
          refine callFn F4 (bind1 F4 b_refused) (by decide) (by intro y hy; simp only [List.mem_cons, List.not_mem_nil, or_false] at hy; rcases hy with rfl; rfl) (by decide +kernel) rfl rfl rfl fun L4 q4 cd4 => ?_
          rw [← hSx]
          refine refused_body hS hC hB hR hSr (by (first | lia | omega)) hcl fun st4 D c hR4 hcc => ?_
          rw [hSg] at hR4 hcc
          show EW _ _ _ _ _ _ _ _
          refine EW.cmp ?_
          refine EW.comp (by decide) (ItE.of (EW.var rfl ⟨_, _, iter_list (.inl rfl), .inl rfl, ?_, (leadsOf pn 0 (rot rows i)).map (fun x => if (x.1 == 2 && decide (x.2 < 1)) then some (.int x.1) else none), ?_, ?_⟩)) ?_ ?_ ?_
          · have h1 := leadsOf_length pn (rot rows i) 0
            have h2 := hrot i
            simp; (first | lia | omega)
          · refine ElemsW.of _ _ _ fun r hr => ?_
            intro C ρ
            refine AsW.tup (by decide) ?_
            refine AsW.name ?_
            refine AsW.name ?_
            refine asws_nil ?_
            refine TW.and ?_
            refine TW.cmp ?_
            refine EW.var rfl ?_
            refine EW.int ?_
            refine eq_int ?_
            refine truthy_bool ?_
            cases h1 : (r.1 == 2) with
            | false =>
              simp only [Bool.false_eq_true, if_false, Bool.false_and]
              exact ⟨trivial, rfl⟩
            | true =>
              rw [if_pos rfl]
              refine TW.and ?_
              refine TW.cmp ?_
              refine EW.var rfl ?_
              refine EW.int ?_
              refine lt_int ?_
              refine truthy_bool ?_
              cases h2 : decide (r.2 < 1) with
              | false =>
                simp only [Bool.false_eq_true, if_false, Bool.and_false]
                exact ⟨trivial, rfl⟩
              | true =>
                rw [if_pos rfl]
                refine TW.and_nil ?_
                rw [if_pos rfl]
                refine tests_nil ?_
                rw [if_pos rfl]
                refine EW.var rfl ?_
                exact ⟨rfl, rfl⟩
          · rw [filt_map, show ((leadsOf pn 0 (rot rows i)).filter (fun x => x.1 == 2 && decide (x.2 < 1))).map (fun x => AV.int x.1) = (((leadsOf pn 0 (rot rows i)).filter (fun x => x.1 == 2 && decide (x.2 < 1))).map (·.1)).map AV.int from by simp]
            refine EW.list ?_
            refine LW.nil ⟨?_, by simp⟩
            refine ne_data (dat_ints _) (dat_ints []) ?_
            rw [eqv_nil]
            refine ne_bool ?_
            refine truthy_bool ?_
            have hE : (!((((leadsOf pn 0 (rot rows i)).filter (fun x => x.1 == 2 && decide (x.2 < 1))).map (·.1)).map AV.int).isEmpty) = c := by
              rw [Bool.eq_iff_iff, hcc]
              refine Iff.trans ?_ T1.symm
              rw [Bool.not_eq_true', List.isEmpty_map, List.isEmpty_map]
              rw [← Bool.not_eq_true, List.isEmpty_iff]
              constructor
              · intro hne
                obtain ⟨x, hx⟩ := List.exists_mem_of_ne_nil _ hne
                obtain ⟨h1, h2⟩ := List.mem_filter.mp hx
                simp only [Bool.and_eq_true, beq_iff_eq, decide_eq_true_eq] at h2
                exact ⟨x, h1, h2⟩
              · rintro ⟨x, h1, h2⟩ hn
                have : x ∈ (leadsOf pn 0 (rot rows i)).filter (fun x => x.1 == 2 && decide (x.2 < 1)) := List.mem_filter.mpr ⟨h1, by simpa using h2⟩
                rw [hn] at this; cases this
            rw [hE, if_neg (by simp)]
            refine SW.nil ?_
            dsimp only
            refine SW.cons ?_
            refine XW.assign ?_
            refine EW.cmp ?_
            refine EW.comp (by decide) (ItE.of (EW.var rfl ⟨_, _, iter_list (.inl rfl), .inl rfl, ?_, (leadsOf pn 0 (rot rows i)).map (fun x => if decide (x.2 < 1) then some (.int x.2) else none), ?_, ?_⟩)) ?_ ?_ ?_
            · have h1 := leadsOf_length pn (rot rows i) 0
              have h2 := hrot i
              simp; (first | lia | omega)
            · refine ElemsW.of _ _ _ fun r hr => ?_
              intro C ρ
              refine AsW.tup (by decide) ?_
              refine AsW.name ?_
              refine AsW.name ?_
              refine asws_nil ?_
              refine TW.cmp ?_
              refine EW.var rfl ?_
              refine EW.int ?_
              refine lt_int ?_
              refine truthy_bool ?_
              cases h2 : decide (r.2 < 1) with
              | false =>
                simp only [Bool.false_eq_true, if_false]
                exact ⟨trivial, rfl⟩
              | true =>
                rw [if_pos rfl]
                refine tests_nil ?_
                rw [if_pos rfl, if_pos rfl]
                refine EW.var rfl ?_
                exact ⟨rfl, rfl⟩
            · rw [filt_map, show ((leadsOf pn 0 (rot rows i)).filter (fun x => decide (x.2 < 1))).map (fun x => AV.int x.2) = (((leadsOf pn 0 (rot rows i)).filter (fun x => decide (x.2 < 1))).map (·.2)).map AV.int from by simp]
              refine EW.list ?_
              refine LW.nil ⟨?_, by simp⟩
              refine eq_data (dat_ints _) (dat_ints []) ?_
              rw [eqv_nil]
              have hA : ((((leadsOf pn 0 (rot rows i)).filter (fun x => decide (x.2 < 1))).map (·.2)).map AV.int).isEmpty = goodB pn (rot rows i) := by
                rw [List.isEmpty_map, List.isEmpty_map, Bool.eq_iff_iff, List.isEmpty_iff, List.filter_eq_nil_iff]
                unfold goodB
                rw [List.all_eq_true]
                refine forall_congr' fun x => forall_congr' fun _ => ?_
                simp only [decide_eq_true_eq]
                (first | lia | omega)
              rw [hA]
              dsimp only
              refine SW.cons ?_
              refine XW.assignComp (by decide) (ItE.of (EW.var rfl ⟨_, _, iter_list (.inl rfl), .inl rfl, by have := hrot i; simp; (first | lia | omega), (rot rows i).map (fun r => if r.kind != 3 then some (.str r.text) else none), ?_, ?_⟩)) ?_ ?_ ?_
              · refine ElemsW.of _ _ _ fun r hr => ?_
                intro C ρ
                refine AsW.tup (by decide) ?_
                refine AsW.name ?_
                refine AsW.name ?_
                refine AsW.name ?_
                refine asws_nil ?_
                refine TW.cmp ?_
                refine EW.var rfl ?_
                refine EW.int ?_
                refine ne_int ?_
                refine truthy_bool ?_
                cases h2 : (r.kind != 3) with
                | false =>
                  simp only [Bool.false_eq_true, if_false]
                  exact ⟨trivial, rfl⟩
                | true =>
                  rw [if_pos rfl]
                  refine tests_nil ?_
                  rw [if_pos rfl, if_pos rfl]
                  refine EW.var rfl ?_
                  exact ⟨rfl, rfl⟩
              · rw [filt_map, show ((rot rows i).filter (fun r => r.kind != 3)).map (fun r => AV.str r.text) = (orderOf (rot rows i)).map AV.str from by simp [orderOf]]
                have hol : (orderOf (rot rows i)).length ≤ 15 := by
                  have h1 := List.length_filter_le (fun r : Row => r.kind != 3) (rot rows i)
                  have h2 := hrot i
                  simp [orderOf]; (first | lia | omega)
                dsimp only
                refine SW.cons ?_
                refine XW.assign ?_
                refine EW.callK hL.taken.ns hL.taken.keep ?_
                refine AW.cons (LW.cons ?_)
                refine EW.var rfl ?_
                refine LW.cons ?_
                refine EW.binop ?_
                refine EW.var rfl ?_
                refine EW.list ?_
                refine LW.cons ?_
                refine EW.str ?_
                refine LW.nil ⟨?_, by simp⟩
                refine add_lists (.inl rfl) (.inl rfl) ?_ (by simp; (first | lia | omega))
                refine LW.nil ?_
                rw [mapS]
                obtain ⟨fo5, fd5, F5⟩ := hL.taken.fn.ex
                refine callFn F5 (bind2' F5 b_taken) (by decide) (by intro y hy; simp only [List.mem_cons, List.not_mem_nil, or_false] at hy; rcases hy with rfl | rfl <;> rfl) (by decide +kernel) rfl rfl rfl fun L5 q5 cd5 => ?_
                have hT : (⟨S.infos.map Info.nod, readyOf (sorterG (firstOf (rot rows i)) (secondOf (rot rows i)) pn), S.po, S.nf⟩ : TS) = startT pn (rot rows i) := by
                  rw [hSg, hSp, hSn]; rfl
                refine taken_body (S := { S with ready := some (D, readyOf (sorterG (firstOf (rot rows i)) (secondOf (rot rows i)) pn)) }) hS hB hR4 rfl (by show RunOK _ ⟨S.infos.map Info.nod, _, S.po, S.nf⟩; rw [hT]; exact T2) fun st5 => ?_
                show SW _ _ _ _ _ _ _ (St.set ⟨_, st5.σ⟩ "taken" (.bool (takenRun _ ⟨S.infos.map Info.nod, _, S.po, S.nf⟩)))
                rw [hT, T3]
                refine SW.cons ?_
                refine XW.iff ?_
                refine TW.cmp ?_
                refine EW.var rfl ?_
                refine EW.var rfl ?_
                refine ne_bool ?_
                refine truthy_bool ?_
                rw [if_neg (by simp)]
                refine SW.nil ?_
                dsimp only
                refine SW.cons ?_
                refine XW.iff ?_
                refine TW.plain (EW.var rfl ?_)
                refine truthy_bool ?_
                cases hgood : goodB pn (rot rows i) with
                | true =>
                  rw [if_pos rfl]
                  refine SW.cons ?_
                  refine XW.aug g5 ?_
                  refine EW.int ?_
                  refine iadd_int ?_
                  refine SW.nil ?_
                  refine SW.nil ?_
                  refine ⟨i + 1, hlt, rfl, g1, g2, g3, g4, ?_⟩
                  show some (AV.int (countTo rows pn i + 1)) = _
                  rw [countTo, hki, hgood, if_pos (by simpa using hk3)]
                | false =>
                  rw [if_neg (by decide)]
                  refine SW.nil ?_
                  refine SW.nil ?_
                  refine ⟨i + 1, hlt, rfl, g1, g2, g3, g4, ?_⟩
                  show st'.ρ "count" = _
                  rw [countTo, hgood, if_neg (by simp), Int.add_zero]
                  exact g5
              all_goals decide +kernel
            all_goals decide +kernel
          all_goals decide +kernel
        all_goals decide +kernel
      all_goals decide +kernel
  all_goals decide +kernel
end Mine

end

section
open PySem PySem.W PyProof.Rows PySem.Calls
set_option maxRecDepth 100000
namespace Mine

/-! the cycle lemma -/
noncomputable def mu : List Int → Int
  | [] => 0
  | x :: r => min 0 (x + mu r)
theorem mu_le : ∀ l : List Int, mu l ≤ 0
  | [] => Int.le_refl _
  | _ :: _ => Int.min_le_left _ _
theorem mu_sum : ∀ l : List Int, mu l ≤ l.sum
  | [] => Int.le_refl _
  | x :: r => by
    have := mu_sum r
    simp only [mu, List.sum_cons]
    (first | lia | omega)
theorem mu_snoc (x : Int) : ∀ l : List Int, mu (l ++ [x]) = min (mu l) (l.sum + x)
  | [] => by simp [mu]
  | y :: l => by
    rw [List.cons_append, mu, mu, mu_snoc x l, List.sum_cons, Int.add_assoc, Int.min_assoc]
    generalize mu l = a
    generalize l.sum + x = c
    congr 1
    rcases Int.le_total a c with q | q
    · rw [Int.min_eq_left q, Int.min_eq_left (Int.add_le_add_left q y)]
    · rw [Int.min_eq_right q, Int.min_eq_right (Int.add_le_add_left q y)]
noncomputable def steps (pace : Int) (t : List Row) : List Int := t.map fun r => stepOf pace r.kind
theorem stepOf3 (pace : Int) : stepOf pace 3 = 0 := by unfold stepOf; simp
theorem leads_mu (pace : Int) : ∀ (t : List Row) (l : Int), 1 ≤ l → (((leadsOf pace l t).all fun x => decide (1 ≤ x.2)) = true ↔ 1 ≤ l + mu (steps pace t))
  | [], l, h => by simp [leadsOf, steps, mu]; exact h
  | r :: t, l, h => by
    have hm := mu_le (steps pace t)
    have e : steps pace (r :: t) = stepOf pace r.kind :: steps pace t := rfl
    rw [e]
    by_cases hk : r.kind = 3
    · rw [leadsOf, if_pos hk, hk, stepOf3, Int.add_zero]
      rw [leads_mu pace t l h]
      simp only [mu]
      (first | lia | omega)
    · rw [leadsOf, if_neg hk]
      simp only [List.all_cons, Bool.and_eq_true, decide_eq_true_eq, mu]
      by_cases hl : 1 ≤ l + stepOf pace r.kind
      · rw [leads_mu pace t _ hl]
        (first | lia | omega)
      · constructor
        · intro h; exact (hl h.1).elim
        · intro h; (first | lia | omega)
theorem good_mu (pace : Int) {r : Row} {t : List Row} (hk : r.kind ≠ 3) : goodB pace (r :: t) = true ↔ 1 ≤ stepOf pace r.kind + mu (steps pace t) := by
  have hm := mu_le (steps pace t)
  unfold goodB
  rw [leadsOf, if_neg hk, Int.zero_add]
  simp only [List.all_cons, Bool.and_eq_true, decide_eq_true_eq]
  by_cases hl : 1 ≤ stepOf pace r.kind
  · rw [leads_mu pace t _ hl]; (first | lia | omega)
  · constructor
    · intro h; exact (hl h.1).elim
    · intro h; (first | lia | omega)
theorem step_le {pace : Nat} (k : Int) : stepOf pace k ≤ 1 := by
  unfold stepOf
  split
  · (first | lia | omega)
  · split
    · (first | lia | omega)
    · split <;> (first | lia | omega)
theorem steps_app (pace : Int) (a c : List Row) : steps pace (a ++ c) = steps pace a ++ steps pace c := by simp [steps]
theorem rot_at {rows : List Row} {i : Nat} {r : Row} (h : rows[i]? = some r) : rot rows i = r :: (rows.drop (i + 1) ++ rows.take i) ∧ rot rows (i + 1) = (rows.drop (i + 1) ++ rows.take i) ++ [r] := by
  obtain ⟨hl, he⟩ := List.getElem?_eq_some_iff.mp h
  constructor
  · unfold rot
    rw [List.drop_eq_getElem_cons hl, he]; rfl
  · unfold rot
    rw [List.take_add_one, h, List.append_assoc]; rfl
theorem rot_sum (pace : Int) (rows : List Row) (i : Nat) : (steps pace (rot rows i)).sum = (steps pace rows).sum := by
  unfold rot
  have : steps pace rows = steps pace (rows.take i) ++ steps pace (rows.drop i) := by rw [← steps_app, List.take_append_drop]
  rw [steps_app, this, List.sum_append, List.sum_append]
  (first | lia | omega)
theorem count_pos {pace : Nat} {rows : List Row} (hs : 0 < (steps pace rows).sum) : ∀ i, i ≤ rows.length → countTo rows pace i = mu (steps pace (rot rows i)) - mu (steps pace (rot rows 0)) + (steps pace (rows.take i)).sum
  | 0, _ => by simp [countTo, steps]
  | i + 1, hi => by
    have ih := count_pos hs i (by (first | lia | omega))
    obtain ⟨r, hr⟩ : ∃ r, rows[i]? = some r := ⟨_, List.getElem?_eq_getElem (by (first | lia | omega))⟩
    obtain ⟨e1, e2⟩ := rot_at hr
    have hk : kindAt rows i = r.kind := by unfold kindAt; rw [hr]; rfl
    have htot := rot_sum pace rows i
    rw [e1] at htot
    have hm := mu_le (steps pace (rows.drop (i + 1) ++ rows.take i))
    have hx := step_le (pace := pace) r.kind
    have c1 : steps pace (r :: (rows.drop (i + 1) ++ rows.take i)) = stepOf pace r.kind :: steps pace (rows.drop (i + 1) ++ rows.take i) := rfl
    have c2 : steps pace ((rows.drop (i + 1) ++ rows.take i) ++ [r]) = steps pace (rows.drop (i + 1) ++ rows.take i) ++ [stepOf pace r.kind] := steps_app _ _ _
    have c3 : (steps pace (rows.take (i + 1))).sum = (steps pace (rows.take i)).sum + stepOf pace r.kind := by
      rw [List.take_add_one, hr, steps_app, List.sum_append]; simp [steps]
    rw [c1] at htot
    simp only [List.sum_cons] at htot
    rw [countTo, ih, c3, e2, c2, mu_snoc, e1, c1, hk]
    simp only [mu]
    by_cases h3 : r.kind = 3
    · rw [h3]
      simp only [bne_self_eq_false, Bool.false_and, Bool.false_eq_true, if_false]
      have := stepOf3 (pace : Int)
      rw [h3] at htot hx
      (first | lia | omega)
    · have hg := good_mu (pace : Int) (t := rows.drop (i + 1) ++ rows.take i) h3
      have hb : (r.kind != 3) = true := by simpa using h3
      rw [hb, Bool.true_and]
      by_cases hgd : goodB pace (r :: (rows.drop (i + 1) ++ rows.take i)) = true
      · rw [if_pos hgd]
        have := hg.mp hgd
        (first | lia | omega)
      · rw [if_neg hgd]
        have : ¬ 1 ≤ stepOf pace r.kind + mu (steps pace (rows.drop (i + 1) ++ rows.take i)) := fun z => hgd (hg.mpr z)
        (first | lia | omega)
theorem count_neg {pace : Nat} {rows : List Row} (hs : (steps pace rows).sum ≤ 0) : ∀ i, i ≤ rows.length → countTo rows pace i = 0
  | 0, _ => rfl
  | i + 1, hi => by
    have ih := count_neg hs i (by (first | lia | omega))
    obtain ⟨r, hr⟩ : ∃ r, rows[i]? = some r := ⟨_, List.getElem?_eq_getElem (by (first | lia | omega))⟩
    obtain ⟨e1, _⟩ := rot_at hr
    have hk : kindAt rows i = r.kind := by unfold kindAt; rw [hr]; rfl
    have htot := rot_sum pace rows i
    rw [e1] at htot
    have c1 : steps pace (r :: (rows.drop (i + 1) ++ rows.take i)) = stepOf pace r.kind :: steps pace (rows.drop (i + 1) ++ rows.take i) := rfl
    rw [c1] at htot
    simp only [List.sum_cons] at htot
    have hms := mu_sum (steps pace (rows.drop (i + 1) ++ rows.take i))
    rw [countTo, ih, e1, hk]
    by_cases h3 : r.kind = 3
    · rw [h3]; simp
    · have hg := good_mu (pace : Int) (t := rows.drop (i + 1) ++ rows.take i) h3
      rw [if_neg]
      · rfl
      · intro z
        simp only [Bool.and_eq_true] at z
        have := hg.mp z.2
        (first | lia | omega)
theorem total {pace : Nat} : ∀ {rows : List Row}, (∀ r ∈ rows, 0 ≤ r.kind ∧ r.kind ≤ 3) → (steps pace rows).sum = moreOfL rows pace
  | [], _ => by simp [steps, moreOfL, firstOf, secondOf]
  | r :: rows, h => by
    have ih := total (pace := pace) fun r hr => h r (.tail _ hr)
    have hk := h r (.head _)
    have e : (steps pace (r :: rows)).sum = stepOf pace r.kind + (steps pace rows).sum := by simp [steps]
    rw [e, ih]
    unfold moreOfL firstOf secondOf
    have : r.kind = 0 ∨ r.kind = 1 ∨ r.kind = 2 ∨ r.kind = 3 := by (first | lia | omega)
    simp only [List.length_map, List.filter_cons]
    rcases this with e | e | e | e <;> simp [isF, isS, e, stepOf, Int.mul_add] <;> (first | lia | omega)
theorem count_all {pace : Nat} {rows : List Row} (hk : ∀ r ∈ rows, 0 ≤ r.kind ∧ r.kind ≤ 3) : countTo rows pace rows.length = if 0 > moreOfL rows pace then 0 else moreOfL rows pace := by
  rw [← total hk]
  by_cases hs : 0 < (steps pace rows).sum
  · rw [count_pos hs _ (Nat.le_refl _), if_neg (by (first | lia | omega))]
    have h1 : rot rows rows.length = rows := by simp [rot]
    have h2 : rot rows 0 = rows := by simp [rot]
    rw [h1, h2, List.take_length]
    (first | lia | omega)
  · rw [count_neg (by (first | lia | omega)) _ (Nat.le_refl _)]
    split <;> (first | lia | omega)
end Mine

end

section
open PySem PySem.W PyProof.Rows PySem.Calls
set_option maxRecDepth 100000
namespace Mine

/-- the law is called from outside -/
theorem enter_top {p : PC} {n : Nat} {f : Addr} {params : Arguments} {body : List Stmt} {scope : Scope} {dV : Value} {fo : Obj} {fd : FuncData} {x : String} {av : AV} {v : Value} {s : Shared} {Q : AV → Prop} {R : Result → Shared → Prop}
    (F : FnOK p f params body scope dV fo fd) (hbind : bindArgs fd ⟨[v], []⟩ = pure [(Str.ofString x, v)]) (hbase : p.base = s.heap) (hos : s.os = p.os) (hgens : p.gp s.gens) (hv : VR s.heap av v) (hn : n ≤ 20)
    (hloc : scope.names.lookup (Str.ofString x) = some .local) (hcell : ∀ y ∈ scope.names, y.2 ≠ .cell) (hco : scope.isCoroutine = false) (hgen : scope.isGenerator = false) (hk : scope.kind = .function)
    (H : ∀ L' q cd, SW p n .body (mkEnv scope L' f q cd) body (fun fl _ => Q (retOf fl)) (fun _ _ => False) ⟨fun y => [(x, av)].reverse.lookup y, fun _ => none⟩)
    (hR : ∀ (s' : Shared) (h₁ : Heap) (a : AV) (u : Value), Sub s.heap s'.heap → s'.os = s.os → p.gp s'.gens → VR h₁ a u → Q a → R (.ok (.ret u)) s') :
    codeAny (model p.prog p.w) callerA (.call (.ref f) ⟨[v], []⟩) R s := by
  have hold : s.heap.get? f = some fo := hbase ▸ p.hK _ _ F.look
  have hcode : s.heap.CodeRec fd.code fd.qualname := hbase ▸ codeRec_of p.hK F.code
  refine codeAny_call_function (fd := fd) (by decide) hold F.data (by rw [F.scope]; exact hco) (by rw [F.scope]; exact hgen) F.body hcode ?_
  rw [hbind]
  refine wpAny_pure ?_
  refine wpAny_newFunctionEnv (by rw [F.scope]; exact hcell) (fun y hy => ?_) (fun h' hns hsb => ⟨?_, codeAny_func ?_⟩) (by rw [F.scope]; exact hk)
  · simp only [List.mem_singleton] at hy
    subst hy
    rw [F.scope]; exact hloc
  · have hl : s.heap.NoLimit := hbase ▸ p.hT.nolimit
    exact hl.fresh _ hsb
  have kk : Sub s.heap h' := fun a o e => hsb.extBut a o (Nat.ne_of_lt (Heap.lt_size e)) (Heap.get?_push_of_some _ e)
  have henv : newEnv fd.scope s.heap.objs.size fd.globals fd.closure (fd.qualname ++ ".<locals>.") (some f) fd.code none fd.builtins = mkEnv scope s.heap.objs.size f (fd.qualname ++ Str.ofString ".<locals>.") fd.code := by
    unfold newEnv mkEnv
    rw [F.scope, F.glob, F.bi, F.clos]
  rw [henv]
  have SE : Sat p s.heap.objs.size [] s.heap { s with heap := h', toks := s.toks + [(Str.ofString x, v)].length } ⟨fun y => [(x, av)].reverse.lookup y, fun _ => none⟩ (fun _ => none) := by
    refine ⟨by rw [hbase]; exact .refl _, kk, ⟨_, hns, fun y a e => ?_⟩, Heap.get?_none_of_le (Nat.le_refl _), rfl, rfl, fun a o e => (by cases e), fun a c e => (by cases e), fun e he => (by cases he), hos, hgens⟩
    have hw : VRs s.heap ([(x, av)].map (·.2)) [v] := .cons hv .nil
    exact lookup_zip_rev (bs := [(x, av)]) hw e
  have hA' : AOK n .body (callerA.deeper (mkEnv scope s.heap.objs.size f (fd.qualname ++ Str.ofString ".<locals>.") fd.code)) (mkEnv scope s.heap.objs.size f (fd.qualname ++ Str.ofString ".<locals>.") fd.code) [] := by
    refine ⟨rfl, fun _ => rfl, ?_, ?_, hk, fun _ => rfl, rfl, rfl⟩
    · have : callerA.depth ≤ 400 := by decide
      show callerA.depth + 1 + 20 * n ≤ 900
      (first | lia | omega)
    · show 4 + 3 + 100 * n ≤ 9000
      (first | lia | omega)
  refine wpAny_mono (H _ _ _ _ _ _ _ _ hA' SE) (fun fl s₂ z_ => z_.elim fun h₂ af st₂ k₂ S₂ r q => ?_) fun e s₂ he => he.never.elim
  have hsub : Sub s.heap s₂.heap := k₂.trans S₂.sub
  have hos2 : s₂.os = s.os := S₂.os.trans hos.symm
  cases r with
  | next => exact hR _ h₂ _ _ hsub hos2 S₂.gens .none q
  | brk => exact hR _ h₂ _ _ hsub hos2 S₂.gens .none q
  | cont => exact hR _ h₂ _ _ hsub hos2 S₂.gens .none q
  | ret hv => exact hR _ h₂ _ _ hsub hos2 S₂.gens hv q
end Mine

end

section
open PySem PySem.W PyProof.Rows PySem.Calls
set_option maxRecDepth 100000
namespace Mine

/-! the sorter's graph by its edges -/
noncomputable def gr (N : List Str) (np : Str → Int) (ss : Str → List Str) : List Nod := N.map fun x => ⟨x, np x, ss x⟩
noncomputable def touch (N : List Str) (x : Str) : List Str := if x ∈ N then N else N ++ [x]
noncomputable abbrev Edg := List (Str × Str)
noncomputable def inE (E : Edg) (x : Str) : Int := ((E.filter fun e => e.2 = x).length : Nat)
noncomputable def outE (E : Edg) (x : Str) : List Str := (E.filter fun e => e.1 = x).map (·.2)
noncomputable def gE (N : List Str) (E : Edg) : List Nod := gr N (inE E) (outE E)
noncomputable def EdgesIn (N : List Str) (E : Edg) : Prop := ∀ e ∈ E, e.1 ∈ N ∧ e.2 ∈ N

theorem gr_touch {N : List Str} {np : Str → Int} {ss : Str → List Str} {x : Str} (h : x ∉ N → np x = 0 ∧ ss x = []) : gTouch (gr N np ss) x = gr (touch N x) np ss := by
  unfold gTouch touch
  have e : ((gr N np ss).any fun z => z.name == x) = decide (x ∈ N) := by
    rw [Bool.eq_iff_iff]
    simp only [gr, List.any_map, List.any_eq_true, Function.comp, beq_iff_eq, decide_eq_true_eq]
    constructor
    · rintro ⟨y, hy, e⟩; exact e ▸ hy
    · intro hx; exact ⟨x, hx, rfl⟩
  rw [e]
  by_cases hx : x ∈ N
  · simp only [hx, decide_true, if_true]
  · simp only [hx, decide_false, Bool.false_eq_true, if_false]
    obtain ⟨h1, h2⟩ := h hx
    simp [gr, h1, h2]
theorem gr_more (N : List Str) (np : Str → Int) (ss : Str → List Str) (x : Str) (k : Int) : gMore (gr N np ss) x k = gr N (fun y => if y = x then np y + k else np y) ss := by
  unfold gMore gr
  rw [List.map_map]
  refine List.map_congr_left fun y _ => ?_
  simp only [Function.comp]
  by_cases h : y = x
  · simp [h]
  · simp [h]
theorem gr_succ (N : List Str) (np : Str → Int) (ss : Str → List Str) (x s : Str) : gSucc (gr N np ss) x s = gr N np (fun y => if y = x then ss y ++ [s] else ss y) := by
  unfold gSucc gr
  rw [List.map_map]
  refine List.map_congr_left fun y _ => ?_
  simp only [Function.comp]
  by_cases h : y = x
  · simp [h]
  · simp [h]
theorem gr_put (N : List Str) (np : Str → Int) (ss : Str → List Str) (x : Str) (k : Int) : gPut (gr N np ss) x k = gr N (fun y => if y = x then k else np y) ss := by
  unfold gPut gr
  rw [List.map_map]
  refine List.map_congr_left fun y _ => ?_
  simp only [Function.comp]
  by_cases h : y = x
  · simp [h]
  · simp [h]
theorem gr_find {N : List Str} {np : Str → Int} {ss : Str → List Str} {x : Str} : ((gr N np ss).find? fun y => y.name = x) = if x ∈ N then some ⟨x, np x, ss x⟩ else none := by
  unfold gr
  induction N with
  | nil => simp
  | cons y N ih =>
    simp only [List.map_cons, List.find?_cons]
    by_cases h : y = x
    · subst h; simp
    · simp only [h, decide_false]
      rw [ih]
      have : (x ∈ y :: N) ↔ x ∈ N := by simp [Ne.symm h]
      simp only [this]
theorem gr_np {N : List Str} {np : Str → Int} {ss : Str → List Str} {x : Str} (h : x ∈ N) : npOf (gr N np ss) x = np x := by
  unfold npOf; rw [gr_find, if_pos h]; rfl
theorem gr_ss {N : List Str} {np : Str → Int} {ss : Str → List Str} {x : Str} (h : x ∈ N) : succOf (gr N np ss) x = ss x := by
  unfold succOf; rw [gr_find, if_pos h]; rfl
theorem mem_touch {N : List Str} {x y : Str} : y ∈ touch N x ↔ y ∈ N ∨ y = x := by
  unfold touch
  split
  · constructor
    · exact .inl
    · rintro (h | rfl) <;> assumption
  · simp
theorem nodup_touch {N : List Str} (x : Str) (h : N.Nodup) : (touch N x).Nodup := by
  unfold touch
  split
  · exact h
  · rename_i hx
    rw [List.nodup_append]
    exact ⟨h, by simp, fun a ha b hb => by simp only [List.mem_singleton] at hb; subst hb; exact fun e => hx (e ▸ ha)⟩
theorem inE_none {N : List Str} {E : Edg} (h : EdgesIn N E) {x : Str} (hx : x ∉ N) : inE E x = 0 ∧ outE E x = [] := by
  constructor
  · unfold inE
    rw [List.filter_eq_nil_iff.mpr]
    · rfl
    · intro e he z
      exact hx ((of_decide_eq_true z) ▸ (h e he).2)
  · unfold outE
    rw [List.filter_eq_nil_iff.mpr]
    · rfl
    · intro e he z
      exact hx ((of_decide_eq_true z) ▸ (h e he).1)
theorem inE_add (E : Edg) (q x : Str) : (fun y => if y = x then inE E y + 1 else inE E y) = inE (E ++ [(q, x)]) := by
  funext y
  unfold inE
  rw [List.filter_append, List.length_append]
  by_cases h : y = x
  · subst h; simp
  · simp [h, Ne.symm h]
theorem outE_add (E : Edg) (q x : Str) : (fun y => if y = q then outE E y ++ [x] else outE E y) = outE (E ++ [(q, x)]) := by
  funext y
  unfold outE
  rw [List.filter_append, List.map_append]
  by_cases h : y = q
  · subst h; simp
  · simp [h, Ne.symm h]

theorem gAdd0 {N : List Str} {E : Edg} (h : EdgesIn N E) (x : Str) : gAdd (gE N E) x [] = gE (touch N x) E := by
  unfold gAdd gE
  simp only [List.foldl_nil, List.length_nil]
  rw [gr_touch fun hx => inE_none h hx, gr_more]
  congr 1
  funext y
  split <;> simp
theorem gAdd1 {N : List Str} {E : Edg} (h : EdgesIn N E) (x q : Str) : gAdd (gE N E) x [q] = gE (touch (touch N x) q) (E ++ [(q, x)]) := by
  unfold gAdd gE
  simp only [List.foldl_cons, List.foldl_nil, List.length_cons, List.length_nil]
  rw [gr_touch fun hx => inE_none h hx, gr_more]
  have e1 : (fun y => if y = x then inE E y + ((0 + 1 : Nat) : Int) else inE E y) = inE (E ++ [(q, x)]) := inE_add E q x
  rw [e1, gr_touch, gr_succ, outE_add]
  intro hq
  have hq1 : q ∉ N := fun z => hq (mem_touch.mpr (.inl z))
  have hqx : q ≠ x := fun z => hq (mem_touch.mpr (.inr z))
  refine ⟨?_, (inE_none h hq1).2⟩
  rw [← inE_add]
  simp only [hqx, if_false]
  exact (inE_none h hq1).1

noncomputable def chainE : Option Str → List Str → Edg
  | _, [] => []
  | q, x :: r => (q.toList.map fun a => (a, x)) ++ chainE (some x) r
noncomputable def crossE (line : List Str) (F pace : Nat) : Nat → List Str → Edg
  | _, [] => []
  | k, x :: r => (if line.getD (crossIdx pace F k) (Str.ofString "") = x then [] else [(line.getD (crossIdx pace F k) (Str.ofString ""), x)]) ++ crossE line F pace (k + 1) r

theorem EdgesIn.mono {N N' : List Str} {E : Edg} (h : EdgesIn N E) (k : ∀ x ∈ N, x ∈ N') : EdgesIn N' E := fun e he => ⟨k _ (h e he).1, k _ (h e he).2⟩
theorem EdgesIn.add {N : List Str} {E : Edg} (h : EdgesIn N E) {q x : Str} (hq : q ∈ N) (hx : x ∈ N) : EdgesIn N (E ++ [(q, x)]) := fun e he => by
  rcases List.mem_append.mp he with he | he
  · exact h e he
  · simp only [List.mem_singleton] at he; subst he; exact ⟨hq, hx⟩
theorem chain_gE : ∀ (l : List Str) (N : List Str) (E : Edg) (q : Option Str), EdgesIn N E → (∀ a, q = some a → a ∈ N) → N.Nodup →
    ∃ N', chainAdd (gE N E) q l = gE N' (E ++ chainE q l) ∧ EdgesIn N' (E ++ chainE q l) ∧ N'.Nodup ∧ ∀ x, x ∈ N' ↔ x ∈ N ∨ x ∈ l
  | [], N, E, q, h, _, hn => ⟨N, by simp [chainAdd, chainE], by simpa [chainE] using h, hn, fun x => by simp⟩
  | x :: l, N, E, none, h, _, hn => by
    have hx : x ∈ touch N x := mem_touch.mpr (.inr rfl)
    have h1 : EdgesIn (touch N x) E := h.mono fun y hy => mem_touch.mpr (.inl hy)
    obtain ⟨N', e, hE, hN, hm⟩ := chain_gE l (touch N x) E (some x) h1 (fun a ha => by cases ha; exact hx) (nodup_touch x hn)
    refine ⟨N', ?_, by simpa [chainE] using hE, hN, fun y => ?_⟩
    · show chainAdd (gAdd (gE N E) x []) (some x) l = _
      rw [gAdd0 h, e]; simp [chainE]
    · rw [hm y, mem_touch, List.mem_cons, or_assoc]
  | x :: l, N, E, some q, h, hq, hn => by
    have hx : x ∈ touch (touch N x) q := mem_touch.mpr (.inl (mem_touch.mpr (.inr rfl)))
    have hqm : q ∈ N := hq q rfl
    have h1 : EdgesIn (touch (touch N x) q) (E ++ [(q, x)]) := (h.mono fun y hy => mem_touch.mpr (.inl (mem_touch.mpr (.inl hy)))).add (mem_touch.mpr (.inr rfl)) hx
    obtain ⟨N', e, hE, hN, hm⟩ := chain_gE l _ _ (some x) h1 (fun a ha => by cases ha; exact hx) (nodup_touch q (nodup_touch x hn))
    have hass : E ++ [(q, x)] ++ chainE (some x) l = E ++ chainE (some q) (x :: l) := by simp [chainE]
    refine ⟨N', ?_, hass ▸ hE, hN, fun y => ?_⟩
    · show chainAdd (gAdd (gE N E) x [q]) (some x) l = _
      rw [gAdd1 h, e, hass]
    · rw [hm y, mem_touch, mem_touch, List.mem_cons]
      constructor
      · rintro (((h | h) | h) | h)
        · exact .inl h
        · exact .inr (.inl h)
        · exact .inl (h ▸ hqm)
        · exact .inr (.inr h)
      · rintro (h | h | h)
        · exact .inl (.inl (.inl h))
        · exact .inl (.inl (.inr h))
        · exact .inr h
theorem cross_gE {line : List Str} {F pace : Nat} (hline : ∀ k, line.getD (crossIdx pace F k) (Str.ofString "") ∈ line) : ∀ (l : List Str) (k : Nat) (N : List Str) (E : Edg), EdgesIn N E → (∀ a ∈ line, a ∈ N) → (∀ a ∈ l, a ∈ N) → N.Nodup →
    crossAdd line F pace k l (gE N E) = gE N (E ++ crossE line F pace k l) ∧ EdgesIn N (E ++ crossE line F pace k l)
  | [], k, N, E, h, _, _, _ => ⟨by simp [crossAdd, crossE], by simpa [crossE] using h⟩
  | x :: l, k, N, E, h, hl, hx, hn => by
    have hxm := hx x (.head _)
    have hqm := hl _ (hline k)
    rw [crossAdd, crossE]
    by_cases he : line.getD (crossIdx pace F k) (Str.ofString "") = x
    · rw [if_pos he, if_pos he, List.nil_append]
      exact cross_gE hline l (k + 1) N E h hl (fun a ha => hx a (.tail _ ha)) hn
    · rw [if_neg he, if_neg he, gAdd1 h]
      have ht : ∀ y ∈ N, touch N y = N := fun y hy => by unfold touch; rw [if_pos hy]
      rw [ht x hxm, ht _ hqm]
      have := cross_gE hline l (k + 1) N (E ++ [(line.getD (crossIdx pace F k) (Str.ofString ""), x)]) (h.add hqm hxm) hl (fun a ha => hx a (.tail _ ha)) hn
      rw [← List.append_assoc]
      exact this

noncomputable def allE (first second : List Str) (pace : Nat) : Edg := chainE none (lineOf first) ++ chainE none second ++ crossE (lineOf first) first.length pace 0 second
theorem sorter_gE (first second : List Str) (pace : Nat) : ∃ N, sorterG first second pace = gE N (allE first second pace) ∧ EdgesIn N (allE first second pace) ∧ N.Nodup ∧ ∀ x, x ∈ N ↔ x ∈ lineOf first ∨ x ∈ second := by
  have h0 : EdgesIn [] [] := fun e he => by cases he
  obtain ⟨N1, e1, hE1, hN1, hm1⟩ := chain_gE (lineOf first) [] [] none h0 (fun a ha => by cases ha) .nil
  obtain ⟨N2, e2, hE2, hN2, hm2⟩ := chain_gE second N1 _ none hE1 (fun a ha => by cases ha) hN1
  rw [List.nil_append] at e1 e2 hE2
  have hline : ∀ k, (lineOf first).getD (crossIdx pace first.length k) (Str.ofString "") ∈ lineOf first := fun k => by
    have : crossIdx pace first.length k < (lineOf first).length := by unfold crossIdx lineOf; simp; (first | lia | omega)
    rw [List.getD_eq_getElem?_getD, List.getElem?_eq_getElem this]
    exact List.getElem_mem _
  obtain ⟨e3, hE3⟩ := cross_gE hline second 0 N2 _ hE2 (fun a ha => (hm2 a).mpr (.inl ((hm1 a).mpr (.inr ha)))) (fun a ha => (hm2 a).mpr (.inr ha)) hN2
  refine ⟨N2, ?_, hE3, hN2, fun x => ?_⟩
  · unfold sorterG
    have hg0 : ([] : List Nod) = gE [] [] := rfl
    rw [hg0, e1, e2, e3]; rfl
  · rw [hm2, hm1]; simp
end Mine

end

section
open PySem PySem.W PyProof.Rows PySem.Calls
set_option maxRecDepth 100000
namespace Mine

noncomputable def cnt (l : List Str) (x : Str) : Nat := (l.filter fun y => y = x).length
noncomputable def pend (E : Edg) (dn : List Str) (x : Str) : Nat := (E.filter fun e => decide (e.2 = x) && decide (e.1 ∉ dn)).length
theorem cnt_pos {l : List Str} {x : Str} : 0 < cnt l x ↔ x ∈ l := by
  unfold cnt
  rw [List.length_pos_iff_exists_mem]
  constructor
  · rintro ⟨y, hy⟩
    obtain ⟨h1, h2⟩ := List.mem_filter.mp hy
    exact (of_decide_eq_true h2) ▸ h1
  · intro h; exact ⟨x, List.mem_filter.mpr ⟨h, by simp⟩⟩
theorem cnt_cons (s : Str) (l : List Str) (x : Str) : cnt (s :: l) x = (if s = x then 1 else 0) + cnt l x := by
  unfold cnt
  rw [List.filter_cons]
  by_cases h : s = x
  · simp [h]; (first | lia | omega)
  · simp [h]
theorem pend_zero {E : Edg} {dn : List Str} {x : Str} : pend E dn x = 0 ↔ ∀ a, (a, x) ∈ E → a ∈ dn := by
  unfold pend
  rw [List.length_eq_zero_iff, List.filter_eq_nil_iff]
  constructor
  · intro h a ha
    have := h (a, x) ha
    simpa using this
  · intro h e he z
    simp only [Bool.and_eq_true, decide_eq_true_eq] at z
    obtain ⟨z1, z2⟩ := z
    exact z2 (h e.1 (by rw [← z1]; exact he))
theorem pend_add {dn : List Str} {t : Str} (ht : t ∉ dn) (x : Str) : ∀ E : Edg, pend E dn x = pend E (t :: dn) x + cnt (outE E t) x
  | [] => rfl
  | e :: E => by
    have ih := pend_add ht x E
    have c1 : pend (e :: E) dn x = (if e.2 = x ∧ e.1 ∉ dn then 1 else 0) + pend E dn x := by
      unfold pend
      rw [List.filter_cons]
      by_cases h1 : e.2 = x <;> by_cases h2 : e.1 ∈ dn <;> simp [h1, h2] <;> (first | lia | omega)
    have c2 : pend (e :: E) (t :: dn) x = (if e.2 = x ∧ e.1 ∉ t :: dn then 1 else 0) + pend E (t :: dn) x := by
      unfold pend
      rw [List.filter_cons]
      by_cases h1 : e.2 = x <;> by_cases h2 : e.1 ∈ t :: dn <;> simp only [h1, h2, decide_true, decide_false, not_true, not_false_iff, Bool.and_true, Bool.and_false, Bool.true_and, Bool.false_and, if_true, if_false, and_true, and_false, true_and, false_and, List.length_cons, Bool.false_eq_true] <;> (first | lia | omega)
    have c3 : cnt (outE (e :: E) t) x = (if e.1 = t ∧ e.2 = x then 1 else 0) + cnt (outE E t) x := by
      unfold outE
      rw [List.filter_cons]
      by_cases h1 : e.1 = t
      · simp only [h1, decide_true, if_true, List.map_cons, true_and]
        rw [cnt_cons]
      · simp [h1]
    rw [c1, c2, c3]
    by_cases h1 : e.2 = x
    · by_cases h2 : e.1 = t
      · simp only [h1, h2, ht, not_false_iff, List.mem_cons, true_or, not_true, and_self, and_false, if_true, if_false]; (first | lia | omega)
      · simp only [h1, h2, List.mem_cons, false_or, true_and, false_and, if_false]; (first | lia | omega)
    · simp only [h1, false_and, and_false, if_false]; (first | lia | omega)

theorem gr_out (N : List Str) (ss : Str → List Str) : ∀ (rd : List Str) (np : Str → Int), gOut (gr N np ss) rd = gr N (fun y => if y ∈ rd then -1 else np y) ss
  | [], np => by simp [gOut]
  | x :: rd, np => by
    have ih := gr_out N ss rd (fun y => if y = x then -1 else np y)
    show gOut (gPut (gr N np ss) x (-1)) rd = _
    rw [gr_put, ih]
    congr 1
    funext y
    by_cases h1 : y = x
    · simp [h1]
    · simp [h1]

theorem dec_fold (N : List Str) (ss : Str → List Str) : ∀ (l : List Str) (np : Str → Int) (rd : List Str), (∀ s ∈ l, s ∈ N) → (∀ s ∈ l, (cnt l s : Int) ≤ np s) → (∀ s ∈ l, s ∉ rd) → rd.Nodup →
    ∃ np' rd', l.foldl decOne (gr N np ss, rd) = (gr N np' ss, rd') ∧ (∀ x, np' x = np x - cnt l x) ∧ rd'.Nodup ∧ ∀ x, x ∈ rd' ↔ x ∈ rd ∨ (x ∈ l ∧ np x = cnt l x)
  | [], np, rd, _, _, _, hn => ⟨np, rd, rfl, fun x => by simp [cnt], hn, fun x => by simp⟩
  | s :: l, np, rd, h1, h2, h3, hn => by
    have hs := h1 s (.head _)
    have hc := h2 s (.head _)
    rw [cnt_cons, if_pos rfl] at hc
    have e1 : decOne (gr N np ss, rd) s = (gr N (fun y => if y = s then np y + -1 else np y) ss, if np s + -1 = 0 then rd ++ [s] else rd) := by
      unfold decOne
      dsimp only
      rw [gr_more, gr_np hs]
      simp
    have hcs : s ∈ l → (1 : Int) ≤ cnt l s := fun h => by have := cnt_pos.mpr h; (first | lia | omega)
    have hA : ∀ x ∈ l, (cnt l x : Int) ≤ (fun y => if y = s then np y + -1 else np y) x := fun x hx => by
      have := h2 x (.tail _ hx)
      rw [cnt_cons] at this
      by_cases hxs : x = s
      · subst hxs; simp only [if_true] at this ⊢; (first | lia | omega)
      · simp only [hxs, Ne.symm hxs, if_false] at this ⊢; (first | lia | omega)
    have hB : ∀ x ∈ l, x ∉ (if np s + -1 = 0 then rd ++ [s] else rd) := fun x hx => by
      have := h3 x (.tail _ hx)
      by_cases hz : np s + -1 = 0
      · simp only [hz, if_true, List.mem_append, List.mem_singleton, not_or]
        refine ⟨this, fun hxs => ?_⟩
        subst hxs
        have := hcs hx
        (first | lia | omega)
      · simp only [hz, if_false]; exact this
    have hC : (if np s + -1 = 0 then rd ++ [s] else rd).Nodup := by
      by_cases hz : np s + -1 = 0
      · simp only [hz, if_true]
        rw [List.nodup_append]
        exact ⟨hn, by simp, fun a ha c hc => by simp only [List.mem_singleton] at hc; subst hc; exact fun e => h3 c (.head _) (e ▸ ha)⟩
      · simp only [hz, if_false]; exact hn
    obtain ⟨np', rd', e2, k1, k2, k3⟩ := dec_fold N ss l (fun y => if y = s then np y + -1 else np y) (if np s + -1 = 0 then rd ++ [s] else rd) (fun x hx => h1 x (.tail _ hx)) hA hB hC
    refine ⟨np', rd', ?_, fun x => ?_, k2, fun x => ?_⟩
    · rw [List.foldl_cons, e1, e2]
    · rw [k1, cnt_cons]
      by_cases hx : x = s
      · subst hx; simp only [if_true]; (first | lia | omega)
      · simp only [hx, Ne.symm hx, if_false]; (first | lia | omega)
    · rw [k3, cnt_cons]
      by_cases hx : x = s
      · subst hx
        simp only [if_true, List.mem_cons, true_or, true_and]
        by_cases hz : np x + -1 = 0
        · have hnl : x ∉ l := fun h => by have := hcs h; (first | lia | omega)
          have hc0 : cnt l x = 0 := by
            rcases Nat.eq_zero_or_pos (cnt l x) with h | h
            · exact h
            · exact (hnl (cnt_pos.mp h)).elim
          simp only [hz, if_true, List.mem_append, List.mem_singleton, hnl, false_and, or_false, hc0]
          constructor
          · intro _; exact .inr (by (first | lia | omega))
          · intro _; exact .inr trivial
        · simp only [hz, if_false]
          constructor
          · rintro (h | ⟨h, e⟩)
            · exact .inl h
            · exact .inr (by (first | lia | omega))
          · rintro (h | e)
            · exact .inl h
            · refine .inr ⟨?_, by (first | lia | omega)⟩
              have : 0 < cnt l x := by (first | lia | omega)
              exact cnt_pos.mp this
      · simp only [hx, Ne.symm hx, if_false, List.mem_cons, false_or, Nat.zero_add]
        by_cases hz : np s + -1 = 0
        · simp only [hz, if_true, List.mem_append, List.mem_singleton, hx, or_false]
        · simp only [hz, if_false]

structure Inv (N : List Str) (E : Edg) (dn : List Str) (np : Str → Int) (rd : List Str) (po nf : Int) : Prop where
  a : ∀ x ∈ dn, np x = -2 ∧ pend E dn x = 0
  b : ∀ x ∈ N, x ∉ dn → 0 < pend E dn x → np x = pend E dn x
  c : ∀ x ∈ N, x ∉ dn → pend E dn x = 0 → (np x = 0 ∧ x ∈ rd) ∨ (np x = -1 ∧ x ∉ rd)
  n : rd.Nodup
  d : ∀ x ∈ rd, x ∈ N ∧ x ∉ dn ∧ pend E dn x = 0 ∧ np x = 0
  o : ∃ outs : List Str, outs.Nodup ∧ (∀ x, x ∈ outs ↔ x ∈ N ∧ np x = -1) ∧ po = nf + outs.length

theorem outE_mem {E : Edg} {t x : Str} : x ∈ outE E t ↔ (t, x) ∈ E := by
  unfold outE
  simp only [List.mem_map, List.mem_filter, decide_eq_true_eq]
  constructor
  · rintro ⟨e, ⟨he, rfl⟩, rfl⟩; exact he
  · intro h; exact ⟨(t, x), ⟨h, rfl⟩, rfl⟩

theorem Inv.step {N : List Str} {E : Edg} {dn : List Str} {np : Str → Int} {rd : List Str} {po nf : Int} {t : Str} (I : Inv N E dn np rd po nf) (hE : EdgesIn N E) (ht : t ∈ N) (htd : t ∉ dn) (hp : pend E dn t = 0) :
    ∃ np' rd', TS.next ⟨gr N np (outE E), rd, po, nf⟩ t = ⟨gr N np' (outE E), rd', po + rd.length, nf + 1⟩ ∧ Inv N E (t :: dn) np' rd' (po + rd.length) (nf + 1) := by
  have hno : ∀ s ∈ outE E t, s ≠ t := fun s hs z => by
    rw [z] at hs
    exact htd (pend_zero.mp hp t (outE_mem.mp hs))
  have hN : ∀ s ∈ outE E t, s ∈ N := fun s hs => (hE _ (outE_mem.mp hs)).2
  have padd := fun x => pend_add htd x E
  have hout : ∀ s ∈ outE E t, s ∉ dn ∧ s ∉ rd ∧ np s = pend E dn s := fun s hs => by
    have h1 := cnt_pos.mpr hs
    have h2 := padd s
    have hd : s ∉ dn := fun z => by have := (I.a s z).2; (first | lia | omega)
    exact ⟨hd, fun z => by have := (I.d s z).2.2.1; (first | lia | omega), I.b s (hN s hs) hd (by (first | lia | omega))⟩
  have np1 : ∀ x, (if x = t then (-2 : Int) else if x ∈ rd then -1 else np x) = (fun y => if y = t then (-2 : Int) else (fun y => if y ∈ rd then -1 else np y) y) x := fun x => rfl
  obtain ⟨np', rd', e, k1, k2, k3⟩ := dec_fold N (outE E) (outE E t) (fun y => if y = t then (-2 : Int) else if y ∈ rd then -1 else np y) [] hN (fun s hs => by
    obtain ⟨q1, q2, q3⟩ := hout s hs
    simp only [hno s hs, q2, if_false, q3]
    have := padd s
    (first | lia | omega)) (fun s hs => by simp) .nil
  have htn : cnt (outE E t) t = 0 := by
    rcases Nat.eq_zero_or_pos (cnt (outE E t) t) with h | h
    · exact h
    · exact (hno t (cnt_pos.mp h) rfl).elim
  refine ⟨np', rd', ?_, ?_⟩
  · unfold TS.next
    dsimp only
    rw [gr_out]
    unfold gDone
    rw [gr_ss ht, gr_put, e]
  have rdIff : ∀ x, x ∈ rd' ↔ x ∈ outE E t ∧ pend E dn x = cnt (outE E t) x := fun x => by
    rw [k3]
    simp only [List.not_mem_nil, false_or]
    constructor
    · rintro ⟨h1, h2⟩
      obtain ⟨q1, q2, q3⟩ := hout x h1
      simp only [hno x h1, q2, if_false, q3] at h2
      exact ⟨h1, by (first | lia | omega)⟩
    · rintro ⟨h1, h2⟩
      obtain ⟨q1, q2, q3⟩ := hout x h1
      simp only [hno x h1, q2, if_false, q3]
      exact ⟨h1, by (first | lia | omega)⟩
  refine ⟨fun x hx => ?_, fun x hxN hx hpx => ?_, fun x hxN hx hpx => ?_, k2, fun x hx => ?_, ?_⟩
  · rcases List.mem_cons.mp hx with rfl | hx
    · rw [k1, htn]
      have := padd x
      simp only [if_true]
      exact ⟨by (first | lia | omega), by (first | lia | omega)⟩
    · have hxt : x ≠ t := fun z => htd (z ▸ hx)
      have hxr : x ∉ rd := fun z => (I.d x z).2.1 hx
      have h1 := I.a x hx
      have h2 := padd x
      rw [k1]
      simp only [hxt, hxr, if_false]
      exact ⟨by (first | lia | omega), by (first | lia | omega)⟩
  · simp only [List.mem_cons, not_or] at hx
    have h2 := padd x
    have hb := I.b x hxN hx.2 (by (first | lia | omega))
    have hxr : x ∉ rd := fun z => by have := (I.d x z).2.2.1; (first | lia | omega)
    rw [k1]
    simp only [hx.1, hxr, if_false]
    (first | lia | omega)
  · simp only [List.mem_cons, not_or] at hx
    have h2 := padd x
    rcases Nat.eq_zero_or_pos (cnt (outE E t) x) with hc | hc
    · right
      have hno' : x ∉ outE E t := fun z => by have := cnt_pos.mpr z; (first | lia | omega)
      refine ⟨?_, fun z => hno' ((rdIff x).mp z).1⟩
      rw [k1]
      rcases I.c x hxN hx.2 (by (first | lia | omega)) with ⟨q1, q2⟩ | ⟨q1, q2⟩
      · simp only [hx.1, q2, if_false, if_true]; (first | lia | omega)
      · simp only [hx.1, q2, if_false]; (first | lia | omega)
    · left
      have hm := cnt_pos.mp hc
      obtain ⟨q1, q2, q3⟩ := hout x hm
      refine ⟨?_, (rdIff x).mpr ⟨hm, by (first | lia | omega)⟩⟩
      rw [k1]
      simp only [hx.1, q2, if_false]
      (first | lia | omega)
  · obtain ⟨h1, h2⟩ := (rdIff x).mp hx
    obtain ⟨q1, q2, q3⟩ := hout x h1
    have h4 := padd x
    refine ⟨hN x h1, ?_, by (first | lia | omega), ?_⟩
    · simp only [List.mem_cons, not_or]; exact ⟨hno x h1, q1⟩
    · rw [k1]
      simp only [hno x h1, q2, if_false]
      (first | lia | omega)
  · obtain ⟨outs, o1, o2, o3⟩ := I.o
    have hdis : ∀ a ∈ outs, ∀ c ∈ rd, a ≠ c := fun a ha c hc z => by
      have h1 := ((o2 a).mp ha).2
      have h2 := (I.d c hc).2.2.2
      rw [z] at h1; (first | lia | omega)
    have hnd : (outs ++ rd).Nodup := List.nodup_append.mpr ⟨o1, I.n, hdis⟩
    have htm : t ∈ outs ++ rd := by
      rw [List.mem_append]
      rcases I.c t ht htd hp with ⟨_, h⟩ | ⟨h, _⟩
      · exact .inr h
      · exact .inl ((o2 t).mpr ⟨ht, h⟩)
    refine ⟨(outs ++ rd).erase t, hnd.erase t, fun x => ?_, ?_⟩
    · rw [hnd.mem_erase_iff, List.mem_append, o2, k1]
      constructor
      · rintro ⟨hxt, h⟩
        have hpx : x ∈ N ∧ x ∉ dn ∧ pend E dn x = 0 := by
          rcases h with ⟨h1, h2⟩ | h
          · have hxd : x ∉ dn := fun z => by have := (I.a x z).1; (first | lia | omega)
            refine ⟨h1, hxd, ?_⟩
            rcases Nat.eq_zero_or_pos (pend E dn x) with hq | hq
            · exact hq
            · have := I.b x h1 hxd hq; (first | lia | omega)
          · exact ⟨(I.d x h).1, (I.d x h).2.1, (I.d x h).2.2.1⟩
        have h4 := padd x
        refine ⟨hpx.1, ?_⟩
        simp only [hxt, if_false]
        rcases h with ⟨h1, h2⟩ | h
        · have hxr : x ∉ rd := fun z => by have := (I.d x z).2.2.2; (first | lia | omega)
          simp only [hxr, if_false]; (first | lia | omega)
        · simp only [h, if_true]; (first | lia | omega)
      · rintro ⟨hxN, h⟩
        have hxt : x ≠ t := fun z => by
          subst z
          simp only [if_true] at h; (first | lia | omega)
        refine ⟨hxt, ?_⟩
        simp only [hxt, if_false] at h
        have hc0 : cnt (outE E t) x = 0 := by
          rcases Nat.eq_zero_or_pos (cnt (outE E t) x) with hq | hq
          · exact hq
          · have hm := cnt_pos.mp hq
            obtain ⟨q1, q2, q3⟩ := hout x hm
            have h4 := padd x
            simp only [q2, if_false] at h
            (first | lia | omega)
        by_cases hxr : x ∈ rd
        · exact .inr hxr
        · simp only [hxr, if_false] at h
          exact .inl ⟨hxN, by (first | lia | omega)⟩
    · have h1 := List.length_erase_of_mem htm
      have h2 := List.length_pos_of_mem htm
      rw [h1]
      rw [List.length_append] at h2 ⊢
      (first | lia | omega)

noncomputable def SeqOK (E : Edg) : List Str → List Str → Prop
  | _, [] => True
  | dn, t :: r => (∀ a, (a, t) ∈ E → a ∈ dn) ∧ SeqOK E (t :: dn) r
theorem outE_len (E : Edg) (x : Str) : (outE E x).length ≤ E.length := by
  unfold outE
  rw [List.length_map]
  exact List.length_filter_le _ _
theorem next_rd_len {N : List Str} {E : Edg} {np : Str → Int} {rd : List Str} {po nf : Int} {t : Str} (ht : t ∈ N) : (TS.next ⟨gr N np (outE E), rd, po, nf⟩ t).rd.length ≤ E.length := by
  unfold TS.next
  dsimp only
  rw [gr_out]
  unfold gDone
  rw [gr_ss ht]
  have := decOne_len (outE E t) (gPut (gr N (fun y => if y ∈ rd then -1 else np y) (outE E)) t (-2), [])
  have h2 := outE_len E t
  simp only [List.length_nil] at this
  (first | lia | omega)

theorem run_seq {N : List Str} {E : Edg} (hE : EdgesIn N E) (hz : E.length ≤ 100) : ∀ (ord dn : List Str) (np : Str → Int) (rd : List Str) (po nf : Int), Inv N E dn np rd po nf → ord.Nodup → (∀ x ∈ ord, x ∈ N ∧ x ∉ dn ∧ (reprText x).length ≤ 1000) → (∀ x ∈ N, x ∈ dn ∨ x ∈ ord) → rd.length ≤ 900 →
    RunOK ord ⟨gr N np (outE E), rd, po, nf⟩ ∧ (takenRun ord ⟨gr N np (outE E), rd, po, nf⟩ = true ↔ SeqOK E dn ord)
  | [], dn, np, rd, po, nf, I, _, _, hall, hl => by
    refine ⟨hl, ?_⟩
    have hrd : rd = [] := by
      cases rd with
      | nil => rfl
      | cons x r =>
        have := I.d x (.head _)
        rcases hall x this.1 with h | h
        · exact (this.2.1 h).elim
        · cases h
    obtain ⟨outs, o1, o2, o3⟩ := I.o
    have ho : outs = [] := by
      cases outs with
      | nil => rfl
      | cons x r =>
        have := (o2 x).mp (.head _)
        rcases hall x this.1 with h | h
        · have := (I.a x h).1; (first | lia | omega)
        · cases h
    subst hrd ho
    simp only [List.length_nil] at o3
    have : ¬ nf < po := by (first | lia | omega)
    simp [takenRun, SeqOK, this]
  | t :: r, dn, np, rd, po, nf, I, hnd, hin, hall, hl => by
    obtain ⟨h1, h2, h3⟩ := hin t (.head _)
    rw [List.nodup_cons] at hnd
    have hnp : npOf (gOut (gr N np (outE E)) rd) t = if t ∈ rd then -1 else np t := by rw [gr_out, gr_np h1]
    have base : rd.length ≤ 900 ∧ (∀ y ∈ rd, ∃ z ∈ gr N np (outE E), z.name = y) ∧ (∃ z ∈ gr N np (outE E), z.name = t) ∧ (∀ z ∈ gr N np (outE E), z.ss.length ≤ 100 ∧ ∀ y ∈ z.ss, ∃ w ∈ gr N np (outE E), w.name = y) ∧ (reprText t).length ≤ 1000 := by
      have mem : ∀ y ∈ N, ∃ z ∈ gr N np (outE E), z.name = y := fun y hy => ⟨⟨y, np y, outE E y⟩, List.mem_map.mpr ⟨y, hy, rfl⟩, rfl⟩
      refine ⟨hl, fun y hy => mem y (I.d y hy).1, mem t h1, fun z hz' => ?_, h3⟩
      obtain ⟨y, hy, rfl⟩ := List.mem_map.mp hz'
      refine ⟨?_, fun x hx => mem x (hE _ (outE_mem.mp hx)).2⟩
      have := outE_len E y
      show (outE E y).length ≤ 100
      (first | lia | omega)
    obtain ⟨b1, b2, b3, b4, b5⟩ := base
    rcases Nat.eq_zero_or_pos (pend E dn t) with hp | hp
    · have hm1 : npOf (gOut (gr N np (outE E)) rd) t = -1 := by
        rw [hnp]
        rcases I.c t h1 h2 hp with ⟨q1, q2⟩ | ⟨q1, q2⟩
        · rw [if_pos q2]
        · rw [if_neg q2]; exact q1
      obtain ⟨np', rd', e, I'⟩ := I.step hE h1 h2 hp
      have hl' : rd'.length ≤ 900 := by
        have := next_rd_len (N := N) (E := E) (np := np) (rd := rd) (po := po) (nf := nf) h1
        rw [e] at this
        have h5 : rd'.length ≤ E.length := this
        (first | lia | omega)
      obtain ⟨r1, r2⟩ := run_seq hE hz r (t :: dn) np' rd' (po + rd.length) (nf + 1) I' hnd.2 (fun x hx => by
        obtain ⟨q1, q2, q3⟩ := hin x (.tail _ hx)
        refine ⟨q1, ?_, q3⟩
        simp only [List.mem_cons, not_or]
        exact ⟨fun z => hnd.1 (z ▸ hx), q2⟩) (fun x hx => by
        rcases hall x hx with h | h
        · exact .inl (.tail _ h)
        · rcases List.mem_cons.mp h with rfl | h
          · exact .inl (.head _)
          · exact .inr h) hl'
      refine ⟨⟨b1, b2, b3, b4, b5, .inl hm1, fun _ => ?_⟩, ?_⟩
      · rw [e]; exact r1
      · rw [takenRun, if_pos hm1, e, r2, SeqOK]
        constructor
        · intro h; exact ⟨pend_zero.mp hp, h⟩
        · exact fun h => h.2
    · have htr : t ∉ rd := fun z => by have := (I.d t z).2.2.1; (first | lia | omega)
      have hb := I.b t h1 h2 hp
      have hne : ¬ npOf (gOut (gr N np (outE E)) rd) t = -1 := by rw [hnp, if_neg htr]; (first | lia | omega)
      refine ⟨⟨b1, b2, b3, b4, b5, .inr (by show 0 ≤ npOf (gOut (gr N np (outE E)) rd) t; rw [hnp, if_neg htr]; (first | lia | omega)), fun z => (hne z).elim⟩, ?_⟩
      rw [takenRun, if_neg hne, SeqOK]
      constructor
      · intro z; cases z
      · intro z
        have := pend_zero.mpr z.1
        (first | lia | omega)

theorem ready_mem {N : List Str} {E : Edg} (x : Str) : x ∈ readyOf (gE N E) ↔ x ∈ N ∧ inE E x = 0 := by
  unfold readyOf gE gr
  simp only [List.mem_map, List.mem_filter, decide_eq_true_eq]
  constructor
  · rintro ⟨z, ⟨⟨y, hy, rfl⟩, h⟩, rfl⟩; exact ⟨hy, h⟩
  · rintro ⟨h1, h2⟩; exact ⟨_, ⟨⟨x, h1, rfl⟩, h2⟩, rfl⟩
theorem ready_nodup {E : Edg} : ∀ {N : List Str}, N.Nodup → (readyOf (gE N E)).Nodup
  | [], _ => .nil
  | x :: N, h => by
    rw [List.nodup_cons] at h
    have ih := ready_nodup (E := E) h.2
    have e : readyOf (gE (x :: N) E) = if inE E x = 0 then x :: readyOf (gE N E) else readyOf (gE N E) := by
      unfold readyOf gE gr
      rw [List.map_cons, List.filter_cons]
      by_cases hx : inE E x = 0
      · simp [hx]
      · simp [hx]
    rw [e]
    split
    · rw [List.nodup_cons]
      exact ⟨fun z => h.1 ((ready_mem x).mp z).1, ih⟩
    · exact ih
theorem inv_start {N : List Str} {E : Edg} (hN : N.Nodup) : Inv N E [] (inE E) (readyOf (gE N E)) 0 0 := by
  have hp : ∀ x, (pend E [] x : Int) = inE E x := fun x => by
    unfold pend inE
    simp
  refine ⟨fun x hx => (by cases hx), fun x _ _ _ => (hp x).symm, fun x hx _ h0 => .inl ⟨?_, ?_⟩, ready_nodup hN, fun x hx => ?_, [], .nil, fun x => ?_, by simp⟩
  · rw [← hp, h0]; rfl
  · exact (ready_mem x).mpr ⟨hx, by rw [← hp, h0]; rfl⟩
  · obtain ⟨h1, h2⟩ := (ready_mem x).mp hx
    have := hp x
    exact ⟨h1, by simp, by (first | lia | omega), h2⟩
  · constructor
    · intro h; cases h
    · rintro ⟨_, h⟩
      unfold inE at h
      (first | lia | omega)
end Mine

end

section
open PySem PySem.W PyProof.Rows PySem.Calls
set_option maxRecDepth 100000
namespace Mine

theorem chainE_memG {a c : Str} : ∀ (l : List Str) (q : Option Str), (a, c) ∈ chainE q l ↔ (q = some a ∧ l[0]? = some c) ∨ ∃ j, l[j]? = some a ∧ l[j + 1]? = some c
  | [], q => by simp [chainE]
  | x :: l, q => by
    rw [chainE, List.mem_append, chainE_memG l (some x)]
    have h1 : (a, c) ∈ (q.toList.map fun y => (y, x)) ↔ q = some a ∧ x = c := by
      cases q with
      | none => simp
      | some y => simp only [Option.toList_some, List.map_cons, List.map_nil, List.mem_singleton, Prod.mk.injEq, Option.some.injEq]; exact ⟨fun h => ⟨h.1.symm, h.2.symm⟩, fun h => ⟨h.1.symm, h.2.symm⟩⟩
    rw [h1]
    constructor
    · rintro (⟨h1, h2⟩ | ⟨h1, h2⟩ | ⟨j, h1, h2⟩)
      · exact .inl ⟨h1, by simp [h2]⟩
      · exact .inr ⟨0, by simpa using h1, by simpa using h2⟩
      · exact .inr ⟨j + 1, by simpa using h1, by simpa using h2⟩
    · rintro (⟨h1, h2⟩ | ⟨j, h1, h2⟩)
      · exact .inl ⟨h1, by simpa using h2⟩
      · cases j with
        | zero => exact .inr (.inl ⟨by simpa using h1, by simpa using h2⟩)
        | succ j => exact .inr (.inr ⟨j, by simpa using h1, by simpa using h2⟩)
theorem chainE_mem {a c : Str} {l : List Str} : (a, c) ∈ chainE none l ↔ ∃ j, l[j]? = some a ∧ l[j + 1]? = some c := by
  rw [chainE_memG]; simp
theorem crossE_mem {line : List Str} {F pace : Nat} {a c : Str} : ∀ (l : List Str) (k : Nat), (a, c) ∈ crossE line F pace k l ↔ ∃ i, l[i]? = some c ∧ a = line.getD (crossIdx pace F (k + i)) (Str.ofString "") ∧ a ≠ c
  | [], k => by simp [crossE]
  | x :: l, k => by
    rw [crossE, List.mem_append, crossE_mem l (k + 1)]
    constructor
    · rintro (h | ⟨i, h1, h2, h3⟩)
      · by_cases he : line.getD (crossIdx pace F k) (Str.ofString "") = x
        · rw [if_pos he] at h; cases h
        · rw [if_neg he] at h
          simp only [List.mem_singleton, Prod.mk.injEq] at h
          exact ⟨0, by simp [h.2], h.1, fun z => he (by rw [← h.1, ← h.2, z])⟩
      · exact ⟨i + 1, by simpa using h1, by rw [h2]; congr 2; (first | lia | omega), h3⟩
    · rintro ⟨i, h1, h2, h3⟩
      cases i with
      | zero =>
        have hx : x = c := by simpa using h1
        left
        rw [if_neg fun z => h3 (by rw [h2]; exact z.trans hx)]
        simp only [List.mem_singleton, Prod.mk.injEq]
        exact ⟨h2, hx.symm⟩
      | succ i => exact .inr ⟨i, by simpa using h1, by rw [h2]; congr 2; (first | lia | omega), h3⟩

/-! rows picked out of a turn -/
noncomputable def sel (P : Row → Bool) (t : List Row) : List Str := (t.filter P).map (·.text)
theorem sel_app (P : Row → Bool) (a c : List Row) : sel P (a ++ c) = sel P a ++ sel P c := by simp [sel]
theorem sel_cons (P : Row → Bool) (r : Row) (t : List Row) : sel P (r :: t) = (if P r then [r.text] else []) ++ sel P t := by
  unfold sel
  rw [List.filter_cons]
  cases h : P r <;> simp
theorem sel_at {P : Row → Bool} {pre post : List Row} {r : Row} (h : P r = true) : (sel P (pre ++ r :: post))[(sel P pre).length]? = some r.text := by
  rw [sel_app, sel_cons, h]
  simp
theorem sel_get {P : Row → Bool} : ∀ {t : List Row} {j : Nat} {x : Str}, (sel P t)[j]? = some x → ∃ pre r post, t = pre ++ r :: post ∧ P r = true ∧ r.text = x ∧ (sel P pre).length = j
  | [], j, x, h => by simp [sel] at h
  | r :: t, j, x, h => by
    rw [sel_cons] at h
    cases hp : P r with
    | false =>
      rw [hp] at h
      obtain ⟨pre, r', post, e, h1, h2, h3⟩ := sel_get (t := t) (j := j) (x := x) (by simpa using h)
      exact ⟨r :: pre, r', post, by rw [e]; rfl, h1, h2, by rw [sel_cons, hp]; simpa using h3⟩
    | true =>
      rw [hp] at h
      cases j with
      | zero => exact ⟨[], r, t, rfl, hp, by simpa using h, rfl⟩
      | succ j =>
        obtain ⟨pre, r', post, e, h1, h2, h3⟩ := sel_get (t := t) (j := j) (x := x) (by simpa using h)
        exact ⟨r :: pre, r', post, by rw [e]; rfl, h1, h2, by rw [sel_cons, hp]; simp [h3]⟩
theorem sel_mem {P : Row → Bool} {t : List Row} {x : Str} : x ∈ sel P t ↔ ∃ r ∈ t, P r = true ∧ r.text = x := by
  unfold sel
  simp only [List.mem_map, List.mem_filter]
  constructor
  · rintro ⟨r, ⟨h1, h2⟩, h3⟩; exact ⟨r, h1, h2, h3⟩
  · rintro ⟨r, h1, h2, h3⟩; exact ⟨r, ⟨h1, h2⟩, h3⟩
theorem split_uniq {t : List Row} (hn : (t.map (·.text)).Nodup) : ∀ {pre post pre' post' : List Row} {r r' : Row}, t = pre ++ r :: post → t = pre' ++ r' :: post' → r.text = r'.text → pre = pre' ∧ r = r' ∧ post = post' := by
  intro pre
  induction pre generalizing t with
  | nil =>
    intro post pre' post' r r' e e' h
    cases pre' with
    | nil =>
      rw [e] at e'
      simp only [List.nil_append, List.cons.injEq] at e'
      exact ⟨rfl, e'.1, e'.2⟩
    | cons y pre' =>
      rw [e] at e' hn
      simp only [List.nil_append, List.cons_append, List.cons.injEq] at e'
      simp only [List.nil_append, List.map_cons, List.nodup_cons] at hn
      refine (hn.1 ?_).elim
      rw [e'.2, h]
      simp
  | cons y pre ih =>
    intro post pre' post' r r' e e' h
    cases pre' with
    | nil =>
      rw [e'] at e hn
      simp only [List.nil_append, List.cons_append, List.cons.injEq] at e
      simp only [List.nil_append, List.map_cons, List.nodup_cons] at hn
      refine (hn.1 ?_).elim
      rw [e.2, ← h]
      simp
    | cons y' pre' =>
      rw [e] at e' hn
      simp only [List.cons_append, List.cons.injEq] at e'
      simp only [List.cons_append, List.map_cons, List.nodup_cons] at hn
      obtain ⟨h1, h2, h3⟩ := ih hn.2 rfl e'.2 h
      exact ⟨by rw [e'.1, h1], h2, h3⟩

theorem line_get {first : List Str} {j : Nat} {x : Str} (h : (lineOf first)[j]? = some x) : first[j]? = some x ∨ (j = first.length ∧ x = Str.ofString "end") := by
  unfold lineOf at h
  rw [List.getElem?_append] at h
  split at h
  · exact .inl h
  · rename_i hj
    right
    have hj2 : j - first.length = 0 := by
      rcases Nat.eq_zero_or_pos (j - first.length) with z | z
      · exact z
      · rw [List.getElem?_eq_none (by simp; (first | lia | omega))] at h; cases h
    rw [hj2] at h
    simp only [List.getElem?_cons_zero, Option.some.injEq] at h
    exact ⟨by (first | lia | omega), h.symm⟩
theorem line_lt {first : List Str} {j : Nat} (h : j < first.length) : (lineOf first)[j]? = first[j]? := by
  unfold lineOf
  rw [List.getElem?_append_left h]
theorem line_end {first : List Str} : (lineOf first)[first.length]? = some (Str.ofString "end") := by
  unfold lineOf
  rw [List.getElem?_append_right (Nat.le_refl _)]
  simp

/-- what a turn must be -/
structure Turn (t : List Row) : Prop where
  nod : (t.map (·.text)).Nodup
  noEnd : ∀ r ∈ t, r.text ≠ Str.ofString "end"
  kind : ∀ r ∈ t, 0 ≤ r.kind ∧ r.kind ≤ 3
  len : t.length ≤ 15
  rep : ∀ r ∈ t, (reprText r.text).length ≤ 1000
noncomputable abbrev isO : Row → Bool := fun r => r.kind != 3
theorem first_sel (t : List Row) : firstOf t = sel isF t := rfl
theorem second_sel (t : List Row) : secondOf t = sel isS t := rfl
theorem order_sel (t : List Row) : orderOf t = sel isO t := rfl
theorem isF_O {r : Row} (h : isF r = true) : isO r = true := by
  unfold isF at h
  simp only [isO]
  rcases Bool.or_eq_true_iff.mp h with h | h <;> (have := beq_iff_eq.mp h; rw [this]; decide)
theorem isS_O {r : Row} (h : isS r = true) : isO r = true := by
  unfold isS at h
  simp only [isO]
  rcases Bool.or_eq_true_iff.mp h with h | h <;> (have := beq_iff_eq.mp h; rw [this]; decide)
theorem sel_sub {P P' : Row → Bool} (h : ∀ r, P r = true → P' r = true) {t : List Row} {x : Str} (hx : x ∈ sel P t) : x ∈ sel P' t := by
  obtain ⟨r, h1, h2, h3⟩ := sel_mem.mp hx
  exact sel_mem.mpr ⟨r, h1, h r h2, h3⟩

section
variable {t : List Row} (T : Turn t)
include T
theorem Turn.noEnd' {P : Row → Bool} : Str.ofString "end" ∉ sel P t := fun h => by
  obtain ⟨r, h1, _, h3⟩ := sel_mem.mp h
  exact T.noEnd r h1 h3
/-- a row's index among those picked -/
theorem Turn.idx {P : Row → Bool} {pre post : List Row} {r : Row} {j : Nat} (e : t = pre ++ r :: post) (h : (sel P t)[j]? = some r.text) : P r = true ∧ (sel P pre).length = j := by
  obtain ⟨pre', r', post', e', h1, h2, h3⟩ := sel_get h
  obtain ⟨q1, q2, q3⟩ := split_uniq T.nod e e' h2.symm
  subst q1 q2
  exact ⟨h1, h3⟩
end
end Mine

end

section
open PySem PySem.W PyProof.Rows PySem.Calls
set_option maxRecDepth 100000
namespace Mine

theorem edge_mem {F S : List Str} {pace : Nat} {a c : Str} : (a, c) ∈ allE F S pace ↔ (∃ j, (lineOf F)[j]? = some a ∧ (lineOf F)[j + 1]? = some c) ∨ (∃ k, S[k]? = some a ∧ S[k + 1]? = some c) ∨ ∃ i, S[i]? = some c ∧ (lineOf F)[crossIdx pace F.length i]? = some a ∧ a ≠ c := by
  unfold allE
  rw [List.mem_append, List.mem_append, chainE_mem, chainE_mem, crossE_mem, or_assoc]
  have hg : ∀ i, (lineOf F)[crossIdx pace F.length i]? = some ((lineOf F).getD (crossIdx pace F.length i) (Str.ofString "")) := fun i => by
    have : crossIdx pace F.length i < (lineOf F).length := by unfold crossIdx lineOf; simp; (first | lia | omega)
    rw [List.getD_eq_getElem?_getD, List.getElem?_eq_getElem this]; rfl
  refine or_congr .rfl (or_congr .rfl ?_)
  constructor
  · rintro ⟨i, h1, h2, h3⟩
    rw [Nat.zero_add] at h2
    exact ⟨i, h1, by rw [hg, ← h2], h3⟩
  · rintro ⟨i, h1, h2, h3⟩
    rw [hg] at h2
    exact ⟨i, h1, by rw [Nat.zero_add]; exact (Option.some.inj h2).symm, h3⟩

theorem sel_pre {P : Row → Bool} {t pre post : List Row} (e : t = pre ++ post) {j : Nat} (h : j < (sel P pre).length) : (sel P t)[j]? = (sel P pre)[j]? := by
  rw [e, sel_app, List.getElem?_append_left h]
theorem sel_len {P : Row → Bool} {t pre post : List Row} (e : t = pre ++ post) : (sel P pre).length ≤ (sel P t).length := by
  rw [e, sel_app, List.length_append]; (first | lia | omega)
theorem sel_snoc {P : Row → Bool} {pre : List Row} {r : Row} : (sel P (pre ++ [r])).length = (sel P pre).length + if P r then 1 else 0 := by
  rw [sel_app, sel_cons]
  cases P r <;> simp [sel]
theorem kind_cases {r : Row} (h : 0 ≤ r.kind ∧ r.kind ≤ 3) : (r.kind = 0 ∧ isF r = true ∧ isS r = false ∧ isO r = true) ∨ (r.kind = 1 ∧ isF r = false ∧ isS r = true ∧ isO r = true) ∨ (r.kind = 2 ∧ isF r = true ∧ isS r = true ∧ isO r = true) ∨ (r.kind = 3 ∧ isF r = false ∧ isS r = false ∧ isO r = false) := by
  have : r.kind = 0 ∨ r.kind = 1 ∨ r.kind = 2 ∨ r.kind = 3 := by (first | lia | omega)
  rcases this with e | e | e | e <;> simp [isF, isS, isO, e]

/-- the lead behind some rows -/
noncomputable def leadAt (pace : Nat) (pre : List Row) : Int := (sel isF pre).length - (pace : Int) * (sel isS pre).length
theorem leadAt_step {pace : Nat} {pre : List Row} {r : Row} (h : 0 ≤ r.kind ∧ r.kind ≤ 3) : leadAt pace (pre ++ [r]) = leadAt pace pre + stepOf pace r.kind := by
  unfold leadAt
  rw [sel_snoc, sel_snoc]
  rcases kind_cases h with ⟨e, h1, h2, _⟩ | ⟨e, h1, h2, _⟩ | ⟨e, h1, h2, _⟩ | ⟨e, h1, h2, _⟩ <;> rw [e, h1, h2] <;> simp [stepOf, Int.mul_add] <;> (first | lia | omega)

section
variable {t : List Row} (T : Turn t) {pace : Nat}
include T

/-- the cross edge's end lies far enough -/
theorem ready_iff {pre post : List Row} {r : Row} (e : t = pre ++ r :: post) (hk : r.kind ≠ 3) (hl : 0 ≤ leadAt pace pre) : (∀ a, (a, r.text) ∈ allE (firstOf t) (secondOf t) pace → a ∈ sel isO pre) ↔ 1 ≤ leadAt pace (pre ++ [r]) := by
  have hrt : r ∈ t := by rw [e]; simp
  have hkr := T.kind r hrt
  have hne := T.noEnd r hrt
  have e2 : t = (pre ++ [r]) ++ post := by rw [e]; simp
  have flen : (sel isF (pre ++ [r])).length ≤ (firstOf t).length := sel_len e2
  constructor
  · intro hR
    refine Classical.byContradiction fun hno => ?_
    have hS : isS r = true := by
      rcases kind_cases hkr with ⟨q, h1, h2, _⟩ | ⟨q, h1, h2, _⟩ | ⟨q, h1, h2, _⟩ | ⟨q, h1, h2, _⟩
      · rw [leadAt_step hkr, q] at hno
        have : stepOf (pace : Int) 0 = 1 := rfl
        (first | lia | omega)
      · exact h2
      · exact h2
      · exact (hk q).elim
    have hi : (secondOf t)[(sel isS pre).length]? = some r.text := by rw [second_sel, e]; exact sel_at hS
    have hlen : ((sel isF (pre ++ [r])).length : Int) ≤ pace * ((sel isS pre).length + 1 : Nat) := by
      unfold leadAt at hno
      have hs2 := sel_snoc (P := isS) (pre := pre) (r := r)
      rw [hS, if_pos rfl] at hs2
      rw [hs2] at hno
      (first | lia | omega)
    have hc : (sel isF (pre ++ [r])).length ≤ crossIdx pace (firstOf t).length (sel isS pre).length := by
      unfold crossIdx
      have h1 : pace * (sel isS pre).length + pace = pace * ((sel isS pre).length + 1) := by rw [Nat.mul_add, Nat.mul_one]
      have h2 : (sel isF (pre ++ [r])).length ≤ pace * ((sel isS pre).length + 1) := by
        rw [← Int.natCast_mul] at hlen; (first | lia | omega)
      (first | lia | omega)
    have hcl : crossIdx pace (firstOf t).length (sel isS pre).length ≤ (firstOf t).length := by unfold crossIdx; (first | lia | omega)
    obtain ⟨a, ha⟩ : ∃ a, (lineOf (firstOf t))[crossIdx pace (firstOf t).length (sel isS pre).length]? = some a := ⟨_, List.getElem?_eq_getElem (by unfold lineOf; simp; (first | lia | omega))⟩
    have hane : a ≠ r.text := fun z => by
      rw [z] at ha
      rcases line_get ha with h | ⟨_, h⟩
      · obtain ⟨h1, h2⟩ := T.idx (P := isF) e h
        have hs2 := sel_snoc (P := isF) (pre := pre) (r := r)
        rw [h1, if_pos rfl] at hs2
        (first | lia | omega)
      · exact hne h
    have hmem := hR a (edge_mem.mpr (.inr (.inr ⟨_, hi, ha, hane⟩)))
    rcases line_get ha with h | ⟨_, h⟩
    · obtain ⟨r2, hr2, h3, h4⟩ := sel_mem.mp hmem
      obtain ⟨p1, p2, e3⟩ := List.append_of_mem hr2
      have e4 : t = p1 ++ r2 :: (p2 ++ r :: post) := by rw [e, e3]; simp
      rw [← h4] at h
      obtain ⟨h5, h6⟩ := T.idx (P := isF) e4 h
      have h7 : (sel isF (p1 ++ [r2])).length ≤ (sel isF pre).length := sel_len (post := p2) (by rw [e3]; simp)
      rw [sel_snoc, h5, if_pos rfl] at h7
      have h8 := sel_snoc (P := isF) (pre := pre) (r := r)
      (first | lia | omega)
    · obtain ⟨r2, hr2, h3, h4⟩ := sel_mem.mp hmem
      exact T.noEnd r2 (by rw [e]; exact List.mem_append_left _ hr2) (h4.trans h)
  · intro hlead a hE
    rcases edge_mem.mp hE with ⟨j, h1, h2⟩ | ⟨k, h1, h2⟩ | ⟨i, h1, h2, h3⟩
    · rcases line_get h2 with h | ⟨_, h⟩
      · obtain ⟨h4, h5⟩ := T.idx (P := isF) e h
        have hj : j < (sel isF pre).length := by (first | lia | omega)
        have hjt : j < (firstOf t).length := by
          have : (sel isF pre).length ≤ (firstOf t).length := sel_len e
          (first | lia | omega)
        rw [line_lt hjt, first_sel, sel_pre e hj] at h1
        exact sel_sub (fun _ => isF_O) (List.mem_of_getElem? h1)
      · exact (hne h).elim
    · obtain ⟨h4, h5⟩ := T.idx (P := isS) e h2
      have hj : k < (sel isS pre).length := by (first | lia | omega)
      rw [second_sel, sel_pre e hj] at h1
      exact sel_sub (fun _ => isS_O) (List.mem_of_getElem? h1)
    · obtain ⟨h4, h5⟩ := T.idx (P := isS) e h1
      have hs2 := sel_snoc (P := isS) (pre := pre) (r := r)
      rw [h4, if_pos rfl] at hs2
      have hlt : pace * i + pace < (sel isF (pre ++ [r])).length := by
        unfold leadAt at hlead
        rw [hs2, h5] at hlead
        have h6 : pace * (i + 1) = pace * i + pace := by rw [Nat.mul_add, Nat.mul_one]
        rw [← Int.natCast_mul, h6] at hlead
        (first | lia | omega)
      have hc : crossIdx pace (firstOf t).length i = pace * i + pace := by unfold crossIdx; (first | lia | omega)
      rw [hc, line_lt (by (first | lia | omega)), first_sel, sel_pre e2 hlt, sel_app] at h2
      have hm := List.mem_of_getElem? h2
      rcases List.mem_append.mp hm with h | h
      · exact sel_sub (fun _ => isF_O) h
      · obtain ⟨r3, hr3, _, h7⟩ := sel_mem.mp h
        simp only [List.mem_singleton] at hr3
        subst hr3
        exact (h3 h7.symm).elim

theorem seq_iff : ∀ (post pre : List Row) (dn : List Str), t = pre ++ post → (∀ x, x ∈ dn ↔ x ∈ sel isO pre) → 0 ≤ leadAt pace pre →
    (SeqOK (allE (firstOf t) (secondOf t) pace) dn (orderOf post ++ [Str.ofString "end"]) ↔ ((leadsOf pace (leadAt pace pre) post).all fun x => decide (1 ≤ x.2)) = true)
  | [], pre, dn, e, hd, hl => by
    rw [List.append_nil] at e
    have h1 : ((leadsOf (pace : Int) (leadAt pace pre) []).all fun x => decide (1 ≤ x.2)) = true := rfl
    refine iff_of_true ?_ h1
    refine ⟨fun a hE => ?_, trivial⟩
    rw [hd, ← e]
    rcases edge_mem.mp hE with ⟨j, h1, h2⟩ | ⟨k, h1, h2⟩ | ⟨i, h1, h2, h3⟩
    · have hj : j < (firstOf t).length := by
        have := (List.getElem?_eq_some_iff.mp h2).1
        unfold lineOf at this
        simp at this
        (first | lia | omega)
      rw [line_lt hj] at h1
      exact sel_sub (fun _ => isF_O) (List.mem_of_getElem? h1)
    · exact (T.noEnd' (P := isS) (List.mem_of_getElem? h2)).elim
    · exact (T.noEnd' (P := isS) (List.mem_of_getElem? h1)).elim
  | r :: post, pre, dn, e, hd, hl => by
    have hrt : r ∈ t := by rw [e]; simp
    have hkr := T.kind r hrt
    have e2 : t = (pre ++ [r]) ++ post := by rw [e]; simp
    have hstep := leadAt_step (pace := pace) (pre := pre) hkr
    by_cases hk : r.kind = 3
    · have hO : isO r = false := by rw [isO, hk]; rfl
      have h1 : orderOf (r :: post) = orderOf post := by
        rw [order_sel, sel_cons, hO]; rfl
      have h0 : leadAt pace (pre ++ [r]) = leadAt pace pre := by rw [hstep, hk, stepOf3, Int.add_zero]
      rw [h1, leadsOf, if_pos hk, ← hstep]
      refine seq_iff post (pre ++ [r]) dn e2 (fun x => ?_) (by rw [h0]; exact hl)
      rw [hd, sel_app, sel_cons, hO]
      simp [sel]
    · have hO : isO r = true := by simpa [isO] using hk
      have h1 : orderOf (r :: post) = r.text :: orderOf post := by
        rw [order_sel, sel_cons, hO]; rfl
      rw [h1, List.cons_append, SeqOK, leadsOf, if_neg hk, ← hstep]
      simp only [List.all_cons, Bool.and_eq_true, decide_eq_true_eq]
      have hR := ready_iff T (pace := pace) e hk hl
      have hR' : (∀ a, (a, r.text) ∈ allE (firstOf t) (secondOf t) pace → a ∈ dn) ↔ 1 ≤ leadAt pace (pre ++ [r]) := by
        rw [← hR]
        exact forall_congr' fun a => forall_congr' fun _ => hd a
      rw [hR']
      by_cases hle : 1 ≤ leadAt pace (pre ++ [r])
      · have := seq_iff post (pre ++ [r]) (r.text :: dn) e2 (fun x => by
          rw [List.mem_cons, hd, sel_app, sel_cons, hO]
          simp [sel, or_comm]) (by (first | lia | omega))
        rw [this]
      · constructor
        · intro z; exact (hle z.1).elim
        · intro z; exact (hle z.1).elim
end
end Mine

end

section
open PySem PySem.W PyProof.Rows PySem.Calls
set_option maxRecDepth 100000
namespace Mine

theorem succ_gE {N : List Str} {E : Edg} (h : EdgesIn N E) (x : Str) : succOf (gE N E) x = outE E x := by
  by_cases hx : x ∈ N
  · exact gr_ss hx
  · rw [(inE_none h hx).2]
    unfold succOf gE
    rw [gr_find, if_neg hx]; rfl
theorem cyc_gE {N : List Str} {E : Edg} (h : EdgesIn N E) : Cyc (gE N E) ↔ ∃ C : Str → Prop, (∃ x, C x) ∧ ∀ x, C x → ∃ y, (x, y) ∈ E ∧ C y := by
  unfold Cyc
  refine exists_congr fun C => and_congr .rfl (forall_congr' fun x => forall_congr' fun _ => exists_congr fun y => ?_)
  rw [succ_gE h, outE_mem]

section
variable {t : List Row} (T : Turn t) {pace : Nat}
include T
theorem leads_mem1 : ∀ (post pre : List Row), t = pre ++ post → ∀ x ∈ leadsOf pace (leadAt pace pre) post, ∃ p r q, t = p ++ r :: q ∧ r.kind ≠ 3 ∧ x = (r.kind, leadAt pace (p ++ [r]))
  | [], pre, e, x, hx => by cases hx
  | r :: post, pre, e, x, hx => by
    have hkr := T.kind r (by rw [e]; simp)
    have e2 : t = (pre ++ [r]) ++ post := by rw [e]; simp
    rw [leadsOf, ← leadAt_step hkr] at hx
    by_cases hk : r.kind = 3
    · rw [if_pos hk] at hx
      exact leads_mem1 post (pre ++ [r]) e2 x hx
    · rw [if_neg hk] at hx
      rcases List.mem_cons.mp hx with h | h
      · exact ⟨pre, r, post, e, hk, h⟩
      · exact leads_mem1 post (pre ++ [r]) e2 x h
theorem leads_mem2 : ∀ (post pre p q : List Row) (r : Row), t = pre ++ post → post = p ++ r :: q → r.kind ≠ 3 → (r.kind, leadAt pace (pre ++ p ++ [r])) ∈ leadsOf pace (leadAt pace pre) post
  | [], pre, p, q, r, e, e', hk => by simp at e'
  | s :: post, pre, p, q, r, e, e', hk => by
    have hks := T.kind s (by rw [e]; simp)
    have e2 : t = (pre ++ [s]) ++ post := by rw [e]; simp
    rw [leadsOf, ← leadAt_step hks]
    cases p with
    | nil =>
      simp only [List.nil_append, List.cons.injEq] at e'
      obtain ⟨rfl, rfl⟩ := e'
      rw [if_neg hk, List.append_nil]
      exact .head _
    | cons s' p =>
      simp only [List.cons_append, List.cons.injEq] at e'
      obtain ⟨rfl, e'⟩ := e'
      have ih := leads_mem2 post (pre ++ [s]) p q r e2 e' hk
      rw [show pre ++ [s] ++ p ++ [r] = pre ++ s :: p ++ [r] from by simp] at ih
      split
      · exact ih
      · exact .tail _ ih
theorem leadAt_nil : leadAt pace [] = 0 := by clear T; simp [leadAt, sel]

theorem cyc_of {p q : List Row} {r : Row} (e : t = p ++ r :: q) (hk : r.kind = 2) (hl : leadAt pace (p ++ [r]) < 1) : ∃ C : Str → Prop, (∃ x, C x) ∧ ∀ x, C x → ∃ y, (x, y) ∈ allE (firstOf t) (secondOf t) pace ∧ C y := by
  have hrt : r ∈ t := by rw [e]; simp
  have hF : isF r = true := by simp [isF, hk]
  have hS : isS r = true := by simp [isS, hk]
  have hi : (firstOf t)[(sel isF p).length]? = some r.text := by rw [first_sel, e]; exact sel_at hF
  have hk2 : (secondOf t)[(sel isS p).length]? = some r.text := by rw [second_sel, e]; exact sel_at hS
  have hil := (List.getElem?_eq_some_iff.mp hi).1
  have hlead : (sel isF p).length + 1 ≤ pace * (sel isS p).length + pace := by
    unfold leadAt at hl
    rw [sel_snoc, sel_snoc, hF, hS, if_pos rfl] at hl
    have h6 : pace * ((sel isS p).length + 1) = pace * (sel isS p).length + pace := by rw [Nat.mul_add, Nat.mul_one]
    rw [← Int.natCast_mul, h6] at hl
    (first | lia | omega)
  have hc : (sel isF p).length < crossIdx pace (firstOf t).length (sel isS p).length := by unfold crossIdx; (first | lia | omega)
  have hcl : crossIdx pace (firstOf t).length (sel isS p).length ≤ (firstOf t).length := by unfold crossIdx; (first | lia | omega)
  refine ⟨fun x => ∃ m, (sel isF p).length ≤ m ∧ m ≤ crossIdx pace (firstOf t).length (sel isS p).length ∧ (lineOf (firstOf t))[m]? = some x, ⟨r.text, _, Nat.le_refl _, by (first | lia | omega), by rw [line_lt hil]; exact hi⟩, ?_⟩
  rintro x ⟨m, h1, h2, h3⟩
  rcases Nat.lt_or_ge m (crossIdx pace (firstOf t).length (sel isS p).length) with h | h
  · obtain ⟨y, hy⟩ : ∃ y, (lineOf (firstOf t))[m + 1]? = some y := ⟨_, List.getElem?_eq_getElem (by unfold lineOf; simp; (first | lia | omega))⟩
    exact ⟨y, edge_mem.mpr (.inl ⟨m, h3, hy⟩), m + 1, by (first | lia | omega), by (first | lia | omega), hy⟩
  · have hm : m = crossIdx pace (firstOf t).length (sel isS p).length := by (first | lia | omega)
    refine ⟨r.text, edge_mem.mpr (.inr (.inr ⟨_, hk2, hm ▸ h3, fun z => ?_⟩)), _, Nat.le_refl _, by (first | lia | omega), by rw [line_lt hil]; exact hi⟩
    rw [z] at h3
    rcases line_get h3 with h | ⟨_, h⟩
    · have := (T.idx (P := isF) e h).2
      (first | lia | omega)
    · exact T.noEnd r hrt h

noncomputable def Rk (t : List Row) (pace : Nat) (x : Str) (v : Nat) : Prop :=
  (x = Str.ofString "end" ∧ v = (2 * (firstOf t).length + 1) * 100) ∨ ∃ pre r post, t = pre ++ r :: post ∧ r.text = x ∧ ((isF r = true ∧ v = (2 * (sel isF pre).length + 1) * 100) ∨
    (isF r = false ∧ isS r = true ∧ v = max (2 * crossIdx pace (firstOf t).length (sel isS pre).length + 2) (2 * (sel isF pre).length) * 100 + (sel isS pre).length))
theorem sel_le_len {P : Row → Bool} (l : List Row) : (sel P l).length ≤ l.length := by
  clear T
  unfold sel
  rw [List.length_map]
  exact List.length_filter_le _ _
theorem rk_bound {x : Str} {v : Nat} (h : Rk t pace x v) : v ≤ 5000 := by
  have hl := T.len
  have h1 : (firstOf t).length ≤ t.length := by unfold firstOf; rw [List.length_map]; exact List.length_filter_le _ _
  rcases h with ⟨_, rfl⟩ | ⟨pre, r, post, e, _, h⟩
  · (first | lia | omega)
  · have h2 : (sel isF pre).length ≤ (firstOf t).length := sel_len e
    have h3 : (sel isS pre).length ≤ (secondOf t).length := sel_len e
    have h4 : (secondOf t).length ≤ t.length := by unfold secondOf; rw [List.length_map]; exact List.length_filter_le _ _
    have h5 : crossIdx pace (firstOf t).length (sel isS pre).length ≤ (firstOf t).length := by unfold crossIdx; (first | lia | omega)
    rcases h with ⟨_, rfl⟩ | ⟨_, _, rfl⟩ <;> (first | lia | omega)
theorem rk_first {j : Nat} {x : Str} {v : Nat} (hj : (lineOf (firstOf t))[j]? = some x) (h : Rk t pace x v) : v = (2 * j + 1) * 100 := by
  rcases h with ⟨hx, rfl⟩ | ⟨pre, r, post, e, hx, h⟩
  · rcases line_get hj with h | ⟨h, _⟩
    · exact (T.noEnd' (P := isF) (hx ▸ List.mem_of_getElem? h)).elim
    · rw [h]
  · rcases line_get hj with h' | ⟨_, h'⟩
    · rw [← hx] at h'
      obtain ⟨h1, h2⟩ := T.idx (P := isF) e h'
      rcases h with ⟨_, rfl⟩ | ⟨h3, _⟩
      · rw [h2]
      · rw [h1] at h3; cases h3
    · exact (T.noEnd r (by rw [e]; simp) (hx.trans h')).elim
theorem rk_line {j : Nat} {x : Str} (hj : (lineOf (firstOf t))[j]? = some x) : Rk t pace x ((2 * j + 1) * 100) := by
  clear T
  rcases line_get hj with h | ⟨h1, h2⟩
  · obtain ⟨pre, r, post, e, h1, h2, h3⟩ := sel_get h
    exact .inr ⟨pre, r, post, e, h2, .inl ⟨h1, by rw [h3]⟩⟩
  · exact .inl ⟨h2, by rw [h1]⟩
theorem rk_src {x y : Str} (h : (x, y) ∈ allE (firstOf t) (secondOf t) pace) : ∃ v, Rk t pace x v := by
  rcases edge_mem.mp h with ⟨j, h1, h2⟩ | ⟨k, h1, h2⟩ | ⟨i, h1, h2, h3⟩
  · exact ⟨_, rk_line T h1⟩
  · obtain ⟨pre, r, post, e, q1, q2, q3⟩ := sel_get h1
    cases hf : isF r with
    | true => exact ⟨_, .inr ⟨pre, r, post, e, q2, .inl ⟨hf, rfl⟩⟩⟩
    | false => exact ⟨_, .inr ⟨pre, r, post, e, q2, .inr ⟨hf, q1, rfl⟩⟩⟩
  · exact ⟨_, rk_line T h2⟩
end
end Mine

end

section
open PySem PySem.W PyProof.Rows PySem.Calls
set_option maxRecDepth 100000
namespace Mine
theorem split_order {P : Row → Bool} {t pre pre' post post' : List Row} {r r' : Row} (e : t = pre ++ r :: post) (e' : t = pre' ++ r' :: post') (h : (sel P pre).length < (sel P pre').length) : ∃ mid, pre' = pre ++ r :: mid := by
  rw [e] at e'
  rcases List.append_eq_append_iff.mp e' with ⟨as, h1, h2⟩ | ⟨bs, h1, h2⟩
  · cases as with
    | nil => rw [List.append_nil] at h1; rw [h1] at h; (first | lia | omega)
    | cons s mid =>
      simp only [List.cons_append, List.cons.injEq] at h2
      exact ⟨mid, by rw [h1, h2.1]⟩
  · rw [h1, sel_app, List.length_append] at h; (first | lia | omega)

section
variable {t : List Row} (T : Turn t) {pace : Nat}
include T
theorem edge_up (hp : 1 ≤ pace) (hall : ∀ p r q, t = p ++ r :: q → r.kind = 2 → 1 ≤ leadAt pace (p ++ [r])) {x y : Str} {v : Nat} (hE : (x, y) ∈ allE (firstOf t) (secondOf t) pace) (hx : Rk t pace x v) : ∃ w, Rk t pace y w ∧ v < w := by
  have both : ∀ {p r q}, t = p ++ r :: q → isF r = true → isS r = true → pace * (sel isS p).length + pace ≤ (sel isF p).length := fun {p r q} e h1 h2 => by
    have hk : r.kind = 2 := by
      rcases kind_cases (T.kind r (by rw [e]; simp)) with ⟨_, a, b, _⟩ | ⟨_, a, b, _⟩ | ⟨k, _, _, _⟩ | ⟨_, a, b, _⟩
      · rw [b] at h2; cases h2
      · rw [a] at h1; cases h1
      · exact k
      · rw [a] at h1; cases h1
    have hl := hall p r q e hk
    unfold leadAt at hl
    rw [sel_snoc, sel_snoc, h1, h2, if_pos rfl] at hl
    have h6 : pace * ((sel isS p).length + 1) = pace * (sel isS p).length + pace := by rw [Nat.mul_add, Nat.mul_one]
    rw [← Int.natCast_mul, h6] at hl
    (first | lia | omega)
  have slen : ∀ {p q}, t = p ++ q → (sel isS p).length ≤ 15 := fun {p q} e => by
    have h1 : (sel isS p).length ≤ (secondOf t).length := sel_len e
    have h2 : (secondOf t).length ≤ t.length := by unfold secondOf; rw [List.length_map]; exact List.length_filter_le _ _
    have := T.len
    (first | lia | omega)
  rcases edge_mem.mp hE with ⟨j, h1, h2⟩ | ⟨k, h1, h2⟩ | ⟨i, h1, h2, h3⟩
  · have hv := rk_first T h1 hx
    exact ⟨_, rk_line T h2, by (first | lia | omega)⟩
  · obtain ⟨pre', r', post', e', q1, q2, q3⟩ := sel_get (P := isS) h2
    rcases hx with ⟨hx, _⟩ | ⟨pre, r, post, e, hx, hx2⟩
    · exact (T.noEnd' (P := isS) (hx ▸ List.mem_of_getElem? h1)).elim
    rw [← hx] at h1
    obtain ⟨_, hpk⟩ := T.idx (P := isS) e h1
    obtain ⟨mid, hmid⟩ := split_order (P := isS) e e' (by (first | lia | omega))
    have hf : (sel isF (pre ++ [r])).length ≤ (sel isF pre').length := sel_len (post := mid) (by rw [hmid]; simp)
    rw [sel_snoc] at hf
    have hk15 := slen e'
    have hmul : pace * (k + 1) + pace = pace * k + pace + pace := by rw [Nat.mul_add, Nat.mul_one]
    rcases hx2 with ⟨hF, rfl⟩ | ⟨hF, hS, rfl⟩
    · rw [hF, if_pos rfl] at hf
      cases hF' : isF r' with
      | true => exact ⟨_, .inr ⟨pre', r', post', e', q2, .inl ⟨hF', rfl⟩⟩, by (first | lia | omega)⟩
      | false => exact ⟨_, .inr ⟨pre', r', post', e', q2, .inr ⟨hF', q1, rfl⟩⟩, by (first | lia | omega)⟩
    · rw [hF] at hf
      simp only [Bool.false_eq_true, if_false, Nat.add_zero] at hf
      rw [hpk]
      have hck : crossIdx pace (firstOf t).length k ≤ crossIdx pace (firstOf t).length (k + 1) := by
        unfold crossIdx; rw [hmul]; (first | lia | omega)
      cases hF' : isF r' with
      | true =>
        have hb := both e' hF' q1
        rw [q3, hmul] at hb
        have hc : crossIdx pace (firstOf t).length k ≤ pace * k + pace := by unfold crossIdx; (first | lia | omega)
        exact ⟨_, .inr ⟨pre', r', post', e', q2, .inl ⟨hF', rfl⟩⟩, by (first | lia | omega)⟩
      | false => exact ⟨_, .inr ⟨pre', r', post', e', q2, .inr ⟨hF', q1, rfl⟩⟩, by rw [q3]; (first | lia | omega)⟩
  · have hv := rk_first T h2 hx
    obtain ⟨pre', r', post', e', q1, q2, q3⟩ := sel_get (P := isS) h1
    cases hF' : isF r' with
    | true =>
      have hb := both e' hF' q1
      rw [q3] at hb
      have hc : crossIdx pace (firstOf t).length i ≤ pace * i + pace := by unfold crossIdx; (first | lia | omega)
      refine ⟨_, .inr ⟨pre', r', post', e', q2, .inl ⟨hF', rfl⟩⟩, ?_⟩
      rcases Nat.lt_or_ge (crossIdx pace (firstOf t).length i) (sel isF pre').length with h | h
      · (first | lia | omega)
      · have hce : crossIdx pace (firstOf t).length i = (sel isF pre').length := by (first | lia | omega)
        have hat : (firstOf t)[(sel isF pre').length]? = some r'.text := by rw [first_sel, e']; exact sel_at hF'
        have hlt := (List.getElem?_eq_some_iff.mp hat).1
        rw [hce, line_lt hlt, hat] at h2
        exact (h3 ((Option.some.inj h2).symm.trans q2)).elim
    | false => exact ⟨_, .inr ⟨pre', r', post', e', q2, .inr ⟨hF', q1, rfl⟩⟩, by rw [q3]; (first | lia | omega)⟩

theorem no_cyc (hp : 1 ≤ pace) (hall : ∀ p r q, t = p ++ r :: q → r.kind = 2 → 1 ≤ leadAt pace (p ++ [r])) {C : Str → Prop} (hC : ∀ x, C x → ∃ y, (x, y) ∈ allE (firstOf t) (secondOf t) pace ∧ C y) (x : Str) : ¬ C x := by
  have go : ∀ (n v : Nat) (x : Str), 5000 - v ≤ n → Rk t pace x v → ¬ C x := by
    intro n
    induction n with
    | zero =>
      intro v x hn hr hc
      obtain ⟨y, hE, hy⟩ := hC x hc
      obtain ⟨w, hw, hlt⟩ := edge_up T hp hall hE hr
      have := rk_bound T hw
      (first | lia | omega)
    | succ n ih =>
      intro v x hn hr hc
      obtain ⟨y, hE, hy⟩ := hC x hc
      obtain ⟨w, hw, hlt⟩ := edge_up T hp hall hE hr
      have := rk_bound T hw
      exact ih w y (by (first | lia | omega)) hw hy
  intro hc
  obtain ⟨y, hE, _⟩ := hC x hc
  obtain ⟨v, hv⟩ := rk_src T hE
  exact go _ v x (Nat.le_refl _) hv hc

theorem turn_ok (hp : 1 ≤ pace) : TurnOK pace t := by
  obtain ⟨N, eN, hE, hN, hm⟩ := sorter_gE (firstOf t) (secondOf t) pace
  have hg : startG pace t = gE N (allE (firstOf t) (secondOf t) pace) := eN
  have h0 : (leadsOf (pace : Int) 0 t) = leadsOf pace (leadAt pace []) t := by rw [leadAt_nil T]
  have hmO : ∀ x, x ∈ N ↔ x ∈ orderOf t ++ [Str.ofString "end"] := fun x => by
    rw [hm, List.mem_append, List.mem_singleton]
    unfold lineOf
    rw [List.mem_append, List.mem_singleton]
    constructor
    · rintro ((h | h) | h)
      · exact .inl (sel_sub (fun _ => isF_O) h)
      · exact .inr h
      · exact .inl (sel_sub (fun _ => isS_O) h)
    · rintro (h | h)
      · obtain ⟨r, hr, hO, hx⟩ := sel_mem.mp h
        rcases kind_cases (T.kind r hr) with ⟨_, a, b, _⟩ | ⟨_, a, b, _⟩ | ⟨_, a, b, _⟩ | ⟨_, a, b, c⟩
        · exact .inl (.inl (sel_mem.mpr ⟨r, hr, a, hx⟩))
        · exact .inr (sel_mem.mpr ⟨r, hr, b, hx⟩)
        · exact .inr (sel_mem.mpr ⟨r, hr, b, hx⟩)
        · exact absurd (c.symm.trans hO) (by decide)
      · exact .inl (.inr h)
  have hElen : (allE (firstOf t) (secondOf t) pace).length ≤ 100 := by
    have c1 : ∀ (l : List Str) (q : Option Str), (chainE q l).length ≤ l.length := by
      intro l
      induction l with
      | nil => intro q; exact Nat.le_refl _
      | cons x l ih =>
        intro q
        have := ih (some x)
        rw [chainE, List.length_append, List.length_map]
        cases q <;> simp <;> (first | lia | omega)
    have c2 : ∀ (l : List Str) (k : Nat), (crossE (lineOf (firstOf t)) (firstOf t).length pace k l).length ≤ l.length := by
      intro l
      induction l with
      | nil => intro q; exact Nat.le_refl _
      | cons x l ih =>
        intro k
        have := ih (k + 1)
        rw [crossE, List.length_append]
        split <;> simp <;> (first | lia | omega)
    have l1 : (firstOf t).length ≤ t.length := by unfold firstOf; rw [List.length_map]; exact List.length_filter_le _ _
    have l2 : (secondOf t).length ≤ t.length := by unfold secondOf; rw [List.length_map]; exact List.length_filter_le _ _
    have l3 : (lineOf (firstOf t)).length = (firstOf t).length + 1 := by simp [lineOf]
    have d1 := c1 (lineOf (firstOf t)) none
    have d2 := c1 (secondOf t) none
    have d3 := c2 (secondOf t) 0
    have := T.len
    unfold allE
    rw [List.length_append, List.length_append]
    (first | lia | omega)
  have hOn : (orderOf t).Nodup := by
    have : (orderOf t).Sublist (t.map (·.text)) := List.Sublist.map _ List.filter_sublist
    exact this.nodup T.nod
  have hEnd : Str.ofString "end" ∉ orderOf t := T.noEnd' (P := isO)
  have hord : (orderOf t ++ [Str.ofString "end"]).Nodup := List.nodup_append.mpr ⟨hOn, by simp, fun a ha c hc => by
    simp only [List.mem_singleton] at hc; subst hc; exact fun z => hEnd (z ▸ ha)⟩
  have hNl : (readyOf (gE N (allE (firstOf t) (secondOf t) pace))).length ≤ 900 := by
    have h1 : (readyOf (gE N (allE (firstOf t) (secondOf t) pace))).length ≤ N.length := by
      unfold readyOf gE gr
      rw [List.length_map]
      have := List.length_filter_le (fun z : Nod => decide (z.np = 0)) (N.map fun x => (⟨x, inE (allE (firstOf t) (secondOf t) pace) x, outE (allE (firstOf t) (secondOf t) pace) x⟩ : Nod))
      rw [List.length_map] at this
      exact this
    have sub : ∀ (l m : List Str), l.Nodup → (∀ x ∈ l, x ∈ m) → l.length ≤ m.length := by
      intro l
      induction l with
      | nil => intro m _ _; exact Nat.zero_le _
      | cons x l ih =>
        intro m hl hs
        rw [List.nodup_cons] at hl
        obtain ⟨m1, m2, e⟩ := List.append_of_mem (hs x (.head _))
        have := ih (m1 ++ m2) hl.2 fun y hy => by
          have := hs y (.tail _ hy)
          rw [e] at this
          rcases List.mem_append.mp this with h | h
          · exact List.mem_append_left _ h
          · rcases List.mem_cons.mp h with h | h
            · exact (hl.1 (h ▸ hy)).elim
            · exact List.mem_append_right _ h
        rw [e]
        simp only [List.length_append, List.length_cons] at this ⊢
        (first | lia | omega)
    have h2 := sub N (orderOf t ++ [Str.ofString "end"]) hN fun x hx => (hmO x).mp hx
    have h3 : (orderOf t).length ≤ t.length := by unfold orderOf; rw [List.length_map]; exact List.length_filter_le _ _
    have := T.len
    simp only [List.length_append, List.length_singleton] at h2
    (first | lia | omega)
  obtain ⟨r1, r2⟩ := run_seq hE hElen (orderOf t ++ [Str.ofString "end"]) [] _ _ 0 0 (inv_start hN) hord (fun x hx => by
    refine ⟨(hmO x).mpr hx, by simp, ?_⟩
    rcases List.mem_append.mp hx with h | h
    · obtain ⟨r, hr, _, rfl⟩ := sel_mem.mp h
      exact T.rep r hr
    · simp only [List.mem_singleton] at h; subst h
      decide +kernel) (fun x hx => .inr ((hmO x).mp hx)) hNl
  have hST : startT pace t = ⟨gr N (inE (allE (firstOf t) (secondOf t) pace)) (outE (allE (firstOf t) (secondOf t) pace)), readyOf (gE N (allE (firstOf t) (secondOf t) pace)), 0, 0⟩ := by
    unfold startT; rw [hg]; rfl
  refine ⟨?_, by rw [hST]; exact r1, ?_, fun z hz y hy => ?_⟩
  · rw [hg, cyc_gE hE]
    constructor
    · rintro ⟨C, ⟨x, hx⟩, hC⟩
      refine Classical.byContradiction fun hno => no_cyc T hp (fun p r q e hk => ?_) hC x hx
      refine Classical.byContradiction fun hl => hno ?_
      refine ⟨(r.kind, leadAt pace (p ++ [r])), ?_, hk, by show leadAt pace (p ++ [r]) < 1; (first | lia | omega)⟩
      rw [h0]
      exact leads_mem2 T (pace := pace) t [] p q r rfl e (by rw [hk]; decide)
    · rintro ⟨x, hx, h1, h2⟩
      rw [h0] at hx
      obtain ⟨p, r, q, e, hk, rfl⟩ := leads_mem1 T (pace := pace) t [] rfl x hx
      exact cyc_of T e h1 h2
  · rw [hST, Bool.eq_iff_iff, r2]
    unfold goodB
    rw [h0]
    exact seq_iff T (pace := pace) t [] [] rfl (fun x => by simp [sel]) (by rw [leadAt_nil T]; (first | lia | omega))
  · rw [hg] at hz ⊢
    obtain ⟨x, hx, rfl⟩ := List.mem_map.mp hz
    have := (hE _ (outE_mem.mp hy)).2
    exact ⟨_, List.mem_map.mpr ⟨y, this, rfl⟩, rfl⟩
end
end Mine

end

section
open PySem PySem.W PyProof.Rows PySem.Calls
set_option maxRecDepth 100000
namespace Mine

noncomputable def rowKM (k m pl : Nat) : Row := ⟨(k : Int), markOf (k : Int) m ++ textOf m pl, textOf m pl⟩
noncomputable def numOf (x : Str) : Nat := x.cps.toList.foldl (fun acc c => if 48 ≤ c ∧ c ≤ 57 then acc * 10 + (c - 48) else acc) 0
theorem km_one : ∀ k : Nat, k < 4 → ∀ m : Nat, m < 5 → ∀ pl : Nat, pl < 15 → restF (tagOf 1) (rowKM k m pl).mark = if isF (rowKM k m pl) then some (rowKM k m pl).text else none := by decide +kernel
theorem km_two : ∀ k : Nat, k < 4 → ∀ m : Nat, m < 5 → ∀ pl : Nat, pl < 15 → restF (tagOf 2) (rowKM k m pl).mark = if isS (rowKM k m pl) then some (rowKM k m pl).text else none := by decide +kernel
theorem km_len : ∀ k : Nat, k < 4 → ∀ m : Nat, m < 5 → ∀ pl : Nat, pl < 15 → (rowKM k m pl).mark.length ≤ 1000 := by decide +kernel
theorem km_cut : ∀ k : Nat, k < 4 → ∀ m : Nat, m < 5 → ∀ pl : Nat, pl < 15 → (toD (.str (Txt.slice (rowKM k m pl).mark none (some 2)))).canLay0 = true := by decide +kernel
theorem tx_ok : ∀ m : Nat, m < 5 → ∀ pl : Nat, pl < 15 → (toD (.str (textOf m pl))).canLay0 = true := by decide +kernel
theorem tx_num : ∀ m : Nat, m < 5 → ∀ pl : Nat, pl < 15 → numOf (textOf m pl) = pl := by decide +kernel
theorem tx_end : ∀ m : Nat, m < 5 → ∀ pl : Nat, pl < 15 → textOf m pl ≠ Str.ofString "end" := by decide +kernel
theorem tx_rep : ∀ m : Nat, m < 5 → ∀ pl : Nat, pl < 15 → (reprText (textOf m pl)).length ≤ 1000 := by decide +kernel

theorem rowOf_km (pl : Nat) (c : Int) : rowOf pl c = rowKM (kindOf c).toNat (moreOf c) pl ∧ (kindOf c).toNat < 4 ∧ moreOf c < 5 := by
  have h := kind_range c
  have e : (((kindOf c).toNat : Nat) : Int) = kindOf c := Int.toNat_of_nonneg h.1
  refine ⟨?_, by (first | lia | omega), more_lt c⟩
  unfold rowKM rowOf
  rw [e]
theorem row_ok {pl : Nat} (c : Int) (h : pl < 15) : RowOK (rowOf pl c) := by
  obtain ⟨e, hk, hm⟩ := rowOf_km pl c
  rw [e]
  exact ⟨⟨by show (0 : Int) ≤ ((kindOf c).toNat : Int); (first | lia | omega), by show ((kindOf c).toNat : Int) ≤ 3; (first | lia | omega)⟩, km_one _ hk _ hm _ h, km_two _ hk _ hm _ h, km_len _ hk _ hm _ h, ⟨rfl, km_cut _ hk _ hm _ h, by show (0 : Nat) ≤ 50; (first | lia | omega)⟩, ⟨rfl, tx_ok _ hm _ h, by show (0 : Nat) ≤ 50; (first | lia | omega)⟩⟩
theorem rowsFrom_mem : ∀ (cs : List Int) (i : Nat) (r : Row), r ∈ rowsFrom i cs → ∃ pl c, i ≤ pl ∧ pl < i + cs.length ∧ r = rowOf pl c
  | [], i, r, h => by cases h
  | c :: cs, i, r, h => by
    rcases List.mem_cons.mp h with rfl | h
    · exact ⟨i, c, Nat.le_refl _, by simp, rfl⟩
    · obtain ⟨pl, c', h1, h2, h3⟩ := rowsFrom_mem cs (i + 1) r h
      exact ⟨pl, c', by (first | lia | omega), by simp only [List.length_cons]; (first | lia | omega), h3⟩
theorem rowsFrom_len : ∀ (cs : List Int) (i : Nat), (rowsFrom i cs).length = cs.length
  | [], _ => rfl
  | c :: cs, i => by simp [rowsFrom, rowsFrom_len cs]
theorem rowsFrom_num : ∀ (cs : List Int) (i : Nat), i + cs.length ≤ 15 → (rowsFrom i cs).map (fun r => numOf r.text) = List.range' i cs.length
  | [], _, _ => rfl
  | c :: cs, i, h => by
    simp only [List.length_cons] at h
    have ih := rowsFrom_num cs (i + 1) (by (first | lia | omega))
    have h1 : numOf (rowOf i c).text = i := tx_num _ (more_lt c) i (by (first | lia | omega))
    simp only [rowsFrom, List.map_cons, List.length_cons, List.range'_succ, h1, ih]
theorem cells_len : ∀ (xs : List Int) (c : List Int) (k : Nat), (cellsFrom c k xs).length ≤ c.length + xs.length
  | [], c, k => Nat.le_refl _
  | x :: xs, c, k => by
    have h1 := cells_len xs (cellStep c k x) (k + 1)
    have h2 := cellStep_length c k x
    simp only [cellsFrom, List.length_cons]
    split at h2 <;> (first | lia | omega)
theorem cells_le (script : List Int) : (cellsOf script).length ≤ 15 := by
  have := cells_len (script.take 9) [0, 3, 0, 4, 0, 5] 0
  have h2 := List.length_take_le 9 script
  simp only [List.length_cons, List.length_nil] at this
  unfold cellsOf
  (first | lia | omega)
theorem rows_turn (cs : List Int) (h : cs.length ≤ 15) (i : Nat) : Turn (rot (rowsOf cs) i) := by
  have hn : ((rowsOf cs).map (fun r => numOf r.text)).Nodup := by
    unfold rowsOf
    rw [rowsFrom_num cs 0 (by (first | lia | omega))]
    exact List.nodup_range'
  have hn2 : ((rot (rowsOf cs) i).map (fun r => numOf r.text)).Nodup := by
    have hp : (rot (rowsOf cs) i).Perm (rowsOf cs) := by
      unfold rot
      refine List.perm_append_comm.trans ?_
      rw [List.take_append_drop]
    exact (hp.map _).nodup_iff.mpr hn
  have hmem : ∀ r ∈ rot (rowsOf cs) i, ∃ pl c, pl < 15 ∧ r = rowOf pl c := fun r hr => by
    obtain ⟨pl, c, h1, h2, h3⟩ := rowsFrom_mem cs 0 r (rot_mem hr)
    exact ⟨pl, c, by (first | lia | omega), h3⟩
  refine ⟨?_, fun r hr => ?_, fun r hr => ?_, ?_, fun r hr => ?_⟩
  · rw [show (rot (rowsOf cs) i).map (fun r => numOf r.text) = ((rot (rowsOf cs) i).map (·.text)).map numOf from by simp] at hn2
    exact List.Pairwise.of_map numOf (fun a b h z => h (by rw [z])) hn2
  · obtain ⟨pl, c, h1, rfl⟩ := hmem r hr
    exact tx_end _ (more_lt c) _ h1
  · obtain ⟨pl, c, h1, rfl⟩ := hmem r hr
    exact kind_range c
  · have h1 : (rowsOf cs).length = cs.length := rowsFrom_len cs 0
    unfold rot
    simp only [List.length_append, List.length_drop, List.length_take]
    (first | lia | omega)
  · obtain ⟨pl, c, h1, rfl⟩ := hmem r hr
    exact tx_rep _ (more_lt c) _ h1
end Mine

end

section
open PySem PySem.W PyProof.Rows PySem.Calls
set_option maxRecDepth 100000
namespace Mine
noncomputable def ad1 : Ad := ⟨47, 43, 48, 49, 50, 144, 80, 87, 94, 99, 106, 113, 127, 134, 62⟩
noncomputable def adl1 : AdL := ⟨155, 162, 169, 176, 183, 28⟩
theorem meth_of {p : PC} {C f : Addr} {name : Str} (h0 : hasDictIn p.K C = true) (h1 : findIn p.K (.ref C) name = some (some (.ref f))) (h2 : typeIn p.K (.ref f) = some (.type "function")) (h3 : keepIn p.K (.ref f) = true) (h4 : fnIn p.K f = true)
    (h5 : specialIn p.K (.ref f) "__get__" = some (some (.builtin "function.__get__"))) (h6 : takesIn p.K (.ref f) = some false) (h7 : copiedNames.contains name = false) : KMeth p C name f :=
  ⟨h1, h2, h3, h4, fun _ _ hl => findObj_fn h0 h1 h5 h6 h7 hl⟩
theorem ownQ_of {K : Frag} {h : Heap} {mg : Str → Option Value} {x nm q : Str} {C N : Addr} {bs : List Value} {bm : List Value} {hdct : Bool} {sn : List Str} {sub : List Value} {ab : Bool} {col : Option Bool} {dd : Option Addr} {k0 k1 k2 k3 k5 : Option Value} {newId : String}
    (X : K.In h) (hm : mg x = some (.ref C)) (hl : K.lookup C = some (excClassObj nm q C N bs bm hdct sn sub ab col dd k0 k1 k2 k3 k5 newId)) (hok : nsOkIn K N = true) (hq : ∀ n ∈ quietNames, nsIn K N n = some none) : OwnClsQ x C bm newId mg h :=
  ⟨hm, bm, N, nm, q, bs, hdct, sn, sub, ab, col, dd, k0, k1, k2, k3, k5, _, X _ _ hl, .of_isNs (isNs_of_in X hok), fun n hn => nsMap_none_of_in X hok (hq n hn), .base⟩
theorem b_law (fd : FuncData) (h1 : fd.params = fnArgs (nthS P1 15)) (h2 : fd.defaults = .none) (h3 : fd.kwdefaults = .none) (v : Value) : bindArgs fd ⟨[v], []⟩ = pure [(Str.ofString "script", v)] := by
  obtain ⟨a1, a2, a3, a4, a5, a6, a7, a8⟩ := fd
  simp only at h1 h2 h3
  subst h1 h2 h3
  rfl
theorem vrs_ints {h : Heap} {ns : List Int} {vs : List Value} (x : IntsAre vs ns) : VRs h (ns.map .int) vs := by
  induction x with
  | nil => exact .nil
  | cons _ _ _ ih => exact .cons (.int _ _) ih
theorem list_at {P : Params} {h : Heap} {a : Addr} {vs : List Value} {d : List WData} (W : Well P h (.ref a) (.list d)) (L : h.IsList a vs.toArray) : h.get? a = some (lstObj vs 0) := by
  obtain ⟨o, ho, _, k, hd⟩ := L
  cases W with
  | list e _ =>
    rw [ho] at e
    cases e
    simp only [Data.seq.injEq] at hd
    have := congrArg Array.toList hd.1
    simp only at this
    rw [ho, this]
theorem law_join {p : PC} {s : Shared} {f a : Addr} {script : List Int} {vs : List Value} {k : Nat} {R : Result → Shared → Prop} (hB : KB p) (hS : KS2 p ad1) (hC : KC p ad1) (hL : KL p adl1) (hF : FnK p f (nthS P1 15) .none) (hgp : p.gp = AllBare) (hbase : p.base = s.heap) (hos : s.os = p.os) (hg : s.gens = #[])
    (hl : s.heap.get? a = some (lstObj vs k)) (hi : IntsAre vs script) (hn : script.length ≤ 63)
    (hR : ∀ s', Sub s.heap s'.heap → s'.os = s.os → AllBare s'.gens → R (.ok (.ret (.bool true))) s') : codeAny (model p.prog p.w) callerA (.call (.ref f) ⟨[.ref a], []⟩) R s := by
  obtain ⟨fo, fd, F⟩ := hF.ex
  have hcl := cells_le script
  have hrl : (rowsOf (cellsOf script)).length ≤ 15 := by
    have h1 : (rowsOf (cellsOf script)).length = (cellsOf script).length := rowsFrom_len _ 0
    (first | lia | omega)
  have hrow : ∀ r ∈ rowsOf (cellsOf script), RowOK r := fun r hr => by
    obtain ⟨pl, c, _, h2, rfl⟩ := rowsFrom_mem (cellsOf script) 0 r hr
    exact row_ok c (by (first | lia | omega))
  have hp := fmod_lt (a := (cellsOf script).sum) (m := 3) (by decide)
  have hpn : paceOf (cellsOf script) = (((paceOf (cellsOf script)).toNat : Nat) : Int) := by
    unfold paceOf; (first | lia | omega)
  have hp1 : 1 ≤ (paceOf (cellsOf script)).toNat ∧ (paceOf (cellsOf script)).toNat ≤ 3 := by
    unfold paceOf; (first | lia | omega)
  refine enter_top (n := 5) (x := "script") (av := .lst (script.map .int)) (Q := fun v => v = .bool true) F (b_law fd F.params F.dflt F.kwd _) hbase hos (by rw [hgp, hg]; intro y hy; simp at hy) (.lst hl (vrs_ints hi)) (by decide) rfl (by decide +kernel) rfl rfl rfl (fun L' q cd => ?_) fun s' h₁ av u h1 h2 h3 h4 h5 => ?_
  · exact law_body (n := 0) hB hS hC hL hgp hn rfl hpn hp1.2 hrl hrow (fun i _ _ => turn_ok (rows_turn _ hcl i) hp1.1) (count_all fun r hr => (hrow r hr).kind) fun st' => rfl
  · subst h5
    cases h4
    exact hR s' h1 h2 (hgp ▸ h3)
end Mine

end

section
open PySem PySem.W PyProof.Rows PySem.Calls
set_option maxRecDepth 100000
namespace Mine

noncomputable def view1 : Program := { P1 with main := { P1.main with body := [0, 2, 4, 5, 6, 7, 8, 10, 11, 12, 13, 14, 15].map (nthS P1) } }
noncomputable def m6 (i : Nat) : Stmt := methS (nthS P1 6) i
noncomputable def m8 (i : Nat) : Stmt := methS (nthS P1 8) i
noncomputable def frag1 (P : Params) : Frag :=
  [(2, (Obj.mk Value.none none (Data.dict #[] 0) #[])),
(3, (Obj.mk (Value.type "dict") none (Data.dict #[(DictEntry.mk (PyData.keyHash P (Str.ofString "__name__")) (Value.str (Str.ofString "__name__") 165) (Value.str (Str.ofString "law_nq0159_01") 389)), (DictEntry.mk (PyData.keyHash P (Str.ofString "__doc__")) (Value.str (Str.ofString "__doc__") 166) Value.none), (DictEntry.mk (PyData.keyHash P (Str.ofString "__package__")) (Value.str (Str.ofString "__package__") 167) Value.none), (DictEntry.mk (PyData.keyHash P (Str.ofString "__loader__")) (Value.str (Str.ofString "__loader__") 168) (Value.builtin "__main__.__loader__#opaque")), (DictEntry.mk (PyData.keyHash P (Str.ofString "__spec__")) (Value.str (Str.ofString "__spec__") 169) Value.none), (DictEntry.mk (PyData.keyHash P (Str.ofString "__annotations__")) (Value.str (Str.ofString "__annotations__") 170) (Value.ref 6)), (DictEntry.mk (PyData.keyHash P (Str.ofString "__builtins__")) (Value.str (Str.ofString "__builtins__") 171) (Value.ref 4)), (DictEntry.mk (PyData.keyHash P (Str.ofString "__file__")) (Value.str (Str.ofString "__file__") 173) (Value.str (Str.ofString "/claim/cut.py") 172)), (DictEntry.mk (PyData.keyHash P (Str.ofString "__cached__")) (Value.str (Str.ofString "__cached__") 174) Value.none), (DictEntry.mk (PyData.keyHash P (Str.ofString "_wall")) (Value.str (Str.ofString "_wall") 193) (Value.ref 21)), (DictEntry.mk (PyData.keyHash P (Str.ofString "restore")) (Value.str (Str.ofString "restore") 206) (Value.ref 28)), (DictEntry.mk (PyData.keyHash P (Str.ofString "_NODE_OUT")) (Value.str (Str.ofString "_NODE_OUT") 211) (Value.int (@Neg.neg Int Int.instNegInt 1) 210)), (DictEntry.mk (PyData.keyHash P (Str.ofString "_NODE_DONE")) (Value.str (Str.ofString "_NODE_DONE") 214) (Value.int (@Neg.neg Int Int.instNegInt 2) 213)), (DictEntry.mk (PyData.keyHash P (Str.ofString "_NodeInfo")) (Value.str (Str.ofString "_NodeInfo") 251) (Value.ref 47)), (DictEntry.mk (PyData.keyHash P (Str.ofString "CycleError")) (Value.str (Str.ofString "CycleError") 269) (Value.ref 62)), (DictEntry.mk (PyData.keyHash P (Str.ofString "TopologicalSorter")) (Value.str (Str.ofString "TopologicalSorter") 388) (Value.ref 144)), (DictEntry.mk (PyData.keyHash P (Str.ofString "_law_rows")) (Value.str (Str.ofString "_law_rows") 407) (Value.ref 155)), (DictEntry.mk (PyData.keyHash P (Str.ofString "_law_leads")) (Value.str (Str.ofString "_law_leads") 420) (Value.ref 162)), (DictEntry.mk (PyData.keyHash P (Str.ofString "_law_sorter")) (Value.str (Str.ofString "_law_sorter") 435) (Value.ref 169)), (DictEntry.mk (PyData.keyHash P (Str.ofString "_law_refused")) (Value.str (Str.ofString "_law_refused") 442) (Value.ref 176)), (DictEntry.mk (PyData.keyHash P (Str.ofString "_law_taken")) (Value.str (Str.ofString "_law_taken") 451) (Value.ref 183)), (DictEntry.mk (PyData.keyHash P (Str.ofString "law")) (Value.str (Str.ofString "law") 457) (Value.ref 188))] 22) #[])),
(15, (Obj.mk (Value.type "tuple") none (Data.seq #[] 0) #[])),
(17, (Obj.mk (Value.type "tuple") none (Data.seq #[(Value.str (Str.ofString "k") 190)] 0) #[])),
(18, (Obj.mk (Value.type "tuple") none (Data.seq #[] 0) #[])),
(20, (Obj.mk (Value.type "code") none (Data.fields #[(Value.str (Str.ofString "_wall") 187), (Value.str (Str.ofString "_wall") 188), (Value.str (Str.ofString "/claim/cut.py") 189), (Value.int 1 0), (Value.int 1 0), (Value.int 0 0), (Value.int 0 0), (Value.int 3 0), (Value.ref 15), (Value.bool true), (Value.int 181 0), (Value.ref 16), Value.none, (Value.ref 17), (Value.ref 18), (Value.ref 19), (Value.int 191 0), (Value.int 1 0), (Value.str (Str.ofString "/claim/cut.py") 192)]) #[])),
(21, (Obj.mk (Value.type "function") none (Data.func (FuncData.mk (Str.ofString "_wall") (Str.ofString "_wall") (fnArgs (nthS P1 0)) (FuncBody.stmts (fnBody (nthS P1 0))) (fnScope (nthS P1 0)) 3 [] Value.none Value.none Value.none (Value.str (Str.ofString "__main__") 164) none (Value.ref 20) Value.none 0)) #[])),
(22, (Obj.mk (Value.type "tuple") none (Data.seq #[] 0) #[])),
(24, (Obj.mk (Value.type "tuple") none (Data.seq #[(Value.str (Str.ofString "delta") 199), (Value.str (Str.ofString "which") 200), (Value.str (Str.ofString "tag") 201), (Value.str (Str.ofString "prefixes") 202), (Value.str (Str.ofString "line") 203)] 0) #[])),
(25, (Obj.mk (Value.type "tuple") none (Data.seq #[] 0) #[])),
(27, (Obj.mk (Value.type "code") none (Data.fields #[(Value.str (Str.ofString "restore") 196), (Value.str (Str.ofString "restore") 197), (Value.str (Str.ofString "/claim/cut.py") 198), (Value.int 5 0), (Value.int 2 0), (Value.int 0 0), (Value.int 0 0), (Value.int 35 0), (Value.ref 22), (Value.bool true), (Value.int 181 0), (Value.ref 23), Value.none, (Value.ref 24), (Value.ref 25), (Value.ref 26), (Value.int 204 0), (Value.int 5 0), (Value.str (Str.ofString "/claim/cut.py") 205)]) #[])),
(28, (Obj.mk (Value.type "function") none (Data.func (FuncData.mk (Str.ofString "restore") (Str.ofString "restore") (fnArgs (nthS P1 2)) (FuncBody.stmts (fnBody (nthS P1 2))) (fnScope (nthS P1 2)) 3 [] Value.none Value.none Value.none (Value.str (Str.ofString "cpy313.difflib") 194) none (Value.ref 27) Value.none 0)) #[])),
(36, (Obj.mk (Value.type "tuple") none (Data.seq #[(Value.str (Str.ofString "node") 227), (Value.str (Str.ofString "npredecessors") 228), (Value.str (Str.ofString "successors") 229)] 0) #[])),
(37, (Obj.mk (Value.type "tuple") none (Data.seq #[] 0) #[])),
(39, (Obj.mk (Value.type "tuple") none (Data.seq #[(Value.str (Str.ofString "self") 234), (Value.str (Str.ofString "node") 235)] 0) #[])),
(40, (Obj.mk (Value.type "tuple") none (Data.seq #[] 0) #[])),
(42, (Obj.mk (Value.type "code") none (Data.fields #[(Value.str (Str.ofString "__init__") 231), (Value.str (Str.ofString "_NodeInfo.__init__") 232), (Value.str (Str.ofString "/claim/cut.py") 233), (Value.int 20 0), (Value.int 2 0), (Value.int 0 0), (Value.int 0 0), (Value.int 3 0), (Value.ref 37), (Value.bool true), (Value.int 181 0), (Value.ref 38), Value.none, (Value.ref 39), (Value.ref 40), (Value.ref 41), (Value.int 236 0), (Value.int 20 0), (Value.str (Str.ofString "/claim/cut.py") 237)]) #[])),
(43, (Obj.mk (Value.type "function") none (Data.func (FuncData.mk (Str.ofString "__init__") (Str.ofString "_NodeInfo.__init__") (fnArgs (m6 1)) (FuncBody.stmts (fnBody (m6 1))) (fnScope (m6 1)) 3 [] Value.none Value.none Value.none (Value.str (Str.ofString "cpy313.graphlib") 207) none (Value.ref 42) Value.none 0)) #[])),
(44, (Obj.mk (Value.type "tuple") none (Data.seq #[(Value.str (Str.ofString "node") 239), (Value.str (Str.ofString "npredecessors") 240), (Value.str (Str.ofString "successors") 241)] 0) #[])),
(46, (Obj.mk (Value.type "dict") none (Data.dict #[(DictEntry.mk (PyData.keyHash P (Str.ofString "__module__")) (Value.str (Str.ofString "__module__") 222) (Value.str (Str.ofString "cpy313.graphlib") 207)), (DictEntry.mk (PyData.keyHash P (Str.ofString "__firstlineno__")) (Value.str (Str.ofString "__firstlineno__") 226) (Value.int 17 225)), (DictEntry.mk (PyData.keyHash P (Str.ofString "__slots__")) (Value.str (Str.ofString "__slots__") 230) (Value.ref 36)), (DictEntry.mk (PyData.keyHash P (Str.ofString "__init__")) (Value.str (Str.ofString "__init__") 238) (Value.ref 43)), (DictEntry.mk (PyData.keyHash P (Str.ofString "__static_attributes__")) (Value.str (Str.ofString "__static_attributes__") 242) (Value.ref 44)), (DictEntry.mk (PyData.keyHash P (Str.ofString "node")) (Value.str (Str.ofString "node") 244) (Value.ref 48)), (DictEntry.mk (PyData.keyHash P (Str.ofString "npredecessors")) (Value.str (Str.ofString "npredecessors") 246) (Value.ref 49)), (DictEntry.mk (PyData.keyHash P (Str.ofString "successors")) (Value.str (Str.ofString "successors") 248) (Value.ref 50)), (DictEntry.mk (PyData.keyHash P (Str.ofString "__doc__")) (Value.str (Str.ofString "__doc__") 249) Value.none)] 5) #[])),
(47, (Obj.mk (Value.type "type") none (Data.cls (ClassData.mk (Str.ofString "_NodeInfo") [(Value.type "object")] [(Value.ref 47), (Value.type "object")] 46 (Str.ofString "_NodeInfo") false [(Str.ofString "node"), (Str.ofString "npredecessors"), (Str.ofString "successors")] [] false none false)) #[none, none, (some (Value.str (Str.ofString "_NodeInfo") 215)), (some (Value.str (Str.ofString "_NodeInfo") 223)), (some (Value.builtin "object.__new__")), (some (Value.bool false))])),
(48, (Obj.mk (Value.type "member_descriptor") none (Data.fields #[(Value.str (Str.ofString "node") 243), (Value.ref 47), (Value.builtin "proto.slot"), (Value.builtin "proto.slot#set"), (Value.int 2 0)]) #[])),
(49, (Obj.mk (Value.type "member_descriptor") none (Data.fields #[(Value.str (Str.ofString "npredecessors") 245), (Value.ref 47), (Value.builtin "proto.slot"), (Value.builtin "proto.slot#set"), (Value.int 1 0)]) #[])),
(50, (Obj.mk (Value.type "member_descriptor") none (Data.fields #[(Value.str (Str.ofString "successors") 247), (Value.ref 47), (Value.builtin "proto.slot"), (Value.builtin "proto.slot#set"), (Value.int 0 0)]) #[])),
(53, (Obj.mk (Value.type "tuple") none (Data.seq #[(Value.type "ValueError")] 0) #[])),
(60, (Obj.mk (Value.type "tuple") none (Data.seq #[] 0) #[])),
(61, (Obj.mk (Value.type "dict") none (Data.dict #[(DictEntry.mk (PyData.keyHash P (Str.ofString "__module__")) (Value.str (Str.ofString "__module__") 259) (Value.str (Str.ofString "cpy313.graphlib") 207)), (DictEntry.mk (PyData.keyHash P (Str.ofString "__firstlineno__")) (Value.str (Str.ofString "__firstlineno__") 263) (Value.int 24 262)), (DictEntry.mk (PyData.keyHash P (Str.ofString "__static_attributes__")) (Value.str (Str.ofString "__static_attributes__") 264) (Value.ref 60)), (DictEntry.mk (PyData.keyHash P (Str.ofString "__weakref__")) (Value.str (Str.ofString "__weakref__") 266) (Value.ref 63)), (DictEntry.mk (PyData.keyHash P (Str.ofString "__doc__")) (Value.str (Str.ofString "__doc__") 267) Value.none)] 3) #[])),
(62, (Obj.mk (Value.type "type") none (Data.cls (ClassData.mk (Str.ofString "CycleError") [(Value.type "ValueError")] [(Value.ref 62), (Value.type "ValueError"), (Value.type "Exception"), (Value.type "BaseException"), (Value.type "object")] 61 (Str.ofString "CycleError") true [] [] false none false)) #[(some (Value.ref 53)), none, (some (Value.str (Str.ofString "CycleError") 252)), (some (Value.str (Str.ofString "CycleError") 260)), (some (Value.builtin "ValueError.__new__")), (some (Value.bool true))])),
(63, (Obj.mk (Value.type "getset_descriptor") none (Data.fields #[(Value.str (Str.ofString "__weakref__") 265), (Value.ref 62), (Value.builtin "ExceptionGroup.__weakref__"), Value.none]) #[])),
(73, (Obj.mk (Value.type "tuple") none (Data.seq #[Value.none] 0) #[])),
(74, (Obj.mk (Value.type "tuple") none (Data.seq #[] 0) #[])),
(76, (Obj.mk (Value.type "tuple") none (Data.seq #[(Value.str (Str.ofString "self") 285), (Value.str (Str.ofString "graph") 286), (Value.str (Str.ofString "node") 287), (Value.str (Str.ofString "predecessors") 288)] 0) #[])),
(77, (Obj.mk (Value.type "tuple") none (Data.seq #[] 0) #[])),
(79, (Obj.mk (Value.type "code") none (Data.fields #[(Value.str (Str.ofString "__init__") 282), (Value.str (Str.ofString "TopologicalSorter.__init__") 283), (Value.str (Str.ofString "/claim/cut.py") 284), (Value.int 28 0), (Value.int 2 0), (Value.int 0 0), (Value.int 0 0), (Value.int 3 0), (Value.ref 74), (Value.bool true), (Value.int 181 0), (Value.ref 75), Value.none, (Value.ref 76), (Value.ref 77), (Value.ref 78), (Value.int 289 0), (Value.int 28 0), (Value.str (Str.ofString "/claim/cut.py") 290)]) #[])),
(80, (Obj.mk (Value.type "function") none (Data.func (FuncData.mk (Str.ofString "__init__") (Str.ofString "TopologicalSorter.__init__") (fnArgs (m8 0)) (FuncBody.stmts (fnBody (m8 0))) (fnScope (m8 0)) 3 [] (Value.ref 73) Value.none Value.none (Value.str (Str.ofString "cpy313.graphlib") 207) none (Value.ref 79) Value.none 0)) #[])),
(81, (Obj.mk (Value.type "tuple") none (Data.seq #[] 0) #[])),
(83, (Obj.mk (Value.type "tuple") none (Data.seq #[(Value.str (Str.ofString "self") 295), (Value.str (Str.ofString "node") 296), (Value.str (Str.ofString "result") 297)] 0) #[])),
(84, (Obj.mk (Value.type "tuple") none (Data.seq #[] 0) #[])),
(86, (Obj.mk (Value.type "code") none (Data.fields #[(Value.str (Str.ofString "_get_nodeinfo") 292), (Value.str (Str.ofString "TopologicalSorter._get_nodeinfo") 293), (Value.str (Str.ofString "/claim/cut.py") 294), (Value.int 37 0), (Value.int 2 0), (Value.int 0 0), (Value.int 0 0), (Value.int 3 0), (Value.ref 81), (Value.bool true), (Value.int 181 0), (Value.ref 82), Value.none, (Value.ref 83), (Value.ref 84), (Value.ref 85), (Value.int 298 0), (Value.int 37 0), (Value.str (Str.ofString "/claim/cut.py") 299)]) #[])),
(87, (Obj.mk (Value.type "function") none (Data.func (FuncData.mk (Str.ofString "_get_nodeinfo") (Str.ofString "TopologicalSorter._get_nodeinfo") (fnArgs (m8 1)) (FuncBody.stmts (fnBody (m8 1))) (fnScope (m8 1)) 3 [] Value.none Value.none Value.none (Value.str (Str.ofString "cpy313.graphlib") 207) none (Value.ref 86) Value.none 0)) #[])),
(88, (Obj.mk (Value.type "tuple") none (Data.seq #[] 0) #[])),
(90, (Obj.mk (Value.type "tuple") none (Data.seq #[(Value.str (Str.ofString "self") 304), (Value.str (Str.ofString "node") 305), (Value.str (Str.ofString "predecessors") 306), (Value.str (Str.ofString "nodeinfo") 307), (Value.str (Str.ofString "pred") 308), (Value.str (Str.ofString "pred_info") 309)] 0) #[])),
(91, (Obj.mk (Value.type "tuple") none (Data.seq #[] 0) #[])),
(93, (Obj.mk (Value.type "code") none (Data.fields #[(Value.str (Str.ofString "add") 301), (Value.str (Str.ofString "TopologicalSorter.add") 302), (Value.str (Str.ofString "/claim/cut.py") 303), (Value.int 42 0), (Value.int 2 0), (Value.int 0 0), (Value.int 0 0), (Value.int 7 0), (Value.ref 88), (Value.bool true), (Value.int 181 0), (Value.ref 89), Value.none, (Value.ref 90), (Value.ref 91), (Value.ref 92), (Value.int 310 0), (Value.int 42 0), (Value.str (Str.ofString "/claim/cut.py") 311)]) #[])),
(94, (Obj.mk (Value.type "function") none (Data.func (FuncData.mk (Str.ofString "add") (Str.ofString "TopologicalSorter.add") (fnArgs (m8 2)) (FuncBody.stmts (fnBody (m8 2))) (fnScope (m8 2)) 3 [] Value.none Value.none Value.none (Value.str (Str.ofString "cpy313.graphlib") 207) none (Value.ref 93) Value.none 0)) #[])),
(95, (Obj.mk (Value.type "tuple") none (Data.seq #[] 0) #[])),
(98, (Obj.mk (Value.type "code") none (Data.fields #[(Value.str (Str.ofString "prepare") 313), (Value.str (Str.ofString "TopologicalSorter.prepare") 314), (Value.str (Str.ofString "/claim/cut.py") 315), (Value.int 51 0), (Value.int 1 0), (Value.int 0 0), (Value.int 0 0), (Value.int 3 0), (Value.ref 95), (Value.bool true), (Value.int 181 0), (Value.ref 96), Value.none, Value.none, Value.none, (Value.ref 97), (Value.int 316 0), (Value.int 51 0), (Value.str (Str.ofString "/claim/cut.py") 317)]) #[])),
(99, (Obj.mk (Value.type "function") none (Data.func (FuncData.mk (Str.ofString "prepare") (Str.ofString "TopologicalSorter.prepare") (fnArgs (m8 3)) (FuncBody.stmts (fnBody (m8 3))) (fnScope (m8 3)) 3 [] Value.none Value.none Value.none (Value.str (Str.ofString "cpy313.graphlib") 207) none (Value.ref 98) Value.none 0)) #[])),
(100, (Obj.mk (Value.type "tuple") none (Data.seq #[] 0) #[])),
(102, (Obj.mk (Value.type "tuple") none (Data.seq #[(Value.str (Str.ofString "self") 322), (Value.str (Str.ofString "result") 323), (Value.str (Str.ofString "n2i") 324), (Value.str (Str.ofString "node") 325)] 0) #[])),
(103, (Obj.mk (Value.type "tuple") none (Data.seq #[] 0) #[])),
(105, (Obj.mk (Value.type "code") none (Data.fields #[(Value.str (Str.ofString "get_ready") 319), (Value.str (Str.ofString "TopologicalSorter.get_ready") 320), (Value.str (Str.ofString "/claim/cut.py") 321), (Value.int 59 0), (Value.int 1 0), (Value.int 0 0), (Value.int 0 0), (Value.int 3 0), (Value.ref 100), (Value.bool true), (Value.int 181 0), (Value.ref 101), Value.none, (Value.ref 102), (Value.ref 103), (Value.ref 104), (Value.int 326 0), (Value.int 59 0), (Value.str (Str.ofString "/claim/cut.py") 327)]) #[])),
(106, (Obj.mk (Value.type "function") none (Data.func (FuncData.mk (Str.ofString "get_ready") (Str.ofString "TopologicalSorter.get_ready") (fnArgs (m8 4)) (FuncBody.stmts (fnBody (m8 4))) (fnScope (m8 4)) 3 [] Value.none Value.none Value.none (Value.str (Str.ofString "cpy313.graphlib") 207) none (Value.ref 105) Value.none 0)) #[])),
(107, (Obj.mk (Value.type "tuple") none (Data.seq #[] 0) #[])),
(109, (Obj.mk (Value.type "tuple") none (Data.seq #[(Value.str (Str.ofString "self") 332)] 0) #[])),
(110, (Obj.mk (Value.type "tuple") none (Data.seq #[] 0) #[])),
(112, (Obj.mk (Value.type "code") none (Data.fields #[(Value.str (Str.ofString "is_active") 329), (Value.str (Str.ofString "TopologicalSorter.is_active") 330), (Value.str (Str.ofString "/claim/cut.py") 331), (Value.int 70 0), (Value.int 1 0), (Value.int 0 0), (Value.int 0 0), (Value.int 3 0), (Value.ref 107), (Value.bool true), (Value.int 181 0), (Value.ref 108), Value.none, (Value.ref 109), (Value.ref 110), (Value.ref 111), (Value.int 333 0), (Value.int 70 0), (Value.str (Str.ofString "/claim/cut.py") 334)]) #[])),
(113, (Obj.mk (Value.type "function") none (Data.func (FuncData.mk (Str.ofString "is_active") (Str.ofString "TopologicalSorter.is_active") (fnArgs (m8 5)) (FuncBody.stmts (fnBody (m8 5))) (fnScope (m8 5)) 3 [] Value.none Value.none Value.none (Value.str (Str.ofString "cpy313.graphlib") 207) none (Value.ref 112) Value.none 0)) #[])),
(114, (Obj.mk (Value.type "tuple") none (Data.seq #[] 0) #[])),
(116, (Obj.mk (Value.type "tuple") none (Data.seq #[(Value.str (Str.ofString "self") 339)] 0) #[])),
(117, (Obj.mk (Value.type "tuple") none (Data.seq #[] 0) #[])),
(119, (Obj.mk (Value.type "code") none (Data.fields #[(Value.str (Str.ofString "__bool__") 336), (Value.str (Str.ofString "TopologicalSorter.__bool__") 337), (Value.str (Str.ofString "/claim/cut.py") 338), (Value.int 75 0), (Value.int 1 0), (Value.int 0 0), (Value.int 0 0), (Value.int 3 0), (Value.ref 114), (Value.bool true), (Value.int 181 0), (Value.ref 115), Value.none, (Value.ref 116), (Value.ref 117), (Value.ref 118), (Value.int 340 0), (Value.int 75 0), (Value.str (Str.ofString "/claim/cut.py") 341)]) #[])),
(120, (Obj.mk (Value.type "function") none (Data.func (FuncData.mk (Str.ofString "__bool__") (Str.ofString "TopologicalSorter.__bool__") (fnArgs (m8 6)) (FuncBody.stmts (fnBody (m8 6))) (fnScope (m8 6)) 3 [] Value.none Value.none Value.none (Value.str (Str.ofString "cpy313.graphlib") 207) none (Value.ref 119) Value.none 0)) #[])),
(121, (Obj.mk (Value.type "tuple") none (Data.seq #[] 0) #[])),
(123, (Obj.mk (Value.type "tuple") none (Data.seq #[(Value.str (Str.ofString "self") 346), (Value.str (Str.ofString "nodes") 347), (Value.str (Str.ofString "n2i") 348), (Value.str (Str.ofString "node") 349), (Value.str (Str.ofString "nodeinfo") 350), (Value.str (Str.ofString "stat") 351), (Value.str (Str.ofString "successor") 352), (Value.str (Str.ofString "successor_info") 353)] 0) #[])),
(124, (Obj.mk (Value.type "tuple") none (Data.seq #[] 0) #[])),
(126, (Obj.mk (Value.type "code") none (Data.fields #[(Value.str (Str.ofString "done") 343), (Value.str (Str.ofString "TopologicalSorter.done") 344), (Value.str (Str.ofString "/claim/cut.py") 345), (Value.int 78 0), (Value.int 1 0), (Value.int 0 0), (Value.int 0 0), (Value.int 7 0), (Value.ref 121), (Value.bool true), (Value.int 181 0), (Value.ref 122), Value.none, (Value.ref 123), (Value.ref 124), (Value.ref 125), (Value.int 354 0), (Value.int 78 0), (Value.str (Str.ofString "/claim/cut.py") 355)]) #[])),
(127, (Obj.mk (Value.type "function") none (Data.func (FuncData.mk (Str.ofString "done") (Str.ofString "TopologicalSorter.done") (fnArgs (m8 7)) (FuncBody.stmts (fnBody (m8 7))) (fnScope (m8 7)) 3 [] Value.none Value.none Value.none (Value.str (Str.ofString "cpy313.graphlib") 207) none (Value.ref 126) Value.none 0)) #[])),
(128, (Obj.mk (Value.type "tuple") none (Data.seq #[] 0) #[])),
(130, (Obj.mk (Value.type "tuple") none (Data.seq #[(Value.str (Str.ofString "self") 360), (Value.str (Str.ofString "n2i") 361), (Value.str (Str.ofString "stack") 362), (Value.str (Str.ofString "itstack") 363), (Value.str (Str.ofString "seen") 364), (Value.str (Str.ofString "node2stacki") 365), (Value.str (Str.ofString "node") 366)] 0) #[])),
(131, (Obj.mk (Value.type "tuple") none (Data.seq #[] 0) #[])),
(133, (Obj.mk (Value.type "code") none (Data.fields #[(Value.str (Str.ofString "_find_cycle") 357), (Value.str (Str.ofString "TopologicalSorter._find_cycle") 358), (Value.str (Str.ofString "/claim/cut.py") 359), (Value.int 101 0), (Value.int 1 0), (Value.int 0 0), (Value.int 0 0), (Value.int 3 0), (Value.ref 128), (Value.bool true), (Value.int 181 0), (Value.ref 129), Value.none, (Value.ref 130), (Value.ref 131), (Value.ref 132), (Value.int 367 0), (Value.int 101 0), (Value.str (Str.ofString "/claim/cut.py") 368)]) #[])),
(134, (Obj.mk (Value.type "function") none (Data.func (FuncData.mk (Str.ofString "_find_cycle") (Str.ofString "TopologicalSorter._find_cycle") (fnArgs (m8 8)) (FuncBody.stmts (fnBody (m8 8))) (fnScope (m8 8)) 3 [] Value.none Value.none Value.none (Value.str (Str.ofString "cpy313.graphlib") 207) none (Value.ref 133) Value.none 0)) #[])),
(135, (Obj.mk (Value.type "tuple") none (Data.seq #[] 0) #[])),
(137, (Obj.mk (Value.type "tuple") none (Data.seq #[(Value.str (Str.ofString "self") 373)] 0) #[])),
(138, (Obj.mk (Value.type "tuple") none (Data.seq #[] 0) #[])),
(140, (Obj.mk (Value.type "code") none (Data.fields #[(Value.str (Str.ofString "static_order") 370), (Value.str (Str.ofString "TopologicalSorter.static_order") 371), (Value.str (Str.ofString "/claim/cut.py") 372), (Value.int 130 0), (Value.int 1 0), (Value.int 0 0), (Value.int 0 0), (Value.int 3 0), (Value.ref 135), (Value.bool true), (Value.int 181 0), (Value.ref 136), Value.none, (Value.ref 137), (Value.ref 138), (Value.ref 139), (Value.int 374 0), (Value.int 130 0), (Value.str (Str.ofString "/claim/cut.py") 375)]) #[])),
(141, (Obj.mk (Value.type "function") none (Data.func (FuncData.mk (Str.ofString "static_order") (Str.ofString "TopologicalSorter.static_order") (fnArgs (m8 9)) (FuncBody.stmts (fnBody (m8 9))) (fnScope (m8 9)) 3 [] Value.none Value.none Value.none (Value.str (Str.ofString "cpy313.graphlib") 207) none (Value.ref 140) Value.none 0)) #[])),
(142, (Obj.mk (Value.type "tuple") none (Data.seq #[(Value.str (Str.ofString "_nfinished") 377), (Value.str (Str.ofString "_node2info") 378), (Value.str (Str.ofString "_npassedout") 379), (Value.str (Str.ofString "_ready_nodes") 380)] 0) #[])),
(143, (Obj.mk (Value.type "dict") none (Data.dict #[(DictEntry.mk (PyData.keyHash P (Str.ofString "__module__")) (Value.str (Str.ofString "__module__") 277) (Value.str (Str.ofString "cpy313.graphlib") 207)), (DictEntry.mk (PyData.keyHash P (Str.ofString "__firstlineno__")) (Value.str (Str.ofString "__firstlineno__") 281) (Value.int 26 280)), (DictEntry.mk (PyData.keyHash P (Str.ofString "__init__")) (Value.str (Str.ofString "__init__") 291) (Value.ref 80)), (DictEntry.mk (PyData.keyHash P (Str.ofString "_get_nodeinfo")) (Value.str (Str.ofString "_get_nodeinfo") 300) (Value.ref 87)), (DictEntry.mk (PyData.keyHash P (Str.ofString "add")) (Value.str (Str.ofString "add") 312) (Value.ref 94)), (DictEntry.mk (PyData.keyHash P (Str.ofString "prepare")) (Value.str (Str.ofString "prepare") 318) (Value.ref 99)), (DictEntry.mk (PyData.keyHash P (Str.ofString "get_ready")) (Value.str (Str.ofString "get_ready") 328) (Value.ref 106)), (DictEntry.mk (PyData.keyHash P (Str.ofString "is_active")) (Value.str (Str.ofString "is_active") 335) (Value.ref 113)), (DictEntry.mk (PyData.keyHash P (Str.ofString "__bool__")) (Value.str (Str.ofString "__bool__") 342) (Value.ref 120)), (DictEntry.mk (PyData.keyHash P (Str.ofString "done")) (Value.str (Str.ofString "done") 356) (Value.ref 127)), (DictEntry.mk (PyData.keyHash P (Str.ofString "_find_cycle")) (Value.str (Str.ofString "_find_cycle") 369) (Value.ref 134)), (DictEntry.mk (PyData.keyHash P (Str.ofString "static_order")) (Value.str (Str.ofString "static_order") 376) (Value.ref 141)), (DictEntry.mk (PyData.keyHash P (Str.ofString "__static_attributes__")) (Value.str (Str.ofString "__static_attributes__") 381) (Value.ref 142)), (DictEntry.mk (PyData.keyHash P (Str.ofString "__dict__")) (Value.str (Str.ofString "__dict__") 383) (Value.ref 145)), (DictEntry.mk (PyData.keyHash P (Str.ofString "__weakref__")) (Value.str (Str.ofString "__weakref__") 385) (Value.ref 146)), (DictEntry.mk (PyData.keyHash P (Str.ofString "__doc__")) (Value.str (Str.ofString "__doc__") 386) Value.none)] 4) #[])),
(144, (Obj.mk (Value.type "type") none (Data.cls (ClassData.mk (Str.ofString "TopologicalSorter") [(Value.type "object")] [(Value.ref 144), (Value.type "object")] 143 (Str.ofString "TopologicalSorter") true [] [] false none false)) #[none, none, (some (Value.str (Str.ofString "TopologicalSorter") 270)), (some (Value.str (Str.ofString "TopologicalSorter") 278)), (some (Value.builtin "object.__new__")), (some (Value.bool true))])),
(145, (Obj.mk (Value.type "getset_descriptor") none (Data.fields #[(Value.str (Str.ofString "__dict__") 382), (Value.ref 144), (Value.builtin "function.__dict__"), (Value.builtin "function.__dict__#set")]) #[])),
(146, (Obj.mk (Value.type "getset_descriptor") none (Data.fields #[(Value.str (Str.ofString "__weakref__") 384), (Value.ref 144), (Value.builtin "ExceptionGroup.__weakref__"), Value.none]) #[])),
(149, (Obj.mk (Value.type "tuple") none (Data.seq #[] 0) #[])),
(151, (Obj.mk (Value.type "tuple") none (Data.seq #[(Value.str (Str.ofString "script") 394), (Value.str (Str.ofString "cells") 395), (Value.str (Str.ofString "k") 396), (Value.str (Str.ofString "x") 397), (Value.str (Str.ofString "rows") 398), (Value.str (Str.ofString "place") 399), (Value.str (Str.ofString "cell") 400), (Value.str (Str.ofString "kind") 401), (Value.str (Str.ofString "more") 402), (Value.str (Str.ofString "mark") 403), (Value.str (Str.ofString "text") 404)] 0) #[])),
(152, (Obj.mk (Value.type "tuple") none (Data.seq #[] 0) #[])),
(154, (Obj.mk (Value.type "code") none (Data.fields #[(Value.str (Str.ofString "_law_rows") 391), (Value.str (Str.ofString "_law_rows") 392), (Value.str (Str.ofString "/claim/cut.py") 393), (Value.int 133 0), (Value.int 1 0), (Value.int 0 0), (Value.int 0 0), (Value.int 3 0), (Value.ref 149), (Value.bool true), (Value.int 181 0), (Value.ref 150), Value.none, (Value.ref 151), (Value.ref 152), (Value.ref 153), (Value.int 405 0), (Value.int 133 0), (Value.str (Str.ofString "/claim/cut.py") 406)]) #[])),
(155, (Obj.mk (Value.type "function") none (Data.func (FuncData.mk (Str.ofString "_law_rows") (Str.ofString "_law_rows") (fnArgs (nthS P1 10)) (FuncBody.stmts (fnBody (nthS P1 10))) (fnScope (nthS P1 10)) 3 [] Value.none Value.none Value.none (Value.str (Str.ofString "law_nq0159_01") 389) none (Value.ref 154) Value.none 0)) #[])),
(156, (Obj.mk (Value.type "tuple") none (Data.seq #[] 0) #[])),
(158, (Obj.mk (Value.type "tuple") none (Data.seq #[(Value.str (Str.ofString "turn") 411), (Value.str (Str.ofString "pace") 412), (Value.str (Str.ofString "lead") 413), (Value.str (Str.ofString "leads") 414), (Value.str (Str.ofString "kind") 415), (Value.str (Str.ofString "row") 416), (Value.str (Str.ofString "text") 417)] 0) #[])),
(159, (Obj.mk (Value.type "tuple") none (Data.seq #[] 0) #[])),
(161, (Obj.mk (Value.type "code") none (Data.fields #[(Value.str (Str.ofString "_law_leads") 408), (Value.str (Str.ofString "_law_leads") 409), (Value.str (Str.ofString "/claim/cut.py") 410), (Value.int 148 0), (Value.int 2 0), (Value.int 0 0), (Value.int 0 0), (Value.int 3 0), (Value.ref 156), (Value.bool true), (Value.int 181 0), (Value.ref 157), Value.none, (Value.ref 158), (Value.ref 159), (Value.ref 160), (Value.int 418 0), (Value.int 148 0), (Value.str (Str.ofString "/claim/cut.py") 419)]) #[])),
(162, (Obj.mk (Value.type "function") none (Data.func (FuncData.mk (Str.ofString "_law_leads") (Str.ofString "_law_leads") (fnArgs (nthS P1 11)) (FuncBody.stmts (fnBody (nthS P1 11))) (fnScope (nthS P1 11)) 3 [] Value.none Value.none Value.none (Value.str (Str.ofString "law_nq0159_01") 389) none (Value.ref 161) Value.none 0)) #[])),
(163, (Obj.mk (Value.type "tuple") none (Data.seq #[] 0) #[])),
(165, (Obj.mk (Value.type "tuple") none (Data.seq #[(Value.str (Str.ofString "first") 424), (Value.str (Str.ofString "second") 425), (Value.str (Str.ofString "pace") 426), (Value.str (Str.ofString "line") 427), (Value.str (Str.ofString "sorter") 428), (Value.str (Str.ofString "side") 429), (Value.str (Str.ofString "k") 430), (Value.str (Str.ofString "text") 431), (Value.str (Str.ofString "ahead") 432)] 0) #[])),
(166, (Obj.mk (Value.type "tuple") none (Data.seq #[] 0) #[])),
(168, (Obj.mk (Value.type "code") none (Data.fields #[(Value.str (Str.ofString "_law_sorter") 421), (Value.str (Str.ofString "_law_sorter") 422), (Value.str (Str.ofString "/claim/cut.py") 423), (Value.int 156 0), (Value.int 3 0), (Value.int 0 0), (Value.int 0 0), (Value.int 3 0), (Value.ref 163), (Value.bool true), (Value.int 181 0), (Value.ref 164), Value.none, (Value.ref 165), (Value.ref 166), (Value.ref 167), (Value.int 433 0), (Value.int 156 0), (Value.str (Str.ofString "/claim/cut.py") 434)]) #[])),
(169, (Obj.mk (Value.type "function") none (Data.func (FuncData.mk (Str.ofString "_law_sorter") (Str.ofString "_law_sorter") (fnArgs (nthS P1 12)) (FuncBody.stmts (fnBody (nthS P1 12))) (fnScope (nthS P1 12)) 3 [] Value.none Value.none Value.none (Value.str (Str.ofString "law_nq0159_01") 389) none (Value.ref 168) Value.none 0)) #[])),
(170, (Obj.mk (Value.type "tuple") none (Data.seq #[] 0) #[])),
(172, (Obj.mk (Value.type "tuple") none (Data.seq #[(Value.str (Str.ofString "sorter") 439)] 0) #[])),
(173, (Obj.mk (Value.type "tuple") none (Data.seq #[] 0) #[])),
(175, (Obj.mk (Value.type "code") none (Data.fields #[(Value.str (Str.ofString "_law_refused") 436), (Value.str (Str.ofString "_law_refused") 437), (Value.str (Str.ofString "/claim/cut.py") 438), (Value.int 167 0), (Value.int 1 0), (Value.int 0 0), (Value.int 0 0), (Value.int 3 0), (Value.ref 170), (Value.bool true), (Value.int 181 0), (Value.ref 171), Value.none, (Value.ref 172), (Value.ref 173), (Value.ref 174), (Value.int 440 0), (Value.int 167 0), (Value.str (Str.ofString "/claim/cut.py") 441)]) #[])),
(176, (Obj.mk (Value.type "function") none (Data.func (FuncData.mk (Str.ofString "_law_refused") (Str.ofString "_law_refused") (fnArgs (nthS P1 13)) (FuncBody.stmts (fnBody (nthS P1 13))) (fnScope (nthS P1 13)) 3 [] Value.none Value.none Value.none (Value.str (Str.ofString "law_nq0159_01") 389) none (Value.ref 175) Value.none 0)) #[])),
(177, (Obj.mk (Value.type "tuple") none (Data.seq #[] 0) #[])),
(179, (Obj.mk (Value.type "tuple") none (Data.seq #[(Value.str (Str.ofString "sorter") 446), (Value.str (Str.ofString "order") 447), (Value.str (Str.ofString "text") 448)] 0) #[])),
(180, (Obj.mk (Value.type "tuple") none (Data.seq #[] 0) #[])),
(182, (Obj.mk (Value.type "code") none (Data.fields #[(Value.str (Str.ofString "_law_taken") 443), (Value.str (Str.ofString "_law_taken") 444), (Value.str (Str.ofString "/claim/cut.py") 445), (Value.int 173 0), (Value.int 2 0), (Value.int 0 0), (Value.int 0 0), (Value.int 3 0), (Value.ref 177), (Value.bool true), (Value.int 181 0), (Value.ref 178), Value.none, (Value.ref 179), (Value.ref 180), (Value.ref 181), (Value.int 449 0), (Value.int 173 0), (Value.str (Str.ofString "/claim/cut.py") 450)]) #[])),
(183, (Obj.mk (Value.type "function") none (Data.func (FuncData.mk (Str.ofString "_law_taken") (Str.ofString "_law_taken") (fnArgs (nthS P1 14)) (FuncBody.stmts (fnBody (nthS P1 14))) (fnScope (nthS P1 14)) 3 [] Value.none Value.none Value.none (Value.str (Str.ofString "law_nq0159_01") 389) none (Value.ref 182) Value.none 0)) #[])),
(184, (Obj.mk (Value.type "tuple") none (Data.seq #[] 0) #[])),
(187, (Obj.mk (Value.type "code") none (Data.fields #[(Value.str (Str.ofString "law") 452), (Value.str (Str.ofString "law") 453), (Value.str (Str.ofString "/claim/cut.py") 454), (Value.int 181 0), (Value.int 1 0), (Value.int 0 0), (Value.int 0 0), (Value.int 3 0), (Value.ref 184), (Value.bool true), (Value.int 181 0), (Value.ref 185), Value.none, Value.none, Value.none, (Value.ref 186), (Value.int 455 0), (Value.int 181 0), (Value.str (Str.ofString "/claim/cut.py") 456)]) #[])),
(188, (Obj.mk (Value.type "function") none (Data.func (FuncData.mk (Str.ofString "law") (Str.ofString "law") (fnArgs (nthS P1 15)) (FuncBody.stmts (fnBody (nthS P1 15))) (fnScope (nthS P1 15)) 3 [] Value.none Value.none Value.none (Value.str (Str.ofString "law_nq0159_01") 389) none (Value.ref 187) Value.none 0)) #[]))]
noncomputable def addr1 : List Addr := [2, 3, 15, 17, 18, 20, 21, 22, 24, 25, 27, 28, 36, 37, 39, 40, 42, 43, 44, 46, 47, 48, 49, 50, 53, 60, 61, 62, 63, 73, 74, 76, 77, 79, 80, 81, 83, 84, 86, 87, 88, 90, 91, 93, 94, 95, 98, 99, 100, 102, 103, 105, 106, 107, 109, 110, 112, 113, 114, 116, 117, 119, 120, 121, 123, 124, 126, 127, 128, 130, 131, 133, 134, 135, 137, 138, 140, 141, 142, 143, 144, 145, 146, 149, 151, 152, 154, 155, 156, 158, 159, 161, 162, 163, 165, 166, 168, 169, 170, 172, 173, 175, 176, 177, 179, 180, 182, 183, 184, 187, 188]
noncomputable def hook1 : Hook := kHook frag1 addr1 (fun _ => by kernel_rfl)
noncomputable abbrev row1 : RowW := OpenRow.toRowW PySem.Challenge.rw_nq0159_01.row
theorem said1 : PySem.Challenge.rw_nq0159_01.wellSaid = true := by kernel_rfl
theorem left1 : LeftO P1 view1 [Str.ofString "_NodeInfo"] (fun s => xlAt view1 [] s && recOk (RowW.records row1) s) (Hook.obs hook1) (Hook.val hook1) 2706 := fun w => by kernel_rfl
end Mine

end

set_option maxRecDepth 100000 in
set_option maxHeartbeats 8000000 in
theorem PySem.Challenge.cw_nq0159_01_holds : PySem.Challenge.rw_nq0159_01.Holds := by
  w_on
  o_law
  refine holds_open (q := Mine.view1) (loose := [Str.ofString "_NodeInfo"]) (Xt := fun s => xlAt Mine.view1 [] s && recOk (RowW.records Mine.row1) s) (XP := XL Mine.view1 []) (Yf := Hook.obs Mine.hook1) (Ya := Hook.val Mine.hook1) (YP := Hook.says Mine.hook1) (N := 2706) Mine.left1 (Hook.of Mine.hook1) (Hook.keeps Mine.hook1) (fun s e => xl_of s (Bool.and_eq_true_iff.mp e).1) XL.keeps (by rfl) (by rfl) (by rfl) (fun s e => recFacts_of (Bool.and_eq_true_iff.mp e).2) (by rfl) (by first | assumption | decide +kernel) (by decide +kernel) ⟨rfl, rfl, rfl, rfl, rfl, by decide +kernel⟩ ?hw ?hc
  (case hw => w_witness2)
  intro w s₀ s₁ mg mb G Y fa o pm cd doc dV kV ho hd hcd hD hmg hg args vals as hpre hlay hrd hwl hlo
  have KX := kIn_of Y
  refine Ground.open G ?_
  intro T B D TE TW
  wrow_args hpre hlay hrd hwl hlo
  refine enter_call ?_
  rename Well _ _ _ _ => hW
  rename IntsAre _ _ => hI
  rename Heap.IsList _ _ _ => hL
  rename (¬ ((63 : Nat) : Int) < _) => hL63
  have hT := topRead_of T
  clear ho hd hcd hD
  have hfa : fa = 188 := by
    have e : mg (Str.ofString "law") = some (.ref 188) := mg_of KX hT.g (by kernel_rfl)
    have e2 : mg (Str.ofString "law") = some (.ref fa) := hmg
    rw [e] at e2
    cases e2
    rfl
  subst hfa
  refine Mine.law_join (p := ⟨_, w, _, s₁.heap, _, _, mg, mb, s₁.os, AllBare, KX, hT⟩) ?kb ?ks ?kc ?kl ?kf rfl rfl rfl hg (Mine.list_at hW hL) hI ?n ?R
  case n => (first | lia | omega)
  case kb => constructor <;> kernel_rfl
  case kf => exact ⟨⟨_, _, rfl, rfl, rfl, rfl, rfl, rfl, rfl, rfl, rfl, rfl, by kernel_rfl⟩⟩
  case kl => constructor <;> exact ⟨by kernel_rfl, by kernel_rfl, ⟨⟨_, _, rfl, rfl, rfl, rfl, rfl, rfl, rfl, rfl, rfl, rfl, by kernel_rfl⟩⟩⟩
  case kc =>
    refine ⟨Mine.ownQ_of KX (mg_of KX hT.g (by kernel_rfl)) (show List.lookup (62 : Nat) _ = _ from rfl) (by kernel_rfl) ?_⟩
    intro n hn
    simp only [quietNames, List.mem_cons, List.not_mem_nil, or_false] at hn
    rcases hn with rfl | rfl | rfl | rfl <;> kernel_rfl
  case R => exact fun s' h1 h2 h3 => ⟨.inl ⟨.bool true, .bool true, [], rfl, fun _ => rfl, .bool true, by kernel_rfl, fun _ => ⟨.nil, fun a ha => nomatch ha⟩⟩, .of_keep h1, h2, h3⟩
  case ks =>
    refine Mine.KS2.mk ?_ ?_ ?_ ?_ ?_ ?_ ?_ ?_ ?_ ?_ ?_ ?_ ?_ ?_ ?_ ?_ ?_ ?_ ⟨73, _, ⟨⟨_, _, rfl, rfl, rfl, rfl, rfl, rfl, rfl, rfl, rfl, rfl, by kernel_rfl⟩⟩, rfl⟩ ⟨_, rfl⟩ ⟨_, rfl⟩ ?_
    case refine_1 =>
      refine Mine.KS.mk ?_ ?_ ?_ ?_ ?_ ?_ ?_ ?_ ?_ ?_ ?_ ?_ ?_ ?_ ?_ ?_ ?_ ?_ ?_ ?_ ?_ ?_
      all_goals first
        | (show Mine.KCls _ _; constructor <;> kernel_rfl)
        | (show Mine.KSlot _ _ _ _ _; constructor <;> first | decide | kernel_rfl)
        | (show Mine.KMeth _ _ _ _; refine Mine.meth_of ?_ ?_ ?_ ?_ ?_ ?_ ?_ ?_ <;> kernel_rfl)
        | (show Mine.FnK _ _ _ _; exact ⟨⟨_, _, rfl, rfl, rfl, rfl, rfl, rfl, rfl, rfl, rfl, rfl, by kernel_rfl⟩⟩)
        | kernel_rfl
    all_goals first
      | (show Mine.KMeth _ _ _ _; refine Mine.meth_of ?_ ?_ ?_ ?_ ?_ ?_ ?_ ?_ <;> kernel_rfl)
      | (show Mine.FnK _ _ _ _; exact ⟨⟨_, _, rfl, rfl, rfl, rfl, rfl, rfl, rfl, rfl, rfl, rfl, by kernel_rfl⟩⟩)
      | kernel_rfl
