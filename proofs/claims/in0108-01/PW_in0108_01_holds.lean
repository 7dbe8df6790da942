import PyProof.Rows.All
import Wide.All
import OpenK.AllK
import Wide.FinOn
import PySem.Challenge.RW_in0108_01
open PySem PySem.W PyProof.Rows PySem.Calls PySem.Spec
set_option Elab.async false
namespace Mine

/-- data by value -/
inductive AV where
  | dat (d : PyData)
  | ref (n : Nat)
  | bnd (n : Nat)
  | rng (n : Int)
  | vals (n : Nat)
  | typ (t : String)
  | slc (lo hi : Option Int)
  | ext (a : Addr)

/-- the tracked objects -/
inductive AO where
  | list (l : List AV)
  | dict (l : List (Int × AV))
  | pdict (l : List (Int × AV))
  | set (l : List Int)
  | atts (l : List AV)
  | inst (dx : Nat)
  | info (l : List AV)
  | iter (r i : Nat)
  | cell (v : Option AV)
  | dead

noncomputable def AO.pinned : AO → Bool
  | .pdict _ => true
  | _ => false

structure St where
  loc : List (Option AV)
  heap : List AO

noncomputable abbrev AM (β : Type) := St → Option (β × St)
noncomputable def AM.pure {β : Type} (b : β) : AM β := fun st => some (b, st)
noncomputable def AM.bind {β γ : Type} (m : AM β) (k : β → AM γ) : AM γ := fun st => match m st with
  | none => none
  | some (b, st') => k b st'
noncomputable def AM.fail {β : Type} : AM β := fun _ => none

inductive AF where
  | next | brk | cont
  | ret (v : AV)

inductive A2 {α β : Type} (R : α → β → Prop) : List α → List β → Prop
  | nil : A2 R [] []
  | cons {a b as bs} : R a b → A2 R as bs → A2 R (a :: as) (b :: bs)

theorem A2.mono {α β : Type} {R R' : α → β → Prop} (h : ∀ a b, R a b → R' a b) {l : List α} {l' : List β} (x : A2 R l l') : A2 R' l l' := by
  induction x with
  | nil => exact .nil
  | cons h1 _ ih => exact .cons (h _ _ h1) ih
theorem A2.mono' {α β : Type} {R R' : α → β → Prop} {l : List α} {l' : List β} (x : A2 R l l') (h : ∀ a ∈ l, ∀ b, R a b → R' a b) : A2 R' l l' := by
  induction x with
  | nil => exact .nil
  | cons h1 _ ih => exact .cons (h _ (.head _) _ h1) (ih fun a ha => h a (.tail _ ha))
theorem A2.length {α β : Type} {R : α → β → Prop} {l : List α} {l' : List β} (x : A2 R l l') : l.length = l'.length := by
  induction x with
  | nil => rfl
  | cons _ _ ih => simp [ih]
theorem A2.get {α β : Type} {R : α → β → Prop} {l : List α} {l' : List β} (x : A2 R l l') : ∀ {i : Nat} {b : β}, l'[i]? = some b → ∃ a, l[i]? = some a ∧ R a b := by
  induction x with
  | nil => intro i b h; simp at h
  | cons h1 _ ih =>
    intro i b h
    cases i with
    | zero => simp at h; subst h; exact ⟨_, by simp, h1⟩
    | succ i => simp at h; obtain ⟨a, ha, hr⟩ := ih h; exact ⟨a, by simpa using ha, hr⟩
theorem A2.getL {α β : Type} {R : α → β → Prop} {l : List α} {l' : List β} (x : A2 R l l') : ∀ {i : Nat} {a : α}, l[i]? = some a → ∃ b, l'[i]? = some b ∧ R a b := by
  induction x with
  | nil => intro i b h; simp at h
  | cons h1 _ ih =>
    intro i b h
    cases i with
    | zero => simp at h; subst h; exact ⟨_, by simp, h1⟩
    | succ i => simp at h; obtain ⟨a, ha, hr⟩ := ih h; exact ⟨a, by simpa using ha, hr⟩
theorem A2.append {α β : Type} {R : α → β → Prop} {l k : List α} {l' k' : List β} (x : A2 R l l') (y : A2 R k k') : A2 R (l ++ k) (l' ++ k') := by
  induction x with
  | nil => exact y
  | cons h _ ih => exact .cons h ih
theorem A2.set {α β : Type} {R : α → β → Prop} {l : List α} {l' : List β} (x : A2 R l l') {a : α} {b : β} (h : R a b) : ∀ i : Nat, A2 R (l.set i a) (l'.set i b) := by
  induction x with
  | nil => intro i; exact .nil
  | cons h1 h2 ih =>
    intro i
    cases i with
    | zero => exact .cons h h2
    | succ i => exact .cons h1 (ih i)
theorem A2.drop {α β : Type} {R : α → β → Prop} {l : List α} {l' : List β} (x : A2 R l l') : ∀ n, A2 R (l.drop n) (l'.drop n) := by
  induction x with
  | nil => intro n; simp; exact .nil
  | cons h1 h2 ih => intro n; cases n with
    | zero => exact .cons h1 h2
    | succ n => exact ih n
theorem A2.take {α β : Type} {R : α → β → Prop} {l : List α} {l' : List β} (x : A2 R l l') : ∀ n, A2 R (l.take n) (l'.take n) := by
  induction x with
  | nil => intro n; simp; exact .nil
  | cons h1 h2 ih => intro n; cases n with
    | zero => exact .nil
    | succ n => exact .cons h1 (ih n)

/-- what is known of the world: the tracked addresses, the frozen objects -/
structure WS where
  sig : List Addr
  frz : List (Addr × Obj)

structure WS.le (W W' : WS) : Prop where
  sig : ∀ (i : Nat) (a : Addr), W.sig[i]? = some a → W'.sig[i]? = some a
  frz : ∀ p ∈ W.frz, p ∈ W'.frz
theorem WS.le.refl (W : WS) : W.le W := ⟨fun _ _ h => h, fun _ h => h⟩
theorem WS.le.trans {W W' W'' : WS} (x : W.le W') (y : W'.le W'') : W.le W'' := ⟨fun i a h => y.sig i a (x.sig i a h), fun p h => y.frz p (x.frz p h)⟩

mutual
inductive RD (frz : List (Addr × Obj)) : Value → PyData → Prop
  | none : RD frz .none .none
  | bool (b) : RD frz (.bool b) (.bool b)
  | int (i t) : RD frz (.int i t) (.int i)
  | str (x t) : RD frz (.str x t) (.str x)
  | list {a vs n ds} : (a, ({ cls := .type "list", data := .seq vs n } : Obj)) ∈ frz → RDs frz vs.toList ds → RD frz (.ref a) (.list ds)
  | tuple {a vs n ds} : (a, ({ cls := .type "tuple", data := .seq vs n } : Obj)) ∈ frz → RDs frz vs.toList ds → RD frz (.ref a) (.tuple ds)
inductive RDs (frz : List (Addr × Obj)) : List Value → List PyData → Prop
  | nil : RDs frz [] []
  | cons {v vs d ds} : RD frz v d → RDs frz vs ds → RDs frz (v :: vs) (d :: ds)
end

mutual
theorem RD.mono {frz frz' : List (Addr × Obj)} (h : ∀ p ∈ frz, p ∈ frz') {v : Value} {d : PyData} : RD frz v d → RD frz' v d
  | .none => .none
  | .bool b => .bool b
  | .int i t => .int i t
  | .str x t => .str x t
  | .list hm hs => .list (h _ hm) (RDs.mono h hs)
  | .tuple hm hs => .tuple (h _ hm) (RDs.mono h hs)
theorem RDs.mono {frz frz' : List (Addr × Obj)} (h : ∀ p ∈ frz, p ∈ frz') {vs : List Value} {ds : List PyData} : RDs frz vs ds → RDs frz' vs ds
  | .nil => .nil
  | .cons h1 h2 => .cons (RD.mono h h1) (RDs.mono h h2)
end
mutual
theorem RD.reads {frz : List (Addr × Obj)} {h : Heap} (k : ∀ p ∈ frz, h.get? p.1 = some p.2) {v : Value} {d : PyData} : RD frz v d → ∃ as, Reads h v d as
  | .none => ⟨[], .none⟩
  | .bool b => ⟨[], .bool b⟩
  | .int i t => ⟨[], .int i t⟩
  | .str x t => ⟨[], .str x t⟩
  | .list hm hs => by
    obtain ⟨as, ra⟩ := RDs.reads k hs
    exact ⟨_, .list (k _ hm) rfl rfl ra⟩
  | .tuple hm hs => by
    obtain ⟨as, ra⟩ := RDs.reads k hs
    exact ⟨_, .tuple (k _ hm) rfl rfl ra⟩
theorem RDs.reads {frz : List (Addr × Obj)} {h : Heap} (k : ∀ p ∈ frz, h.get? p.1 = some p.2) {vs : List Value} {ds : List PyData} : RDs frz vs ds → ∃ as, ReadsAll h vs ds as
  | .nil => ⟨[], .nil⟩
  | .cons h1 h2 => by
    obtain ⟨as, ra⟩ := RD.reads k h1
    obtain ⟨bs, rb⟩ := RDs.reads k h2
    exact ⟨_, .cons ra rb⟩
end
theorem RDs.length {frz : List (Addr × Obj)} {vs : List Value} {ds : List PyData} (x : RDs frz vs ds) : vs.length = ds.length := by
  induction vs generalizing ds with
  | nil => cases x; rfl
  | cons v vs ih => cases x with | cons _ h => simp [ih h]

noncomputable def wrapO (a : Addr) : Obj := { cls := .type "method-wrapper", data := .fields #[.builtin "list_iterator.__next__", .ref a] }

noncomputable def RngIs (o : Obj) (n : Int) : Prop := ∃ t u v, o = { cls := .type "range", data := .fields #[.int 0 t, .int n u, .int 1 v] }
noncomputable def valsO (a : Addr) : Obj := { cls := .type "dict_values", data := .fields #[.ref a] }
noncomputable def slcO (vl vu : Value) : Obj := { cls := .type "slice", data := .fields #[vl, vu, .none] }
noncomputable def RV (W : WS) (v : Value) : AV → Prop
  | .dat d => RD W.frz v d
  | .ref i => ∃ a, W.sig[i]? = some a ∧ v = .ref a
  | .bnd i => ∃ a b, W.sig[i]? = some a ∧ v = .ref b ∧ (b, wrapO a) ∈ W.frz
  | .rng n => ∃ b o, v = .ref b ∧ (b, o) ∈ W.frz ∧ RngIs o n
  | .vals i => ∃ a b, W.sig[i]? = some a ∧ v = .ref b ∧ (b, valsO a) ∈ W.frz
  | .typ t => v = .type t
  | .slc lo hi => ∃ b vl vu, v = .ref b ∧ (b, slcO vl vu) ∈ W.frz ∧ IsPart vl lo ∧ IsPart vu hi
  | .ext a => v = .ref a

theorem RV.mono {W W' : WS} (h : W.le W') {v : Value} {av : AV} (x : RV W v av) : RV W' v av := by
  cases av with
  | dat d => exact RD.mono h.frz x
  | ref i => obtain ⟨a, h1, h2⟩ := x; exact ⟨a, h.sig _ _ h1, h2⟩
  | bnd i => obtain ⟨a, b, h1, h2, h3⟩ := x; exact ⟨a, b, h.sig _ _ h1, h2, h.frz _ h3⟩
  | rng n => obtain ⟨b, o, h2, h3, h4⟩ := x; exact ⟨b, o, h2, h.frz _ h3, h4⟩
  | vals i => obtain ⟨a, b, h1, h2, h3⟩ := x; exact ⟨a, b, h.sig _ _ h1, h2, h.frz _ h3⟩
  | typ t => exact x
  | slc lo hi => obtain ⟨b, vl, vu, e, h1, h2, h3⟩ := x; exact ⟨b, vl, vu, e, h.frz _ h1, h2, h3⟩
  | ext a => exact x

noncomputable abbrev RVs (W : WS) : List Value → List AV → Prop := A2 (RV W)
theorem RVs.mono {W W' : WS} (h : W.le W') {vs : List Value} {l : List AV} (x : RVs W vs l) : RVs W' vs l := A2.mono (fun _ _ y => y.mono h) x

end Mine

open PySem PySem.W PyProof.Rows PySem.Calls PySem.Spec
set_option Elab.async false
namespace Mine

noncomputable def cInfo : Addr := 40
noncomputable def cTop : Addr := 137
noncomputable def attNames : List Str := [Str.ofString "_node2info", Str.ofString "_ready_nodes", Str.ofString "_npassedout", Str.ofString "_nfinished"]

section
variable (prog : Program) (w : World)

noncomputable def RO (W : WS) (o : Obj) : AO → Prop
  | .list l => ∃ vs n, o = { cls := .type "list", data := .seq vs n } ∧ RVs W vs.toList l
  | .dict l => ∃ kvs : List (Int × Value), o.IsDictOf (intKind prog w) kvs ∧ A2 (fun kv p => kv.1 = p.1 ∧ RV W kv.2 p.2) kvs l
  | .pdict l => ∃ kvs : List (Int × Value), o.IsDictOf (intKind prog w) kvs ∧ A2 (fun kv p => kv.1 = p.1 ∧ RV W kv.2 p.2) kvs l
  | .set l => o.SetObjOf (intKind prog w) (fun k => l.contains k) l.length
  | .atts l => ∃ es n, o = dictOf es n ∧ l.length ≤ 4 ∧ A2 (fun (e : DictEntry) (p : Str × AV) => (∃ t, e.key = .str p.1 t) ∧ RV W e.val p.2) es (attNames.zip l)
  | .inst i => ∃ dx, W.sig[i]? = some dx ∧ o = instObj cTop dx
  | .info l => ∃ dx vs, o = { cls := .ref cInfo, dict := some dx, data := .plain, slots := (vs.map some).toArray } ∧ (dx, emptyDict) ∈ W.frz ∧ RVs W vs l
  | .iter r i => ∃ a, W.sig[r]? = some a ∧ o = { cls := .type "list_iterator", data := .fields #[.ref a, .int i 0] }
  | .cell v => ∃ x, o.data = .cell x ∧ match v with
    | none => True
    | some av => ∃ y, x = some y ∧ RV W y av
  | .dead => True

theorem RO.mono {W W' : WS} (h : W.le W') {o : Obj} {ao : AO} (x : RO prog w W o ao) : RO prog w W' o ao := by
  cases ao with
  | list l => obtain ⟨vs, n, e, r⟩ := x; exact ⟨vs, n, e, r.mono h⟩
  | dict l => obtain ⟨kvs, e, r⟩ := x; exact ⟨kvs, e, r.mono fun _ _ y => ⟨y.1, y.2.mono h⟩⟩
  | pdict l => obtain ⟨kvs, e, r⟩ := x; exact ⟨kvs, e, r.mono fun _ _ y => ⟨y.1, y.2.mono h⟩⟩
  | set l => exact x
  | atts l => obtain ⟨es, n, e, hl, r⟩ := x; exact ⟨es, n, e, hl, r.mono fun _ _ y => ⟨y.1, y.2.mono h⟩⟩
  | inst i => obtain ⟨dx, e, r⟩ := x; exact ⟨dx, h.sig _ _ e, r⟩
  | info l => obtain ⟨dx, vs, e, m, r⟩ := x; exact ⟨dx, vs, e, h.frz _ m, r.mono h⟩
  | iter r i => obtain ⟨a, e, y⟩ := x; exact ⟨a, h.sig _ _ e, y⟩
  | cell v =>
    obtain ⟨y, e, z⟩ := x
    refine ⟨y, e, ?_⟩
    cases v with
    | none => trivial
    | some av => obtain ⟨u, e', r⟩ := z; exact ⟨u, e', r.mono h⟩
  | dead => trivial

structure Act where
  L : Addr
  env : Env
  envs : List Env
  vars : List (Str × Option Addr)
  dep : Nat
  un : Nat
  ups : List (Addr × Obj)
  gn : Nat
noncomputable def Act.own (C : Act) : List Addr := [C.L]

noncomputable def Loc (C : Act) (W : WS) (m : Str → Option Value) (loc : List (Option AV)) : Prop :=
  ∀ (i : Nat) (x : Str) (oc : Option Addr), C.vars[i]? = some (x, oc) → ∀ av, loc[i]? = some (some av) → match oc with
      | none => ∃ v, RV W v av ∧ m x = some v
      | some c => ∃ r, av = .ref r ∧ W.sig[r]? = some c

theorem gd {a b : Array GenState} {n : Nat} (h : a = b) (x : AllBare b ∧ n ≤ b.size) : AllBare a ∧ n ≤ a.size := h ▸ x
/-- what holds between two steps -/
structure Inv (h₀ : Heap) (os₀ : OsState × Drawn) (C : Act) (kp pn : List (Addr × Obj)) (W : WS) (s : Shared) (st : St) : Prop where
  base : h₀.StaysIn s.heap
  ns : ∃ m, s.heap.Ns C.L m ∧ Loc C W m st.loc
  trk : A2 (fun a ao => ∃ o, s.heap.get? a = some o ∧ RO prog w W o ao) W.sig st.heap
  frz : ∀ p ∈ W.frz, s.heap.get? p.1 = some p.2
  kept : ∀ p ∈ kp, s.heap.get? p.1 = some p.2
  ups : ∀ p ∈ C.ups, ∃ sl, s.heap.get? p.1 = some { p.2 with slots := sl }
  apart : (C.own ++ W.sig).Nodup
  old : ∀ a ∈ C.own ++ W.sig, h₀.objs.size ≤ a
  sep : ∀ a ∈ C.own ++ W.sig, (∀ p ∈ W.frz, p.1 ≠ a) ∧ (∀ p ∈ kp, p.1 ≠ a) ∧ (∀ p ∈ C.ups, p.1 ≠ a)
  fk : ∀ p ∈ W.frz, ∀ q ∈ kp, p.1 ≠ q.1
  fu : ∀ p ∈ W.frz, ∀ q ∈ C.ups, p.1 ≠ q.1
  upp : ∀ q ∈ C.ups, h₀.objs.size ≤ q.1 ∧ (∃ es ep, q.2.data = .dict es ep) ∧ (∀ p ∈ kp, p.1 ≠ q.1) ∧ ∀ p ∈ pn, p.1 ≠ q.1
  pin : ∀ p ∈ pn, s.heap.get? p.1 = some p.2
  sepp : ∀ p ∈ pn, (∀ a ∈ C.own, p.1 ≠ a) ∧ ∀ (i : Nat) (a : Addr) (ao : AO), W.sig[i]? = some a → st.heap[i]? = some ao → ao.pinned = false → p.1 ≠ a
  gens : AllBare s.gens ∧ C.gn ≤ s.gens.size
  os : (s.os, s.drawn) = os₀
end

section
variable {prog : Program} {w : World} {h₀ : Heap} {os₀ : OsState × Drawn} {C : Act} {kp pn : List (Addr × Obj)} {W : WS} {s s' : Shared} {st : St}

theorem Loc.mono {W' : WS} {m : Str → Option Value} {loc : List (Option AV)} (x : Loc C W m loc) (hW : W.le W') : Loc C W' m loc := by
  intro i y oc hv av hl
  have z := x i y oc hv av hl
  cases oc with
  | none => obtain ⟨v, r, e⟩ := z; exact ⟨v, r.mono hW, e⟩
  | some c => obtain ⟨r, e, h⟩ := z; exact ⟨r, e, hW.sig _ _ h⟩

theorem Inv.L_lt (I : Inv prog w h₀ os₀ C kp pn W s st) : C.L < s.heap.objs.size := by obtain ⟨m, hn, _⟩ := I.ns; exact hn.lt
theorem Inv.own_lt (I : Inv prog w h₀ os₀ C kp pn W s st) : ∀ a ∈ C.own ++ W.sig, a < s.heap.objs.size := by
  intro a ha
  rcases List.mem_append.mp ha with ha | ha
  · rw [List.mem_singleton.mp ha]; exact I.L_lt
  · obtain ⟨i, hi⟩ := List.mem_iff_getElem?.mp ha
    obtain ⟨ao, _, o, ho, _⟩ := I.trk.getL hi
    exact Heap.lt_size ho
theorem Inv.frz_lt (I : Inv prog w h₀ os₀ C kp pn W s st) : ∀ p ∈ W.frz, p.1 < s.heap.objs.size := fun p hp => Heap.lt_size (I.frz p hp)
theorem Inv.kept_lt (I : Inv prog w h₀ os₀ C kp pn W s st) : ∀ p ∈ kp, p.1 < s.heap.objs.size := fun p hp => Heap.lt_size (I.kept p hp)
theorem Inv.ups_lt (I : Inv prog w h₀ os₀ C kp pn W s st) : ∀ p ∈ C.ups, p.1 < s.heap.objs.size := fun p hp => let ⟨_, h⟩ := I.ups p hp; Heap.lt_size h
theorem Inv.base_lt (I : Inv prog w h₀ os₀ C kp pn W s st) : h₀.objs.size ≤ s.heap.objs.size := Nat.le_of_lt (Nat.lt_of_le_of_lt (I.old C.L (List.mem_append_left _ (.head _))) I.L_lt)
theorem old_ne {h₀ : Heap} {a b : Addr} {o : Obj} (ha : h₀.objs.size ≤ a) (e : h₀.get? b = some o) : b ≠ a := fun q => absurd (Heap.lt_size e) (by rw [q]; exact Nat.not_lt.mpr ha)

/-- nothing that is told of changes; more may be frozen -/
theorem Inv.keep (I : Inv prog w h₀ os₀ C kp pn W s st) (hk : ∀ b o, s.heap.get? b = some o → s'.heap.get? b = some o) (hg : s'.gens = s.gens := by rfl) (ho : (s'.os, s'.drawn) = (s.os, s.drawn) := by rfl) :
    Inv prog w h₀ os₀ C kp pn W s' st where
  base := fun b o e => hk b o (I.base b o e)
  ns := by
    obtain ⟨m, hn, l⟩ := I.ns
    exact ⟨m, hn.keeps hk, l⟩
  trk := I.trk.mono fun a ao ⟨o, h, r⟩ => ⟨o, hk _ _ h, r⟩
  frz := fun p hp => hk _ _ (I.frz p hp)
  kept := fun p hp => hk _ _ (I.kept p hp)
  ups := fun p hp => let ⟨sl, h⟩ := I.ups p hp; ⟨sl, hk _ _ h⟩
  apart := I.apart
  old := I.old
  sep := I.sep
  fk := I.fk
  fu := I.fu
  upp := I.upp
  pin := fun p hp => hk _ _ (I.pin p hp)
  sepp := I.sepp
  gens := gd hg I.gens
  os := ho.trans I.os

/-- one more frozen object, new -/
theorem Inv.freeze (I : Inv prog w h₀ os₀ C kp pn W s st) {a : Addr} {o : Obj} (ha : s.heap.get? a = some o) (hs : ∀ b ∈ C.own ++ W.sig, a ≠ b) (hk : ∀ q ∈ kp, a ≠ q.1) (hu : ∀ q ∈ C.ups, a ≠ q.1) :
    Inv prog w h₀ os₀ C kp pn ⟨W.sig, (a, o) :: W.frz⟩ s st ∧ W.le ⟨W.sig, (a, o) :: W.frz⟩ := by
  have le : W.le ⟨W.sig, (a, o) :: W.frz⟩ := ⟨fun _ _ h => h, fun _ h => .tail _ h⟩
  refine ⟨⟨I.base, ?_, I.trk.mono fun a ao ⟨o, h, r⟩ => ⟨o, h, r.mono prog w le⟩, ?_, I.kept, I.ups, I.apart, I.old, ?_, ?_, ?_, I.upp, I.pin, I.sepp, I.gens, I.os⟩, le⟩
  · obtain ⟨m, hn, l⟩ := I.ns; exact ⟨m, hn, l.mono le⟩
  · intro p hp
    rcases List.mem_cons.mp hp with rfl | hp
    · exact ha
    · exact I.frz p hp
  · intro b hb
    refine ⟨fun p hp => ?_, (I.sep b hb).2⟩
    rcases List.mem_cons.mp hp with rfl | hp
    · exact hs b hb
    · exact (I.sep b hb).1 p hp
  · intro p hp
    rcases List.mem_cons.mp hp with rfl | hp
    · exact hk
    · exact I.fk p hp
  · intro p hp
    rcases List.mem_cons.mp hp with rfl | hp
    · exact hu
    · exact I.fu p hp

/-- a new object, frozen -/
theorem Inv.push (I : Inv prog w h₀ os₀ C kp pn W s st) (o : Obj) (hh : s'.heap = s.heap.push o) (hf : o.isFreed = false := by rfl) (hg : s'.gens = s.gens := by rfl) (ho : (s'.os, s'.drawn) = (s.os, s.drawn) := by rfl) :
    Inv prog w h₀ os₀ C kp pn ⟨W.sig, (s.heap.objs.size, o) :: W.frz⟩ s' st ∧ W.le ⟨W.sig, (s.heap.objs.size, o) :: W.frz⟩ := by
  have I' : Inv prog w h₀ os₀ C kp pn W s' st := I.keep (fun b o' e => by rw [hh]; exact Heap.get?_push_of_some o e) hg ho
  refine I'.freeze (by rw [hh]; exact Heap.get?_push_size _ hf) (fun b hb e => ?_) (fun q hq e => ?_) fun q hq e => ?_
  · exact absurd (I.own_lt b hb) (by rw [← e]; exact Nat.lt_irrefl _)
  · exact absurd (I.kept_lt q hq) (by rw [← e]; exact Nat.lt_irrefl _)
  · exact absurd (I.ups_lt q hq) (by rw [← e]; exact Nat.lt_irrefl _)

/-- a new object, tracked -/
theorem Inv.track (I : Inv prog w h₀ os₀ C kp pn W s st) {a : Addr} {o : Obj} {ao : AO} (ha : s.heap.get? a = some o) (hs : ∀ b ∈ C.own ++ W.sig, a ≠ b) (h0 : h₀.objs.size ≤ a)
    (h1 : ∀ p ∈ W.frz, p.1 ≠ a) (h2 : ∀ p ∈ kp, p.1 ≠ a) (h3 : ∀ p ∈ C.ups, p.1 ≠ a) (h4 : ∀ p ∈ pn, p.1 ≠ a) (hr : W.le ⟨W.sig ++ [a], W.frz⟩ → RO prog w ⟨W.sig ++ [a], W.frz⟩ o ao) :
    Inv prog w h₀ os₀ C kp pn ⟨W.sig ++ [a], W.frz⟩ s ⟨st.loc, st.heap ++ [ao]⟩ ∧ W.le ⟨W.sig ++ [a], W.frz⟩ := by
  have le : W.le ⟨W.sig ++ [a], W.frz⟩ := ⟨fun i b h => by
    have := (List.getElem?_eq_some_iff.mp h).1
    show (W.sig ++ [a])[i]? = _
    rw [List.getElem?_append_left this]; exact h, fun _ h => h⟩
  refine ⟨⟨I.base, ?_, ?_, I.frz, I.kept, I.ups, ?_, ?_, ?_, I.fk, I.fu, I.upp, I.pin, ?_, I.gens, I.os⟩, le⟩
  · obtain ⟨m, hn, l⟩ := I.ns; exact ⟨m, hn, l.mono le⟩
  · exact (I.trk.mono fun a ao ⟨o, h, r⟩ => ⟨o, h, r.mono prog w le⟩).append (.cons ⟨o, ha, hr le⟩ .nil)
  · show (C.own ++ (W.sig ++ [a])).Nodup
    rw [← List.append_assoc]
    refine List.nodup_append.mpr ⟨I.apart, by simp, fun b hb c hc => ?_⟩
    rw [List.mem_singleton.mp hc]; exact (hs b hb).symm
  · intro b hb
    rw [← List.append_assoc] at hb
    rcases List.mem_append.mp hb with hb | hb
    · exact I.old b hb
    · rw [List.mem_singleton.mp hb]; exact h0
  · intro b hb
    rw [← List.append_assoc] at hb
    rcases List.mem_append.mp hb with hb | hb
    · exact I.sep b hb
    · rw [List.mem_singleton.mp hb]; exact ⟨h1, h2, h3⟩
  · intro p hp
    refine ⟨(I.sepp p hp).1, fun i b ao' hi ha' hpn => ?_⟩
    have ln := I.trk.length
    by_cases hlt : i < W.sig.length
    · exact (I.sepp p hp).2 i b ao' (by rw [← hi]; exact (List.getElem?_append_left hlt).symm) (by rw [← ha']; exact (List.getElem?_append_left (ln ▸ hlt)).symm) hpn
    · have : b = a := by
        simp only at hi
        rw [List.getElem?_append_right (Nat.le_of_not_lt hlt)] at hi
        have := List.mem_of_getElem? hi
        exact List.mem_singleton.mp this
      subst this; exact h4 p hp
theorem Inv.pushT (I : Inv prog w h₀ os₀ C kp pn W s st) (o : Obj) (ao : AO) (hh : s'.heap = s.heap.push o) (hr : W.le ⟨W.sig ++ [s.heap.objs.size], W.frz⟩ → RO prog w ⟨W.sig ++ [s.heap.objs.size], W.frz⟩ o ao)
    (hf : o.isFreed = false := by rfl) (hg : s'.gens = s.gens := by rfl) (ho : (s'.os, s'.drawn) = (s.os, s.drawn) := by rfl) :
    Inv prog w h₀ os₀ C kp pn ⟨W.sig ++ [s.heap.objs.size], W.frz⟩ s' ⟨st.loc, st.heap ++ [ao]⟩ ∧ W.le ⟨W.sig ++ [s.heap.objs.size], W.frz⟩ := by
  have I' : Inv prog w h₀ os₀ C kp pn W s' st := I.keep (fun b o' e => by rw [hh]; exact Heap.get?_push_of_some o e) hg ho
  refine I'.track (by rw [hh]; exact Heap.get?_push_size _ hf) (fun b hb e => ?_) I.base_lt (fun p hp e => ?_) (fun p hp e => ?_) (fun p hp e => ?_) (fun p hp e => ?_) hr
  · exact absurd (I.own_lt b hb) (by rw [← e]; exact Nat.lt_irrefl _)
  · exact absurd (I.frz_lt p hp) (by rw [e]; exact Nat.lt_irrefl _)
  · exact absurd (I.kept_lt p hp) (by rw [e]; exact Nat.lt_irrefl _)
  · exact absurd (I.ups_lt p hp) (by rw [e]; exact Nat.lt_irrefl _)
  · exact absurd (Heap.lt_size (I.pin p hp)) (by rw [e]; exact Nat.lt_irrefl _)

theorem nodup_get_ne {α : Type} {l : List α} (h : l.Nodup) {i j : Nat} {a b : α} (hi : l[i]? = some a) (hj : l[j]? = some b) (hij : i ≠ j) : a ≠ b := by
  intro e; subst e
  obtain ⟨hi1, hi2⟩ := List.getElem?_eq_some_iff.mp hi
  obtain ⟨hj1, hj2⟩ := List.getElem?_eq_some_iff.mp hj
  exact hij ((List.getElem_inj h).mp (hi2.trans hj2.symm))

theorem A2.setIdx {α β : Type} {R R' : α → β → Prop} {l : List α} {l' : List β} {i : Nat} {b : β} (x : A2 R l l')
    (h : ∀ j a c, l[j]? = some a → l'[j]? = some c → j ≠ i → R a c → R' a c) (hi : ∀ a c, l[i]? = some a → l'[i]? = some c → R a c → R' a b) : A2 R' l (l'.set i b) := by
  induction x generalizing i with
  | nil => exact .nil
  | cons h1 h2 ih =>
    cases i with
    | zero =>
      refine .cons (hi _ _ rfl rfl h1) ?_
      have h' : ∀ j a c, _ → _ → _ → _ := fun j a c e1 e2 r => h (j + 1) a c (by simpa using e1) (by simpa using e2) (by simp) r
      clear ih hi h1 h
      rename_i as bs
      revert h'
      induction h2 with
      | nil => intro _; exact .nil
      | cons g1 g2 ih2 =>
        intro h'
        refine .cons (h' 0 _ _ rfl rfl g1) (ih2 fun j a c e1 e2 r => h' (j + 1) a c (by simpa using e1) (by simpa using e2) r)
    | succ i =>
      refine .cons (h 0 _ _ rfl rfl (by simp) h1) (ih (fun j a c e1 e2 ne r => h (j + 1) a c (by simpa using e1) (by simpa using e2) (by omega) r) fun a c e1 e2 r => hi a c (by simpa using e1) (by simpa using e2) r)

/-- a tracked object turned -/
theorem Inv.turn (I : Inv prog w h₀ os₀ C kp pn W s st) {i : Nat} {a : Addr} {o' : Obj} {ao ao₀ : AO} (ha : W.sig[i]? = some a) (ha0 : st.heap[i]? = some ao₀) (hpn : ao₀.pinned = false) (hs : ∀ b o, b ≠ a → s.heap.get? b = some o → s'.heap.get? b = some o)
    (ho' : s'.heap.get? a = some o') (hr : RO prog w W o' ao) (hg : s'.gens = s.gens := by rfl) (ho : (s'.os, s'.drawn) = (s.os, s.drawn) := by rfl) :
    Inv prog w h₀ os₀ C kp pn W s' ⟨st.loc, st.heap.set i ao⟩ := by
  have hm : a ∈ C.own ++ W.sig := List.mem_append_right _ (List.mem_of_getElem? ha)
  have hown : ∀ b ∈ C.own, b ≠ a := fun b hb e => by
    have := (List.nodup_append.mp I.apart).2.2 b hb a (List.mem_of_getElem? ha)
    exact this e
  refine ⟨fun b o e => hs b o (old_ne (I.old a hm) e) (I.base b o e), ?_, ?_, fun p hp => hs _ _ ((I.sep a hm).1 p hp) (I.frz p hp), fun p hp => hs _ _ ((I.sep a hm).2.1 p hp) (I.kept p hp),
    fun p hp => let ⟨sl, h⟩ := I.ups p hp; ⟨sl, hs _ _ ((I.sep a hm).2.2 p hp) h⟩, I.apart, I.old, I.sep, I.fk, I.fu, I.upp, fun p hp => hs _ _ ((I.sepp p hp).2 i a ao₀ ha ha0 hpn) (I.pin p hp), ?_, gd hg I.gens, ho.trans I.os⟩
  · obtain ⟨m, ⟨o, es, ep, e1, e2⟩, l⟩ := I.ns
    exact ⟨m, ⟨o, es, ep, hs _ _ (hown _ (.head _)) e1, e2⟩, l⟩
  · have nd := (List.nodup_append.mp I.apart).2.1
    refine I.trk.setIdx (fun j b ao' hj _ ne ⟨o, x1, x2⟩ => ⟨o, hs _ _ (nodup_get_ne nd hj ha ne) x1, x2⟩) fun b c hb _ _ => ?_
    rw [ha] at hb; cases hb
    exact ⟨o', ho', hr⟩
  · intro p hp
    refine ⟨(I.sepp p hp).1, fun j b ao' hj ha' hp' => ?_⟩
    by_cases hji : j = i
    · subst hji
      rw [ha] at hj; cases hj
      exact (I.sepp p hp).2 j a ao₀ ha ha0 hpn
    · exact (I.sepp p hp).2 j b ao' hj (by rw [← ha']; exact (List.getElem?_set_ne (Ne.symm hji)).symm) hp'

/-- a local name stored -/
theorem Inv.storeL (I : Inv prog w h₀ os₀ C kp pn W s st) {i : Nat} {x : Str} {v : Value} {av : AV} {m m' : Str → Option Value} (hi : C.vars[i]? = some (x, none)) (hnd : (C.vars.map (·.1)).Nodup)
    (hn : s.heap.Ns C.L m) (hl : Loc C W m st.loc)
    (hs : Heap.SameBut C.L s.heap s'.heap) (hn' : s'.heap.Ns C.L m') (hm : m' = fun y => if y = x then some v else m y) (hr : RV W v av) (hg : s'.gens = s.gens := by rfl) (ho : (s'.os, s'.drawn) = (s.os, s.drawn) := by rfl) :
    Inv prog w h₀ os₀ C kp pn W s' ⟨st.loc.set i (some av), st.heap⟩ := by
  have hm0 : C.L ∈ C.own ++ W.sig := List.mem_append_left _ (.head _)
  have hk : ∀ b o, b ≠ C.L → s.heap.get? b = some o → s'.heap.get? b = some o := fun b o hb e => (hs.2 b hb).trans e
  have hsig : ∀ b ∈ W.sig, b ≠ C.L := fun b hb e => (List.nodup_append.mp I.apart).2.2 C.L (.head _) b hb e.symm
  refine ⟨fun b o e => hk b o (old_ne (I.old _ hm0) e) (I.base b o e), ⟨m', hn', ?_⟩,
    I.trk.mono' ?_, fun p hp => hk _ _ ((I.sep _ hm0).1 p hp) (I.frz p hp), fun p hp => hk _ _ ((I.sep _ hm0).2.1 p hp) (I.kept p hp),
    fun p hp => let ⟨sl, h⟩ := I.ups p hp; ⟨sl, hk _ _ ((I.sep _ hm0).2.2 p hp) h⟩, I.apart, I.old, I.sep, I.fk, I.fu, I.upp, fun p hp => hk _ _ ((I.sepp p hp).1 _ (.head _)) (I.pin p hp), I.sepp, gd hg I.gens, ho.trans I.os⟩
  · intro j y oc hv av' hl'
    by_cases hji : j = i
    · subst hji
      rw [hi] at hv; cases hv
      have : av' = av := by
        simp only at hl'
        rw [List.getElem?_set] at hl'
        split at hl'
        · split at hl' <;> simp_all
        · simp_all
      subst this
      exact ⟨v, hr, by subst hm; simp⟩
    · simp only at hl'
      rw [List.getElem?_set_ne (Ne.symm hji)] at hl'
      have z := hl j y oc hv av' hl'
      cases oc with
      | some c => exact z
      | none =>
        obtain ⟨v', r, z⟩ := z
        refine ⟨v', r, ?_⟩
        have : y ≠ x := nodup_get_ne hnd (by simp [hv]) (by simp [hi]) hji
        subst hm
        show (if y = x then _ else m y) = _
        rw [if_neg this]; exact z
  · intro a ha ao ⟨o, x1, x2⟩
    exact ⟨o, hk _ _ (hsig a ha) x1, x2⟩
end
end Mine

open PySem PySem.W PyProof.Rows PySem.Calls PySem.Spec
set_option Elab.async false
namespace Mine

structure Gl where
  prog : Program
  w : World
  h₀ : Heap
  os : OsState × Drawn
  K : Frag
  mg : Str → Option Value
  mb : Str → Option Value
structure Gl.Ok (G : Gl) : Prop where
  X : G.K.In G.h₀
  g : G.h₀.Ns mainGlobals G.mg
  b : G.h₀.Ns builtinsNs G.mb
  lim : G.h₀.NoLimit
  bl : ∀ x : Str, x ≠ "__name__" → G.mb x = bootBuiltins x
  sz : 100 ≤ G.h₀.objs.size
noncomputable abbrev Gl.M (G : Gl) : Model := model G.prog G.w
noncomputable abbrev Gl.I (G : Gl) (C : Act) (kp pn : List (Addr × Obj)) (W : WS) (s : Shared) (st : St) : Prop := Inv G.prog G.w G.h₀ G.os C kp pn W s st

structure AOk (C : Act) (hq : Bool) (A : Around) : Prop where
  fr : A.frames = some C.envs
  dep : A.depth ≤ C.dep
  un : A.units ≤ C.un
  hd : hq = true → A.handled = none
  fo : C.gn = 0 → ∀ env ∈ C.envs, env.scope.kind ≠ .module ∧ ∃ L, env.frame = some L ∧ (L = C.L ∨ ∃ p ∈ C.ups, p.1 = L)
theorem AOk.weak {C : Act} {hq : Bool} {A : Around} (h : AOk C hq A) : AOk C false A := ⟨h.fr, h.dep, h.un, (fun e => by cases e), h.fo⟩

structure Act.Ok (C : Act) : Prop where
  loc : C.env.locals = C.L
  kind : C.env.scope.kind = .function
  glo : C.env.globals = mainGlobals
  bui : C.env.builtins = builtinsNs
  nd : (C.vars.map (·.1)).Nodup
  un : C.un ≤ 5000
  dep : C.dep ≤ 600

noncomputable def Ref (G : Gl) (C : Act) (hq : Bool) {α β : Type} (t : Sem α) (RR : WS → α → β → Prop) (m : AM β) (Γ : List (Value × AV) := []) : Prop :=
  ∀ kp pn W s st A, AOk C hq A → G.I C kp pn W s st → (∀ p ∈ Γ, RV W p.1 p.2) → ∀ b st', m st = some (b, st') →
    wpAny G.M A t (fun a s' => ∃ W', W.le W' ∧ G.I C kp pn W' s' st' ∧ RR W' a b) (fun _ _ => False) s

noncomputable abbrev RB : WS → Bool → Bool → Prop := fun _ a b => a = b
noncomputable abbrev RU : WS → Unit → Unit → Prop := fun _ _ _ => True
noncomputable def RF (W : WS) : Flow → AF → Prop
  | .next, .next => True
  | .brk, .brk => True
  | .cont, .cont => True
  | .ret v, .ret av => RV W v av
  | _, _ => False
theorem RF.mono {W W' : WS} (h : W.le W') : ∀ {f : Flow} {af : AF}, RF W f af → RF W' f af
  | .next, .next, _ => trivial
  | .brk, .brk, _ => trivial
  | .cont, .cont, _ => trivial
  | .ret _, .ret _, x => RV.mono h x

theorem bind_some {β γ : Type} {m : AM β} {k : β → AM γ} {st : St} {r : γ × St} (h : AM.bind m k st = some r) : ∃ b st1, m st = some (b, st1) ∧ k b st1 = some r := by
  unfold AM.bind at h
  split at h
  · cases h
  · rename_i b st1 e; exact ⟨b, st1, e, h⟩
theorem pure_some {β : Type} {b b' : β} {st st' : St} (h : AM.pure b st = some (b', st')) : b' = b ∧ st' = st := by
  unfold AM.pure at h; cases h; exact ⟨rfl, rfl⟩

section
variable {G : Gl} {C : Act} {hq : Bool} {α β : Type} {Γ : List (Value × AV)}

theorem Ref.use {t : Sem α} {RR : WS → α → β → Prop} {m : AM β} (R : Ref G C hq t RR m Γ) {kp pn : List (Addr × Obj)} {W : WS} {s : Shared} {st st' : St} {A : Around} {b : β}
    (hA : AOk C hq A) (I : G.I C kp pn W s st) (hΓ : ∀ p ∈ Γ, RV W p.1 p.2) (hm : m st = some (b, st')) {Q : α → Shared → Prop} {E : Value → Shared → Prop}
    (k : ∀ a s' W', W.le W' → G.I C kp pn W' s' st' → RR W' a b → Q a s') : wpAny G.M A t Q E s :=
  wpAny_mono (R kp pn W s st A hA I hΓ b st' hm) (fun a s' ⟨W', h1, h2, h3⟩ => k a s' W' h1 h2 h3) fun _ _ h => h.elim
theorem Ref.use0 {t : Sem α} {RR : WS → α → β → Prop} {m : AM β} (R : Ref G C hq t RR m) {kp pn : List (Addr × Obj)} {W : WS} {s : Shared} {st st' : St} {A : Around} {b : β}
    (hA : AOk C hq A) (I : G.I C kp pn W s st) (hm : m st = some (b, st')) {Q : α → Shared → Prop} {E : Value → Shared → Prop}
    (k : ∀ a s' W', W.le W' → G.I C kp pn W' s' st' → RR W' a b → Q a s') : wpAny G.M A t Q E s := R.use hA I (fun _ h => nomatch h) hm k

theorem Inv.toks {kp pn : List (Addr × Obj)} {W : WS} {s s' : Shared} {st : St} (I : G.I C kp pn W s st) (hh : s'.heap = s.heap := by rfl) (hg : s'.gens = s.gens := by rfl) (ho : (s'.os, s'.drawn) = (s.os, s.drawn) := by rfl) : G.I C kp pn W s' st :=
  Inv.keep I (fun b o e => by rw [hh]; exact e) hg ho

theorem Ref.of_eq {t : Sem α} {RR : WS → α → β → Prop} {m m' : AM β} (R : Ref G C hq t RR m Γ) (h : m' = m) : Ref G C hq t RR m' Γ := h ▸ R
theorem Ref.weaken {t : Sem α} {RR : WS → α → β → Prop} {m : AM β} (R : Ref G C false t RR m Γ) : Ref G C hq t RR m Γ := fun kp pn W s st A hA => R kp pn W s st A hA.weak

/-! names -/
noncomputable def getL (i : Nat) : AM AV := fun st => match st.loc[i]? with
  | some (some av) => some (av, st)
  | _ => none
noncomputable def setL (i : Nat) (av : AV) : AM Unit := fun st => if i < st.loc.length then some ((), ⟨st.loc.set i (some av), st.heap⟩) else none

theorem getL_some {i : Nat} {st st' : St} {av : AV} (h : getL i st = some (av, st')) : st.loc[i]? = some (some av) ∧ st' = st := by
  unfold getL at h
  split at h
  · rename_i e; cases h; exact ⟨e, rfl⟩
  · cases h

theorem ref_load_local (hC : C.Ok) {i : Nat} {x : Str} (hi : C.vars[i]? = some (x, none)) (hl : C.env.kindOf x = some .local) : Ref G C hq (loadName C.env x) RV (getL i) := by
  intro kp pn W s st A hA I _ b st' hm
  obtain ⟨h1, rfl⟩ := getL_some hm
  obtain ⟨m, hn, l⟩ := I.ns
  obtain ⟨v, r, e⟩ := l i x none hi b h1
  exact wpAny_loadName_local hC.kind hl (hC.loc ▸ hn) e ⟨W, .refl _, I, r⟩
noncomputable def getC (i : Nat) : AM AV := fun st => match st.loc[i]? with
  | some (some (.ref r)) => match st.heap[r]? with
    | some (.cell (some av)) => some (av, st)
    | _ => none
  | _ => none
noncomputable def setC (i : Nat) (av : AV) : AM Unit := fun st => match st.loc[i]? with
  | some (some (.ref r)) => match st.heap[r]? with
    | some (.cell _) => some ((), ⟨st.loc, st.heap.set r (.cell (some av))⟩)
    | _ => none
  | _ => none
theorem getC_some {i : Nat} {st st' : St} {av : AV} (h : getC i st = some (av, st')) : st' = st ∧ ∃ r, st.loc[i]? = some (some (.ref r)) ∧ st.heap[r]? = some (.cell (some av)) := by
  unfold getC at h
  split at h
  · rename_i r e
    split at h
    · rename_i av' e'; cases h; exact ⟨rfl, r, e, e'⟩
    · cases h
  · cases h
theorem cell_of {kp pn : List (Addr × Obj)} {W : WS} {s : Shared} {st : St} (I : G.I C kp pn W s st) {i r : Nat} {x : Str} {c : Addr} {v : Option AV} (hi : C.vars[i]? = some (x, some c)) (h1 : st.loc[i]? = some (some (.ref r))) (h2 : st.heap[r]? = some (.cell v)) :
    W.sig[r]? = some c ∧ ∃ o, s.heap.get? c = some o ∧ RO G.prog G.w W o (.cell v) := by
  obtain ⟨m, hn, l⟩ := I.ns
  obtain ⟨r', e, hs⟩ := l i x (some c) hi _ h1
  cases e
  obtain ⟨a, ha, o, ho, hr⟩ := I.trk.get h2
  rw [hs] at ha; cases ha
  exact ⟨hs, o, ho, hr⟩
theorem ref_load_cell (hC : C.Ok) {i : Nat} {x : Str} {c : Addr} (hi : C.vars[i]? = some (x, some c)) (hl : C.env.kindOf x = some .cell) (hc : C.env.cells.lookup x = some c) : Ref G C hq (loadName C.env x) RV (getC i) := by
  intro kp pn W s st A hA I _ b st' hm
  obtain ⟨rfl, r, h1, h2⟩ := getC_some hm
  obtain ⟨hs, o, ho, y, hy, v, rfl, hr⟩ := cell_of I hi h1 h2
  exact wpAny_loadName_cell hC.kind hl hc ⟨o, ho, hy⟩ ⟨W, .refl _, I, hr⟩
theorem ref_load_free (hC : C.Ok) {i : Nat} {x : Str} {c : Addr} (hi : C.vars[i]? = some (x, some c)) (hl : C.env.kindOf x = some .free) (hc : C.env.cells.lookup x = some c)
    (hn : (x == ("__classdict__" : Str)) = false) : Ref G C hq (loadName C.env x) RV (getC i) := by
  intro kp pn W s st A hA I _ b st' hm
  obtain ⟨rfl, r, h1, h2⟩ := getC_some hm
  obtain ⟨hs, o, ho, y, hy, v, rfl, hr⟩ := cell_of I hi h1 h2
  exact wpAny_loadName_free hC.kind hl hc ⟨o, ho, hy⟩ ⟨W, .refl _, I, hr⟩ hn
theorem ref_name {x : Str} {pos : Pos} {m : AM AV} (R : Ref G C hq (loadName C.env x) RV m) (hd : (x == ("__debug__" : Str)) = false) : Ref G C hq (eval (.Name x pos) C.env) RV m :=
  fun kp pn W s st A hA I hΓ b st' hm => wpAny_Name (R kp pn W s st A hA I hΓ b st' hm) hd

/-- a name of the top that holds data -/
theorem ref_global (hG : G.Ok) (hC : C.Ok) {x : Str} {pos : Pos} {v : Value} {d : PyData} (hx : G.mg x = some v) (hr : RD [] v d) (hk : C.env.kindOf x = some .globalImplicit) (hd : (x == ("__debug__" : Str)) = false) :
    Ref G C hq (eval (.Name x pos) C.env) RV (AM.pure (.dat d)) := by
  intro kp pn W s st A hA I _ b st' hm
  obtain ⟨rfl, rfl⟩ := pure_some hm
  exact Name_function_global hC.kind hk (loadGlobal_global (hC.glo ▸ hG.g.keeps I.base) hx ⟨W, .refl _, I, RD.mono (fun _ h => by cases h) hr⟩) hd

/-! constants -/
theorem ref_int {i : Int} {k : Nat} {pos : Pos} : Ref G C hq (eval (.Constant (.int i) k pos) C.env) RV (AM.pure (.dat (.int i))) := by
  intro kp pn W s st A hA I _ b st' hm
  obtain ⟨rfl, rfl⟩ := pure_some hm
  exact wpAny_Constant_int ⟨W, .refl _, I.toks, .int _ _⟩
theorem ref_bool {i : Bool} {k : Nat} {pos : Pos} : Ref G C hq (eval (.Constant (.bool i) k pos) C.env) RV (AM.pure (.dat (.bool i))) := by
  intro kp pn W s st A hA I _ b st' hm
  obtain ⟨rfl, rfl⟩ := pure_some hm
  exact wpAny_Constant_bool ⟨W, .refl _, I.toks, .bool _⟩
theorem ref_str {i : Str} {k : Nat} {pos : Pos} : Ref G C hq (eval (.Constant (.str i) k pos) C.env) RV (AM.pure (.dat (.str i))) := by
  intro kp pn W s st A hA I _ b st' hm
  obtain ⟨rfl, rfl⟩ := pure_some hm
  exact wpAny_Constant_str ⟨W, .refl _, I.toks, .str _ _⟩
theorem ref_none {k : Nat} {pos : Pos} : Ref G C hq (eval (.Constant .none k pos) C.env) RV (AM.pure (.dat .none)) := by
  intro kp pn W s st A hA I _ b st' hm
  obtain ⟨rfl, rfl⟩ := pure_some hm
  exact wpAny_Constant_none ⟨W, .refl _, I.toks, .none⟩

/-! stores -/
theorem ref_store_local (hC : C.Ok) {i : Nat} {x : Str} {v : Value} {av : AV} (hi : C.vars[i]? = some (x, none)) (hl : C.env.kindOf x = some .local) : Ref G C hq (storeName C.env x v) RU (setL i av) [(v, av)] := by
  intro kp pn W s st A hA I hΓ b st' hm
  obtain ⟨m, hn, l⟩ := I.ns
  have hr := hΓ _ (.head _)
  unfold setL at hm
  split at hm
  · cases hm
    refine wpAny_storeName_local hl (m := m) (hC.loc ▸ hn) (fun h' hn' hs => ⟨W, .refl _, ?_, trivial⟩) (by rw [hC.kind]; rfl)
    exact Inv.storeL I hi hC.nd hn l (hC.loc ▸ hs) (hC.loc ▸ hn') rfl hr
  · cases hm

theorem ref_store_cell (hC : C.Ok) {i : Nat} {x : Str} {c : Addr} {v : Value} {av : AV} (hi : C.vars[i]? = some (x, some c)) (hl : C.env.kindOf x = some .cell) (hc : C.env.cells.lookup x = some c) : Ref G C hq (storeName C.env x v) RU (setC i av) [(v, av)] := by
  intro kp pn W s st A hA I hΓ b st' hm
  have hr := hΓ _ (.head _)
  unfold setC at hm
  split at hm
  · rename_i r h1
    split at hm
    · rename_i av' h2
      cases hm
      obtain ⟨hs, o, ho, y, hy, _⟩ := cell_of I hi h1 h2
      refine wpAny_storeName_cell hC.kind hl hc ⟨o, ho, hy⟩ fun h' ⟨o', x1, x2⟩ hs' => ⟨W, .refl _, ?_, trivial⟩
      exact Inv.turn (s' := { s with heap := h' }) I hs h2 rfl (fun b o' hb e => (hs'.2 b hb).trans e) x1 ⟨_, x2, _, rfl, hr⟩
    · cases hm
  · cases hm

/-! statements -/
noncomputable def seqA (m1 m2 : AM AF) : AM AF := fun st => match m1 st with
  | none => none
  | some (.next, st1) => m2 st1
  | some (f, st1) => some (f, st1)
theorem ref_nil : Ref G C hq (execs [] C.env) RF (AM.pure .next) := by
  intro kp pn W s st A hA I _ b st' hm
  obtain ⟨rfl, rfl⟩ := pure_some hm
  exact wpAny_execs_nil ⟨W, .refl _, I, trivial⟩
theorem ref_cons {st₁ : Stmt} {rest : List Stmt} {m1 m2 : AM AF} (R1 : Ref G C hq (exec st₁ C.env) RF m1) (R2 : Ref G C hq (execs rest C.env) RF m2) : Ref G C hq (execs (st₁ :: rest) C.env) RF (seqA m1 m2) := by
  intro kp pn W s st A hA I _ b st' hm
  unfold seqA at hm
  refine wpAny_execs_cons ?_
  split at hm
  · cases hm
  · rename_i st1 e1
    refine R1.use0 hA I e1 fun f s' W' h1 h2 h3 => ?_
    cases f <;> simp only [RF] at h3
    refine R2.use0 hA h2 hm fun f s'' W'' h1' h2' h3' => ⟨W'', h1.trans h1', h2', h3'⟩
  · rename_i f st1 hne e1
    cases hm
    refine R1.use0 hA I e1 fun f s' W' h1 h2 h3 => ?_
    cases f with
    | next => exact absurd h3 (by cases b <;> simp_all [RF])
    | brk => exact ⟨W', h1, h2, h3⟩
    | cont => exact ⟨W', h1, h2, h3⟩
    | ret v => exact ⟨W', h1, h2, h3⟩
theorem ref_cons1 {st₁ : Stmt} {m1 : AM AF} (R1 : Ref G C hq (exec st₁ C.env) RF m1) : Ref G C hq (execs [st₁] C.env) RF m1 := by
  intro kp pn W s st A hA I _ b st' hm
  refine wpAny_execs_cons (R1.use0 hA I hm fun f s' W' h1 h2 h3 => ?_)
  cases f with
  | next => exact wpAny_execs_nil ⟨W', h1, h2, h3⟩
  | brk => exact ⟨W', h1, h2, h3⟩
  | cont => exact ⟨W', h1, h2, h3⟩
  | ret v => exact ⟨W', h1, h2, h3⟩

noncomputable def iteA {γ : Type} (mt : AM Bool) (m1 m2 : AM γ) : AM γ := mt.bind fun b => match b with
  | true => m1
  | false => m2
theorem ref_If {test : Expr} {body orelse : List Stmt} {pos : Pos} {mt : AM Bool} {m1 m2 : AM AF} (Rt : Ref G C hq (isTrue test C.env (eval test C.env)) RB mt) (R1 : Ref G C hq (execs body C.env) RF m1) (R2 : Ref G C hq (execs orelse C.env) RF m2) :
    Ref G C hq (exec (.If test body orelse pos) C.env) RF (iteA mt m1 m2) := by
  intro kp pn W s st A hA I _ b st' hm
  obtain ⟨t, st1, e1, e2⟩ := bind_some hm
  refine wpAny_If (Rt.use0 hA I e1 fun a s' W' h1 h2 h3 => ?_)
  obtain rfl : a = t := h3
  cases a with
  | true => exact R1.use0 hA h2 e2 fun f s'' W'' h1' h2' h3' => ⟨W'', h1.trans h1', h2', h3'⟩
  | false => exact R2.use0 hA h2 e2 fun f s'' W'' h1' h2' h3' => ⟨W'', h1.trans h1', h2', h3'⟩
theorem ref_Return {e : Expr} {pos : Pos} {m : AM AV} (R : Ref G C hq (eval e C.env) RV m) : Ref G C hq (exec (.Return (some e) pos) C.env) RF (m.bind fun v => AM.pure (.ret v)) := by
  intro kp pn W s st A hA I _ b st' hm
  obtain ⟨t, st1, e1, e2⟩ := bind_some hm
  obtain ⟨rfl, rfl⟩ := pure_some e2
  exact wpAny_Return_some (R.use0 hA I e1 fun a s' W' h1 h2 h3 => ⟨W', h1, h2, h3⟩)
theorem ref_Break {pos : Pos} : Ref G C hq (exec (.Break pos) C.env) RF (AM.pure .brk) := by
  intro kp pn W s st A hA I _ b st' hm
  obtain ⟨rfl, rfl⟩ := pure_some hm
  exact wpAny_Break ⟨W, .refl _, I, trivial⟩
theorem ref_Continue {pos : Pos} : Ref G C hq (exec (.Continue pos) C.env) RF (AM.pure .cont) := by
  intro kp pn W s st A hA I _ b st' hm
  obtain ⟨rfl, rfl⟩ := pure_some hm
  exact wpAny_Continue ⟨W, .refl _, I, trivial⟩
theorem ref_Assign {x : Str} {p : Pos} {e : Expr} {pos : Pos} {m : AM AV} {ms : AV → AM Unit} (R : Ref G C hq (eval e C.env) RV m) (Rs : ∀ v av, Ref G C hq (storeName C.env x v) RU (ms av) [(v, av)])
    (hs : swapsWith e (some (.Name x p)) pos.line C.env = pure false) : Ref G C hq (exec (.Assign [.Name x p] e pos) C.env) RF (m.bind fun v => (ms v).bind fun _ => AM.pure .next) := by
  intro kp pn W s st A hA I _ b st' hm
  obtain ⟨t, st1, e1, e2⟩ := bind_some hm
  obtain ⟨u, st2, e3, e4⟩ := bind_some e2
  obtain ⟨rfl, rfl⟩ := pure_some e4
  refine wpAny_Assign_Name (R.use0 hA I e1 fun a s' W' h1 h2 h3 => ?_) hs
  exact (Rs a t).use hA h2 (fun p hp => by rw [List.mem_singleton.mp hp]; exact h3) e3 fun a s'' W'' h1' h2' _ => ⟨W'', h1.trans h1', h2', trivial⟩

/-! expressions -/
theorem ref_BinOp {l r : Expr} {op : Operator} {pos : Pos} {ml mr : AM AV} {f : AV → AV → AM AV} (R1 : Ref G C hq (eval l C.env) RV ml) (R2 : Ref G C hq (eval r C.env) RV mr)
    (Ro : ∀ v1 a1 v2 a2, Ref G C hq (binaryOp op v1 v2) RV (f a1 a2) [(v1, a1), (v2, a2)]) : Ref G C hq (eval (.BinOp l op r pos) C.env) RV (ml.bind fun a => mr.bind fun b => f a b) := by
  intro kp pn W s st A hA I _ b st' hm
  obtain ⟨a1, st1, e1, e2⟩ := bind_some hm
  obtain ⟨a2, st2, e3, e4⟩ := bind_some e2
  refine wpAny_BinOp (R1.use0 hA I e1 fun v1 s1 W1 h1 h2 h3 => R2.use0 hA h2 e3 fun v2 s2 W2 h1' h2' h3' => ?_)
  exact (Ro v1 a1 v2 a2).use hA h2' (fun p hp => by
    rcases List.mem_cons.mp hp with rfl | hp
    · exact h3.mono h1'
    · rw [List.mem_singleton.mp hp]; exact h3') e4 fun v s3 W3 h1'' h2'' h3'' => ⟨W3, (h1.trans h1').trans h1'', h2'', h3''⟩
theorem ref_Compare {l r : Expr} {op : CmpOp} {pos : Pos} {ml mr : AM AV} {f : AV → AV → AM AV} (R1 : Ref G C hq (eval l C.env) RV ml) (R2 : Ref G C hq (eval r C.env) RV mr)
    (Ro : ∀ v1 a1 v2 a2, Ref G C hq (compareOp op v1 v2) RV (f a1 a2) [(v1, a1), (v2, a2)]) (hm : behindInMarks op r = false) : Ref G C hq (eval (.Compare l [op] [r] pos) C.env) RV (ml.bind fun a => mr.bind fun b => f a b) := by
  intro kp pn W s st A hA I _ b st' hm'
  obtain ⟨a1, st1, e1, e2⟩ := bind_some hm'
  obtain ⟨a2, st2, e3, e4⟩ := bind_some e2
  refine wpAny_Compare1 (R1.use0 hA I e1 fun v1 s1 W1 h1 h2 h3 => R2.use0 hA h2 e3 fun v2 s2 W2 h1' h2' h3' => ?_) hm
  exact (Ro v1 a1 v2 a2).use hA h2' (fun p hp => by
    rcases List.mem_cons.mp hp with rfl | hp
    · exact h3.mono h1'
    · rw [List.mem_singleton.mp hp]; exact h3') e4 fun v s3 W3 h1'' h2'' h3'' => ⟨W3, (h1.trans h1').trans h1'', h2'', h3''⟩
theorem ref_isTrue_Compare {l r : Expr} {op : CmpOp} {pos : Pos} {whole : Sem Value} {ml mr : AM AV} {f : AV → AV → AM AV} {g : AV → AM Bool} (R1 : Ref G C hq (eval l C.env) RV ml) (R2 : Ref G C hq (eval r C.env) RV mr)
    (Ro : ∀ v1 a1 v2 a2, Ref G C hq (compareOp op v1 v2) RV (f a1 a2) [(v1, a1), (v2, a2)]) (Rt : ∀ v a, Ref G C hq (truthy v) RB (g a) [(v, a)]) (hm : behindInMarks op r = false) :
    Ref G C hq (isTrue (.Compare l [op] [r] pos) C.env whole) RB (ml.bind fun a => mr.bind fun b => (f a b).bind g) := by
  intro kp pn W s st A hA I _ b st' hm'
  obtain ⟨a1, st1, e1, e2⟩ := bind_some hm'
  obtain ⟨a2, st2, e3, e4⟩ := bind_some e2
  obtain ⟨a3, st3, e5, e6⟩ := bind_some e4
  refine wpAny_isTrue_Compare1 (R1.use0 hA I e1 fun v1 s1 W1 h1 h2 h3 => R2.use0 hA h2 e3 fun v2 s2 W2 h1' h2' h3' => ?_) hm
  refine (Ro v1 a1 v2 a2).use hA h2' (fun p hp => by
    rcases List.mem_cons.mp hp with rfl | hp
    · exact h3.mono h1'
    · rw [List.mem_singleton.mp hp]; exact h3') e5 fun v s3 W3 h1'' h2'' h3'' => ?_
  exact (Rt v a3).use hA h2'' (fun p hp => by rw [List.mem_singleton.mp hp]; exact h3'') e6 fun t s4 W4 k1 k2 k3 => ⟨W4, ((h1.trans h1').trans h1'').trans k1, k2, k3⟩
theorem ref_isTrue_value {e : Expr} {m : AM AV} {g : AV → AM Bool} (R : Ref G C hq (eval e C.env) RV m) (Rt : ∀ v a, Ref G C hq (truthy v) RB (g a) [(v, a)])
    (he : isTrue e C.env (eval e C.env) = (do let v ← eval e C.env; standAt e.pos; holding [v] (truthy v))) : Ref G C hq (isTrue e C.env (eval e C.env)) RB (m.bind g) := by
  intro kp pn W s st A hA I _ b st' hm'
  obtain ⟨a1, st1, e1, e2⟩ := bind_some hm'
  refine wpAny_isTrue_value (R.use0 hA I e1 fun v1 s1 W1 h1 h2 h3 => ?_) he
  exact (Rt v1 a1).use hA h2 (fun p hp => by rw [List.mem_singleton.mp hp]; exact h3) e2 fun t s4 W4 k1 k2 k3 => ⟨W4, h1.trans k1, k2, k3⟩
theorem ref_and_nil : Ref G C hq (allTrue .And [] C.env) RB (AM.pure true) := by
  intro kp pn W s st A hA I _ b st' hm
  obtain ⟨rfl, rfl⟩ := pure_some hm
  exact wpAny_allTrue_And_nil ⟨W, .refl _, I, rfl⟩
theorem ref_or_nil : Ref G C hq (allTrue .Or [] C.env) RB (AM.pure false) := by
  intro kp pn W s st A hA I _ b st' hm
  obtain ⟨rfl, rfl⟩ := pure_some hm
  exact wpAny_allTrue_Or_nil ⟨W, .refl _, I, rfl⟩
theorem ref_and_cons {x : Expr} {rest : List Expr} {m1 m2 : AM Bool} (R1 : Ref G C hq (isTrue x C.env (eval x C.env)) RB m1) (R2 : Ref G C hq (allTrue .And rest C.env) RB m2) :
    Ref G C hq (allTrue .And (x :: rest) C.env) RB (m1.bind fun b => match b with | true => m2 | false => AM.pure false) := by
  intro kp pn W s st A hA I _ b st' hm'
  obtain ⟨a1, st1, e1, e2⟩ := bind_some hm'
  refine wpAny_allTrue_And_cons (R1.use0 hA I e1 fun v1 s1 W1 h1 h2 h3 => ?_)
  obtain rfl : v1 = a1 := h3
  cases v1 with
  | true => exact R2.use0 hA h2 e2 fun t s4 W4 k1 k2 k3 => ⟨W4, h1.trans k1, k2, k3⟩
  | false =>
    obtain ⟨rfl, rfl⟩ := pure_some e2
    exact ⟨W1, h1, h2, rfl⟩
theorem ref_or_cons {x : Expr} {rest : List Expr} {m1 m2 : AM Bool} (R1 : Ref G C hq (isTrue x C.env (eval x C.env)) RB m1) (R2 : Ref G C hq (allTrue .Or rest C.env) RB m2) :
    Ref G C hq (allTrue .Or (x :: rest) C.env) RB (m1.bind fun b => match b with | true => AM.pure true | false => m2) := by
  intro kp pn W s st A hA I _ b st' hm'
  obtain ⟨a1, st1, e1, e2⟩ := bind_some hm'
  refine wpAny_allTrue_Or_cons (R1.use0 hA I e1 fun v1 s1 W1 h1 h2 h3 => ?_)
  obtain rfl : v1 = a1 := h3
  cases v1 with
  | false => exact R2.use0 hA h2 e2 fun t s4 W4 k1 k2 k3 => ⟨W4, h1.trans k1, k2, k3⟩
  | true =>
    obtain ⟨rfl, rfl⟩ := pure_some e2
    exact ⟨W1, h1, h2, rfl⟩
theorem ref_isTrue_BoolOp {op : BoolOp} {values : List Expr} {pos : Pos} {whole : Sem Value} {m : AM Bool} (R : Ref G C hq (allTrue op values C.env) RB m) : Ref G C hq (isTrue (.BoolOp op values pos) C.env whole) RB m :=
  fun kp pn W s st A hA I hΓ b st' hm => wpAny_isTrue_BoolOp (R kp pn W s st A hA I hΓ b st' hm)
theorem ref_Or2 {x y : Expr} {pos : Pos} {m1 m2 : AM AV} {g : AV → AM Bool} (R1 : Ref G C hq (eval x C.env) RV m1) (R2 : Ref G C hq (eval y C.env) RV m2) (Rt : ∀ v a, Ref G C hq (truthy v) RB (g a) [(v, a)]) :
    Ref G C hq (eval (.BoolOp .Or [x, y] pos) C.env) RV (m1.bind fun a => (g a).bind fun b => match b with | true => AM.pure a | false => m2) := by
  intro kp pn W s st A hA I _ b st' hm'
  obtain ⟨a1, st1, e1, e2⟩ := bind_some hm'
  obtain ⟨t, st2, e3, e4⟩ := bind_some e2
  refine wpAny_Or2 (R1.use0 hA I e1 fun v1 s1 W1 h1 h2 h3 => ?_)
  refine (Rt v1 a1).use hA h2 (fun p hp => by rw [List.mem_singleton.mp hp]; exact h3) e3 fun t' s4 W4 k1 k2 k3 => ?_
  obtain rfl : t' = t := k3
  cases t' with
  | true =>
    obtain ⟨rfl, rfl⟩ := pure_some e4
    exact ⟨W4, h1.trans k1, k2, h3.mono k1⟩
  | false => exact R2.use0 hA k2 e4 fun v s5 W5 j1 j2 j3 => ⟨W5, (h1.trans k1).trans j1, j2, j3⟩
theorem ref_IfExp {test body orelse : Expr} {pos : Pos} {mt : AM Bool} {m1 m2 : AM AV} (Rt : Ref G C hq (isTrue test C.env (eval test C.env)) RB mt) (R1 : Ref G C hq (eval body C.env) RV m1) (R2 : Ref G C hq (eval orelse C.env) RV m2) :
    Ref G C hq (eval (.IfExp test body orelse pos) C.env) RV (iteA mt m1 m2) := by
  intro kp pn W s st A hA I _ b st' hm
  obtain ⟨t, st1, e1, e2⟩ := bind_some hm
  refine wpAny_IfExp (Rt.use0 hA I e1 fun a s' W' h1 h2 h3 => ?_)
  obtain rfl : a = t := h3
  cases a with
  | true => exact R1.use0 hA h2 e2 fun f s'' W'' h1' h2' h3' => ⟨W'', h1.trans h1', h2', h3'⟩
  | false => exact R2.use0 hA h2 e2 fun f s'' W'' h1' h2' h3' => ⟨W'', h1.trans h1', h2', h3'⟩

/-! displays -/
noncomputable def listA : List (AM AV) → AM (List AV)
  | [] => AM.pure []
  | m :: r => m.bind fun a => (listA r).bind fun l => AM.pure (a :: l)
noncomputable abbrev RL : WS → List Value → List AV → Prop := fun W => RVs W
theorem ref_items_nil {pos : Pos} : Ref G C hq (spliced (backTo pos (starEach [] C.env))) RL (listA []) := by
  intro kp pn W s st A hA I _ b st' hm
  obtain ⟨rfl, rfl⟩ := pure_some hm
  exact wpAny_items_nil ⟨W, .refl _, I, .nil⟩
theorem ref_items_cons {pos : Pos} {e : Expr} {rest : List Expr} {m : AM AV} {ms : List (AM AV)} (R : Ref G C hq (eval e C.env) RV m) (Rs : Ref G C hq (spliced (backTo pos (starEach rest C.env))) RL (listA ms))
    (he : starEach (e :: rest) C.env = (false, eval e C.env) :: starEach rest C.env) : Ref G C hq (spliced (backTo pos (starEach (e :: rest) C.env))) RL (listA (m :: ms)) := by
  intro kp pn W s st A hA I _ b st' hm
  obtain ⟨a1, st1, e1, e2⟩ := bind_some hm
  obtain ⟨l, st2, e3, e4⟩ := bind_some e2
  obtain ⟨rfl, rfl⟩ := pure_some e4
  refine wpAny_items_cons (R.use0 hA I e1 fun v s1 W1 h1 h2 h3 => Rs.use0 hA h2 e3 fun vs s2 W2 k1 k2 k3 => ⟨W2, h1.trans k1, k2, .cons (h3.mono k1) k3⟩) he
noncomputable def datsA : List AV → Option (List PyData)
  | [] => some []
  | .dat d :: r => match datsA r with
    | some l => some (d :: l)
    | none => none
  | _ :: _ => none
theorem dats_of {W : WS} {vs : List Value} {l : List AV} {ds : List PyData} (h : RVs W vs l) (e : datsA l = some ds) : RDs W.frz vs ds := by
  induction h generalizing ds with
  | nil => cases e; exact .nil
  | cons h1 h2 ih =>
    rename_i v a vs as
    cases a with
    | dat d =>
      simp only [datsA] at e
      split at e
      · rename_i l' e'; cases e; exact .cons h1 (ih e')
      · cases e
    | ref n => cases e
    | bnd n => cases e
    | rng n => cases e
    | vals n => cases e
    | typ n => cases e
    | slc lo hi => cases e
    | ext a => cases e
noncomputable def tupA (l : List AV) : AM AV := fun st => match datsA l with
  | some ds => if ds.length < 1000 then some (.dat (.tuple ds), st) else none
  | none => none
noncomputable def lstA (l : List AV) : AM AV := fun st => match datsA l with
  | some ds => if ds.length < 1000 then some (.dat (.list ds), st) else none
  | none => none
theorem sz1000 {n : Nat} (h : n < 1000) : n ≤ sizeLine := by rw [sizeLine_eq]; omega
theorem RDs_lt {frz : List (Addr × Obj)} {vs : List Value} {ds : List PyData} (x : RDs frz vs ds) (h : ds.length < 1000) : vs.length ≤ sizeLine := sz1000 (x.length ▸ h)
theorem ref_Tuple {elts : List Expr} {k : Nat} {pos : Pos} {ms : List (AM AV)} (R : Ref G C hq (spliced (backTo pos (starEach elts C.env))) RL (listA ms)) : Ref G C hq (eval (.Tuple elts k pos) C.env) RV ((listA ms).bind tupA) := by
  intro kp pn W s st A hA I _ b st' hm
  obtain ⟨l, st1, e1, e2⟩ := bind_some hm
  refine wpAny_Tuple (R.use0 hA I e1 fun vs s1 W1 h1 h2 h3 => ?_)
  unfold tupA at e2
  split at e2
  · rename_i ds ed
    split at e2
    · rename_i hlt
      cases e2
      have hd := dats_of h3 ed
      refine ⟨RDs_lt hd hlt, ?_⟩
      obtain ⟨I', le⟩ := Inv.push (s' := { s1 with heap := s1.heap.push { cls := .type "tuple", data := .seq vs.toArray } }) h2 { cls := .type "tuple", data := .seq vs.toArray } rfl
      exact ⟨_, h1.trans le, I', .tuple (.head _) (by rw [List.toList_toArray]; exact RDs.mono le.frz hd)⟩
    · cases e2
  · cases e2
theorem ref_List {elts : List Expr} {pos : Pos} {ms : List (AM AV)} (R : Ref G C hq (spliced (backTo pos (starEach elts C.env))) RL (listA ms)) : Ref G C hq (eval (.List elts pos) C.env) RV ((listA ms).bind lstA) := by
  intro kp pn W s st A hA I _ b st' hm
  obtain ⟨l, st1, e1, e2⟩ := bind_some hm
  refine wpAny_List (R.use0 hA I e1 fun vs s1 W1 h1 h2 h3 => ?_)
  unfold lstA at e2
  split at e2
  · rename_i ds ed
    split at e2
    · rename_i hlt
      cases e2
      have hd := dats_of h3 ed
      refine ⟨RDs_lt hd hlt, ?_⟩
      obtain ⟨I', le⟩ := Inv.push (s' := { s1 with heap := s1.heap.push { cls := .type "list", data := .seq vs.toArray } }) h2 { cls := .type "list", data := .seq vs.toArray } rfl
      exact ⟨_, h1.trans le, I', .list (.head _) (by rw [List.toList_toArray]; exact RDs.mono le.frz hd)⟩
    · cases e2
  · cases e2
/-- a new empty list that is tracked -/
noncomputable def newListA : AM AV := fun st => some (.ref st.heap.length, ⟨st.loc, st.heap ++ [.list []]⟩)
theorem A2.len' {α β : Type} {R : α → β → Prop} {l : List α} {l' : List β} (x : A2 R l l') : l'.length = l.length := x.length.symm
theorem ref_newList {pos : Pos} : Ref G C hq (eval (.List [] pos) C.env) RV newListA := by
  intro kp pn W s st A hA I _ b st' hm
  cases hm
  refine wpAny_List (wpAny_items_nil ⟨by rw [sizeLine_eq]; decide, ?_⟩)
  obtain ⟨I', le⟩ := Inv.pushT (s' := { s with heap := s.heap.push { cls := .type "list", data := .seq ([] : List Value).toArray } }) I { cls := .type "list", data := .seq ([] : List Value).toArray } (.list []) rfl fun _ => ⟨_, _, rfl, .nil⟩
  exact ⟨_, le, I', _, by rw [I.trk.len']; simp, rfl⟩
end
end Mine

open PySem PySem.W PyProof.Rows PySem.Calls PySem.Spec
set_option Elab.async false
namespace Mine

section
variable {G : Gl} {C : Act} {hq : Bool}

/-! values of data -/
theorem rv_int {W : WS} {v : Value} {i : Int} (h : RV W v (.dat (.int i))) : ∃ t, v = .int i t := by
  cases h with | int _ t => exact ⟨t, rfl⟩
theorem rv_str {W : WS} {v : Value} {x : Str} (h : RV W v (.dat (.str x))) : ∃ t, v = .str x t := by
  cases h with | str _ t => exact ⟨t, rfl⟩
theorem rv_bool {W : WS} {v : Value} {b : Bool} (h : RV W v (.dat (.bool b))) : v = .bool b := by
  cases h; rfl
theorem rv_none {W : WS} {v : Value} (h : RV W v (.dat .none)) : v = .none := by
  cases h; rfl
theorem rv_list {W : WS} {v : Value} {ds : List PyData} (h : RV W v (.dat (.list ds))) : ∃ a vs n, v = .ref a ∧ (a, ({ cls := .type "list", data := .seq vs n } : Obj)) ∈ W.frz ∧ RDs W.frz vs.toList ds := by
  cases h with | list hm hs => exact ⟨_, _, _, rfl, hm, hs⟩
theorem rv_tuple {W : WS} {v : Value} {ds : List PyData} (h : RV W v (.dat (.tuple ds))) : ∃ a vs n, v = .ref a ∧ (a, ({ cls := .type "tuple", data := .seq vs n } : Obj)) ∈ W.frz ∧ RDs W.frz vs.toList ds := by
  cases h with | tuple hm hs => exact ⟨_, _, _, rfl, hm, hs⟩
theorem RDs.append {frz : List (Addr × Obj)} {vs ws : List Value} {ds es : List PyData} (x : RDs frz vs ds) (y : RDs frz ws es) : RDs frz (vs ++ ws) (ds ++ es) := by
  induction vs generalizing ds with
  | nil => cases x; exact y
  | cons v vs ih => cases x with | cons h1 h2 => exact .cons h1 (ih h2)
theorem RDs.get {frz : List (Addr × Obj)} {vs : List Value} {ds : List PyData} (x : RDs frz vs ds) : ∀ {i : Nat} {d : PyData}, ds[i]? = some d → ∃ v, vs[i]? = some v ∧ RD frz v d := by
  induction vs generalizing ds with
  | nil => cases x; intro i d h; simp at h
  | cons v vs ih =>
    cases x with
    | cons h1 h2 =>
      intro i d h
      cases i with
      | zero => simp at h; subst h; exact ⟨v, rfl, h1⟩
      | succ i => simp at h; obtain ⟨v', e, r⟩ := ih h2 h; exact ⟨v', by simpa using e, r⟩
theorem RDs.drop {frz : List (Addr × Obj)} {vs : List Value} {ds : List PyData} (x : RDs frz vs ds) : ∀ n, RDs frz (vs.drop n) (ds.drop n) := by
  induction vs generalizing ds with
  | nil => cases x; intro n; simp; exact .nil
  | cons v vs ih => cases x with | cons h1 h2 => intro n; cases n with
    | zero => exact .cons h1 h2
    | succ n => exact ih h2 n
theorem RDs.take {frz : List (Addr × Obj)} {vs : List Value} {ds : List PyData} (x : RDs frz vs ds) : ∀ n, RDs frz (vs.take n) (ds.take n) := by
  induction vs generalizing ds with
  | nil => cases x; intro n; simp; exact .nil
  | cons v vs ih => cases x with | cons h1 h2 => intro n; cases n with
    | zero => exact .nil
    | succ n => exact .cons h1 (ih h2 n)
theorem RDs.isEmpty {frz : List (Addr × Obj)} {vs : List Value} {ds : List PyData} (x : RDs frz vs ds) : vs.isEmpty = ds.isEmpty := by
  cases vs <;> cases x <;> rfl

/-! + -/
noncomputable def addA : AV → AV → AM AV
  | .dat (.int a), .dat (.int b) => AM.pure (.dat (.int (a + b)))
  | .dat (.str a), .dat (.str b) => fun st => if a.length + b.length < 1000 then some (.dat (.str (a ++ b)), st) else none
  | .dat (.tuple a), .dat (.tuple b) => fun st => if a.length + b.length < 1000 then some (.dat (.tuple (a ++ b)), st) else none
  | .dat (.list a), .dat (.list b) => fun st => if a.length + b.length < 1000 then some (.dat (.list (a ++ b)), st) else none
  | _, _ => AM.fail
theorem fail_some {β : Type} {st : St} {r : β × St} (h : (AM.fail : AM β) st = some r) : False := by cases h

theorem ref_add {v1 v2 : Value} {a1 a2 : AV} : Ref G C hq (binaryOp .Add v1 v2) RV (addA a1 a2) [(v1, a1), (v2, a2)] := by
  intro kp pn W s st A hA I hΓ b st' hm
  have r1 : RV W v1 a1 := hΓ _ (.head _)
  have r2 : RV W v2 a2 := hΓ _ (.tail _ (.head _))
  unfold addA at hm
  split at hm
  · obtain ⟨rfl, rfl⟩ := pure_some hm
    obtain ⟨t, rfl⟩ := rv_int r1
    obtain ⟨u, rfl⟩ := rv_int r2
    exact PySem.P.add_int ⟨W, .refl _, I.toks, .int _ _⟩
  · split at hm
    · rename_i hl
      cases hm
      obtain ⟨t, rfl⟩ := rv_str r1
      obtain ⟨u, rfl⟩ := rv_str r2
      exact PyProof.Rows.add_str (fun t' tk => ⟨W, .refl _, I.toks, .str _ _⟩) (sz1000 hl)
    · cases hm
  · split at hm
    · rename_i ds es hl
      cases hm
      obtain ⟨x, vs, n, rfl, m1, d1⟩ := rv_tuple r1
      obtain ⟨y, ws, n', rfl, m2, d2⟩ := rv_tuple r2
      have ho := I.frz _ m1
      have ho2 := I.frz _ m2
      have e1 := RDs.isEmpty d1
      have e2 := RDs.isEmpty d2
      simp only [Array.isEmpty_toList] at e1 e2
      by_cases hv : vs.isEmpty = true
      · refine concat_meets ⟨_, ho, rfl⟩ ⟨_, ho2, rfl⟩ noFill_tuple_add seq_tuple_add PySem.F.slot_tuple_add PySem.F.entry_tuple_add (PySem.F.args_tuple_add_2 _ _)
          (tuple_addW0 x y vs ws n n' _ _ _ _ hv) ⟨ho, ho2, W, .refl _, I.toks, ?_⟩
        have : ds = [] := by rw [hv] at e1; simpa using e1.symm
        subst this
        exact .tuple m2 d2
      · by_cases hw : ws.isEmpty = true
        · refine concat_meets ⟨_, ho, rfl⟩ ⟨_, ho2, rfl⟩ noFill_tuple_add seq_tuple_add PySem.F.slot_tuple_add PySem.F.entry_tuple_add (PySem.F.args_tuple_add_2 _ _)
            (tuple_addW1 x y vs ws n n' _ _ _ _ hv hw) ⟨ho, ho2, W, .refl _, I.toks, ?_⟩
          have : es = [] := by rw [hw] at e2; simpa using e2.symm
          subst this
          rw [List.append_nil]
          exact .tuple m1 d1
        · have l1 := d1.length
          have l2 := d2.length
          simp only [Array.length_toList] at l1 l2
          refine concat_meets ⟨_, ho, rfl⟩ ⟨_, ho2, rfl⟩ noFill_tuple_add seq_tuple_add PySem.F.slot_tuple_add PySem.F.entry_tuple_add (PySem.F.args_tuple_add_2 _ _)
            (tuple_addW2 x y vs ws n n' _ _ _ _ hv hw (by rw [l1, l2]; exact sz1000 hl)) ⟨ho, ho2, ?_⟩
          obtain ⟨I', le⟩ := Inv.push (s' := { s with heap := s.heap.push { cls := .type "tuple", data := .seq (vs ++ ws) } }) I { cls := .type "tuple", data := .seq (vs ++ ws) } rfl
          exact ⟨_, le, I', .tuple (.head _) (by rw [Array.toList_append]; exact (RDs.mono le.frz d1).append (RDs.mono le.frz d2))⟩
    · cases hm
  · split at hm
    · rename_i ds es hl
      cases hm
      obtain ⟨x, vs, n, rfl, m1, d1⟩ := rv_list r1
      obtain ⟨y, ws, n', rfl, m2, d2⟩ := rv_list r2
      have l1 := d1.length
      have l2 := d2.length
      simp only [Array.length_toList] at l1 l2
      refine PySem.P.add_list (I.frz _ m1) (I.frz _ m2) ?_ (by rw [l1, l2]; exact sz1000 hl)
      obtain ⟨I', le⟩ := Inv.push (s' := { s with heap := s.heap.push { cls := .type "list", data := .seq (vs ++ ws) } }) I { cls := .type "list", data := .seq (vs ++ ws) } rfl
      exact ⟨_, le, I', .list (.head _) (by rw [Array.toList_append]; exact (RDs.mono le.frz d1).append (RDs.mono le.frz d2))⟩
    · cases hm
  · exact (fail_some hm).elim

/-! % and // -/
noncomputable def modA : AV → AV → AM AV
  | .dat (.int a), .dat (.int b) => fun st => if b ≠ 0 then some (.dat (.int (a.fmod b)), st) else none
  | _, _ => AM.fail
noncomputable def divA : AV → AV → AM AV
  | .dat (.int a), .dat (.int b) => fun st => if 0 < b ∧ b < 1000 then some (.dat (.int (a.fdiv b)), st) else none
  | _, _ => AM.fail
noncomputable def subA : AV → AV → AM AV
  | .dat (.int a), .dat (.int b) => AM.pure (.dat (.int (a - b)))
  | _, _ => AM.fail
theorem ref_mod {v1 v2 : Value} {a1 a2 : AV} : Ref G C hq (binaryOp .Mod v1 v2) RV (modA a1 a2) [(v1, a1), (v2, a2)] := by
  intro kp pn W s st A hA I hΓ b st' hm
  have r1 : RV W v1 a1 := hΓ _ (.head _)
  have r2 : RV W v2 a2 := hΓ _ (.tail _ (.head _))
  unfold modA at hm
  split at hm
  · split at hm
    · rename_i hb
      cases hm
      obtain ⟨t, rfl⟩ := rv_int r1
      obtain ⟨u, rfl⟩ := rv_int r2
      exact PyProof.Rows.mod_int' hb ⟨W, .refl _, I.toks, .int _ _⟩
    · cases hm
  · exact (fail_some hm).elim
theorem ref_div {v1 v2 : Value} {a1 a2 : AV} : Ref G C hq (binaryOp .FloorDiv v1 v2) RV (divA a1 a2) [(v1, a1), (v2, a2)] := by
  intro kp pn W s st A hA I hΓ b st' hm
  have r1 : RV W v1 a1 := hΓ _ (.head _)
  have r2 : RV W v2 a2 := hΓ _ (.tail _ (.head _))
  unfold divA at hm
  split at hm
  · split at hm
    · rename_i hb
      cases hm
      obtain ⟨t, rfl⟩ := rv_int r1
      obtain ⟨u, rfl⟩ := rv_int r2
      exact PyProof.Rows.floordiv_int (by omega) ⟨W, .refl _, I.toks, .int _ _⟩ (.inl (PyProof.noPylong_small (by omega)))
    · cases hm
  · exact (fail_some hm).elim
noncomputable def iaddA : AV → AV → AM AV
  | .dat (.int a), .dat (.int b) => AM.pure (.dat (.int (a + b)))
  | _, _ => AM.fail
theorem ref_iadd {v1 v2 : Value} {a1 a2 : AV} : Ref G C hq (inplaceOp .Add v1 v2) RV (iaddA a1 a2) [(v1, a1), (v2, a2)] := by
  intro kp pn W s st A hA I hΓ b st' hm
  have r1 : RV W v1 a1 := hΓ _ (.head _)
  have r2 : RV W v2 a2 := hΓ _ (.tail _ (.head _))
  unfold iaddA at hm
  split at hm
  · obtain ⟨rfl, rfl⟩ := pure_some hm
    obtain ⟨t, rfl⟩ := rv_int r1
    obtain ⟨u, rfl⟩ := rv_int r2
    exact PySem.P.iadd_int ⟨W, .refl _, I.toks, .int _ _⟩
  · exact (fail_some hm).elim
theorem ref_isub {v1 v2 : Value} {a1 a2 : AV} : Ref G C hq (inplaceOp .Sub v1 v2) RV (subA a1 a2) [(v1, a1), (v2, a2)] := by
  intro kp pn W s st A hA I hΓ b st' hm
  have r1 : RV W v1 a1 := hΓ _ (.head _)
  have r2 : RV W v2 a2 := hΓ _ (.tail _ (.head _))
  unfold subA at hm
  split at hm
  · obtain ⟨rfl, rfl⟩ := pure_some hm
    obtain ⟨t, rfl⟩ := rv_int r1
    obtain ⟨u, rfl⟩ := rv_int r2
    exact PySem.P.isub_int ⟨W, .refl _, I.toks, .int _ _⟩
  · exact (fail_some hm).elim

/-! truth -/
noncomputable def truthA : AV → AM Bool
  | .dat .none => AM.pure false
  | .dat (.bool b) => AM.pure b
  | .dat (.int i) => AM.pure (i != 0)
  | .dat (.str x) => fun st => if x.length < 1000 then some ((x.length : Int) != 0, st) else none
  | .dat (.list l) => fun st => if l.length < 1000 then some (!l.isEmpty, st) else none
  | .ref r => fun st => match st.heap[r]? with
    | some (.list l) => if l.length < 1000 then some (!l.isEmpty, st) else none
    | _ => none
  | _ => AM.fail
theorem ref_truth {v : Value} {a : AV} : Ref G C hq (truthy v) RB (truthA a) [(v, a)] := by
  intro kp pn W s st A hA I hΓ b st' hm
  have r1 : RV W v a := hΓ _ (.head _)
  unfold truthA at hm
  split at hm
  · obtain ⟨rfl, rfl⟩ := pure_some hm
    obtain rfl := rv_none r1
    exact PyProof.Rows.truthy_none ⟨W, .refl _, I, rfl⟩
  · obtain ⟨rfl, rfl⟩ := pure_some hm
    obtain rfl := rv_bool r1
    exact wpAny_truthy_bool ⟨W, .refl _, I, rfl⟩
  · obtain ⟨rfl, rfl⟩ := pure_some hm
    obtain ⟨t, rfl⟩ := rv_int r1
    exact PySem.P.truthy_int ⟨W, .refl _, I, rfl⟩
  · split at hm
    · rename_i x hl
      cases hm
      obtain ⟨t, rfl⟩ := rv_str r1
      exact PySem.P.truthy_str (by omega) ⟨W, .refl _, I.toks, rfl⟩
    · cases hm
  · split at hm
    · rename_i l hl
      cases hm
      obtain ⟨x, vs, n, rfl, m1, d1⟩ := rv_list r1
      have l1 := d1.length
      have e1 := RDs.isEmpty d1
      simp only [Array.length_toList, Array.isEmpty_toList] at l1 e1
      exact wpAny_truthy_list (items := vs) ⟨_, I.frz _ m1, rfl, n, rfl⟩ (by omega) ⟨W, .refl _, I.toks, by rw [e1]⟩
    · cases hm
  · split at hm
    · rename_i r l e
      split at hm
      · rename_i hl
        cases hm
        obtain ⟨x, hx, rfl⟩ := r1
        obtain ⟨x', hx', o, ho, vs, n, rfl, d1⟩ := I.trk.get e
        rw [hx] at hx'; cases hx'
        have l1 := d1.length
        simp only [Array.length_toList] at l1
        refine wpAny_truthy_list (items := vs) ⟨_, ho, rfl, n, rfl⟩ (by omega) ⟨W, .refl _, I.toks, ?_⟩
        have : vs.isEmpty = l.isEmpty := by
          rw [← Array.isEmpty_toList]; generalize vs.toList = ws at d1; cases d1 <;> rfl
        rw [this]
      · cases hm
    · cases hm
  · exact (fail_some hm).elim

/-! comparisons -/
noncomputable def okD (d : PyData) : Bool := d.canLay0 && decide (d.depth ≤ 50)
/-- an object read as data: data, or a tracked list of data -/
noncomputable def dataOf (a : AV) (st : St) : Option PyData := match a with
  | .dat d => some d
  | .ref r => match st.heap[r]? with
    | some (.list l) => (datsA l).map .list
    | _ => none
  | _ => none
theorem data_reads {kp pn : List (Addr × Obj)} {W : WS} {s : Shared} {st : St} (I : G.I C kp pn W s st) {v : Value} {a : AV} {d : PyData} (r : RV W v a) (e : dataOf a st = some d) : ∃ as, Reads s.heap v d as := by
  unfold dataOf at e
  split at e
  · cases e; exact RD.reads I.frz r
  · split at e
    · rename_i l hl
      obtain ⟨ds, hd, rfl⟩ := Option.map_eq_some_iff.mp e
      obtain ⟨x, hx, rfl⟩ := r
      obtain ⟨x', hx', o, ho, vs, n, rfl, hr⟩ := I.trk.get hl
      rw [hx] at hx'; cases hx'
      obtain ⟨as, ra⟩ := RDs.reads I.frz (dats_of hr hd)
      exact ⟨_, .list ho rfl rfl ra⟩
    · cases e
  · cases e
noncomputable def eqA (neg : Bool) (a b : AV) : AM AV := fun st => match dataOf a st, dataOf b st with
  | some d, some e => if okD d && okD e then some (.dat (.bool (if neg then !PyData.eqv d e else PyData.eqv d e)), st) else none
  | _, _ => none
theorem okD_of {d : PyData} (h : okD d = true) : d.canLay0 = true ∧ d.depth ≤ 50 := by simpa [okD] using h
theorem units_ok {A : Around} (hA : AOk C hq A) (hC : C.Ok) {n : Nat} (h : n ≤ 100) : A.units + n < cLine := by
  have := hA.un; have := hC.un
  have : cLine = 9900 := rfl
  omega
theorem eqA_some {neg : Bool} {a b r : AV} {st st' : St} (h : eqA neg a b st = some (r, st')) : ∃ d e, dataOf a st = some d ∧ dataOf b st = some e ∧ okD d = true ∧ okD e = true ∧ r = .dat (.bool (if neg then !PyData.eqv d e else PyData.eqv d e)) ∧ st' = st := by
  unfold eqA at h
  cases hd : dataOf a st with
  | none => rw [hd] at h; cases h
  | some d =>
    cases he : dataOf b st with
    | none => rw [hd, he] at h; cases h
    | some e =>
      rw [hd, he] at h
      dsimp only at h
      by_cases hk : (okD d && okD e) = true
      · rw [if_pos hk] at h
        cases h
        rw [Bool.and_eq_true] at hk
        exact ⟨d, e, rfl, rfl, hk.1, hk.2, rfl, rfl⟩
      · rw [if_neg hk] at h; cases h
theorem ref_eq (hC : C.Ok) {v1 v2 : Value} {a1 a2 : AV} : Ref G C hq (compareOp .Eq v1 v2) RV (eqA false a1 a2) [(v1, a1), (v2, a2)] := by
  intro kp pn W s st A hA I hΓ b st' hm
  obtain ⟨d, e, h1, h2, k1, k2, rfl, rfl⟩ := eqA_some hm
  obtain ⟨as, ra⟩ := data_reads I (hΓ _ (.head _)) h1
  obtain ⟨bs, rb⟩ := data_reads I (hΓ _ (.tail _ (.head _))) h2
  have n1 := (okD_of k1).2
  have n2 := (okD_of k2).2
  exact SeqAt.compareEq_reads ra rb (okD_of k1).1 (okD_of k2).1 (units_ok hA hC (by omega)) ⟨W, .refl _, I, .bool _⟩
theorem ref_ne (hC : C.Ok) {v1 v2 : Value} {a1 a2 : AV} : Ref G C hq (compareOp .NotEq v1 v2) RV (eqA true a1 a2) [(v1, a1), (v2, a2)] := by
  intro kp pn W s st A hA I hΓ b st' hm
  obtain ⟨d, e, h1, h2, k1, k2, rfl, rfl⟩ := eqA_some hm
  obtain ⟨as, ra⟩ := data_reads I (hΓ _ (.head _)) h1
  obtain ⟨bs, rb⟩ := data_reads I (hΓ _ (.tail _ (.head _))) h2
  have n1 := (okD_of k1).2
  have n2 := (okD_of k2).2
  exact SeqAt.compareNe_reads ra rb (okD_of k1).1 (okD_of k2).1 (units_ok hA hC (by omega)) ⟨W, .refl _, I, .bool _⟩
noncomputable def ltA : AV → AV → AM AV
  | .dat (.int a), .dat (.int b) => AM.pure (.dat (.bool (decide (a < b))))
  | _, _ => AM.fail
noncomputable def geA : AV → AV → AM AV
  | .dat (.int a), .dat (.int b) => AM.pure (.dat (.bool (decide (a ≥ b))))
  | _, _ => AM.fail
theorem ref_lt {v1 v2 : Value} {a1 a2 : AV} : Ref G C hq (compareOp .Lt v1 v2) RV (ltA a1 a2) [(v1, a1), (v2, a2)] := by
  intro kp pn W s st A hA I hΓ b st' hm
  have r1 : RV W v1 a1 := hΓ _ (.head _)
  have r2 : RV W v2 a2 := hΓ _ (.tail _ (.head _))
  unfold ltA at hm
  split at hm
  · obtain ⟨rfl, rfl⟩ := pure_some hm
    obtain ⟨t, rfl⟩ := rv_int r1
    obtain ⟨u, rfl⟩ := rv_int r2
    exact PySem.P.lt_int ⟨W, .refl _, I, .bool _⟩
  · exact (fail_some hm).elim
theorem ref_ge {v1 v2 : Value} {a1 a2 : AV} : Ref G C hq (compareOp .GtE v1 v2) RV (geA a1 a2) [(v1, a1), (v2, a2)] := by
  intro kp pn W s st A hA I hΓ b st' hm
  have r1 : RV W v1 a1 := hΓ _ (.head _)
  have r2 : RV W v2 a2 := hΓ _ (.tail _ (.head _))
  unfold geA at hm
  split at hm
  · obtain ⟨rfl, rfl⟩ := pure_some hm
    obtain ⟨t, rfl⟩ := rv_int r1
    obtain ⟨u, rfl⟩ := rv_int r2
    exact PySem.P.ge_int ⟨W, .refl _, I, .bool _⟩
  · exact (fail_some hm).elim
noncomputable def isA (neg : Bool) : AV → AV → AM AV
  | .dat .none, .dat .none => AM.pure (.dat (.bool (!neg)))
  | .dat (.list _), .dat .none => AM.pure (.dat (.bool neg))
  | .dat (.int _), .dat .none => AM.pure (.dat (.bool neg))
  | .dat (.tuple _), .dat .none => AM.pure (.dat (.bool neg))
  | .ref _, .dat .none => AM.pure (.dat (.bool neg))
  | .typ a, .typ b => AM.pure (.dat (.bool (if a == b then !neg else neg)))
  | _, _ => AM.fail
theorem isA_val {W : WS} {neg : Bool} {v1 v2 : Value} {a1 a2 : AV} {st st' : St} {b : AV} (r1 : RV W v1 a1) (r2 : RV W v2 a2) (hm : isA neg a1 a2 st = some (b, st')) : st' = st ∧ plainIs v1 v2 = true ∧ b = .dat (.bool (if neg then !(v1 == v2) else (v1 == v2))) := by
  unfold isA at hm
  split at hm
  · obtain ⟨rfl, rfl⟩ := pure_some hm
    obtain rfl := rv_none r1
    obtain rfl := rv_none r2
    exact ⟨rfl, rfl, by cases neg <;> rfl⟩
  · obtain ⟨rfl, rfl⟩ := pure_some hm
    obtain rfl := rv_none r2
    obtain ⟨x, vs, n, rfl, m1, d1⟩ := rv_list r1
    exact ⟨rfl, rfl, by cases neg <;> rfl⟩
  · obtain ⟨rfl, rfl⟩ := pure_some hm
    obtain rfl := rv_none r2
    obtain ⟨t, rfl⟩ := rv_int r1
    exact ⟨rfl, rfl, by cases neg <;> rfl⟩
  · obtain ⟨rfl, rfl⟩ := pure_some hm
    obtain rfl := rv_none r2
    obtain ⟨x, vs, n, rfl, m1, d1⟩ := rv_tuple r1
    exact ⟨rfl, rfl, by cases neg <;> rfl⟩
  · obtain ⟨rfl, rfl⟩ := pure_some hm
    obtain rfl := rv_none r2
    obtain ⟨x, hx, rfl⟩ := r1
    exact ⟨rfl, rfl, by cases neg <;> rfl⟩
  · rename_i a b'
    obtain ⟨rfl, rfl⟩ := pure_some hm
    obtain rfl : v1 = .type a := r1
    obtain rfl : v2 = .type b' := r2
    refine ⟨rfl, rfl, ?_⟩
    have : ((Value.type a == Value.type b') : Bool) = (a == b') := by
      by_cases h : a = b'
      · subst h; simp
      · rw [beq_eq_false_iff_ne.mpr h, beq_eq_false_iff_ne.mpr (fun e => h (by cases e; rfl))]
    rw [this]
    cases neg <;> cases (a == b') <;> rfl
  · exact (fail_some hm).elim
theorem ref_is {v1 v2 : Value} {a1 a2 : AV} : Ref G C hq (compareOp .Is v1 v2) RV (isA false a1 a2) [(v1, a1), (v2, a2)] := by
  intro kp pn W s st A hA I hΓ b st' hm
  obtain ⟨rfl, hp, rfl⟩ := isA_val (hΓ _ (.head _)) (hΓ _ (.tail _ (.head _))) hm
  exact wpAny_is_plain hp ⟨W, .refl _, I, .bool _⟩
theorem ref_isNot {v1 v2 : Value} {a1 a2 : AV} : Ref G C hq (compareOp .IsNot v1 v2) RV (isA true a1 a2) [(v1, a1), (v2, a2)] := by
  intro kp pn W s st A hA I hΓ b st' hm
  obtain ⟨rfl, hp, rfl⟩ := isA_val (hΓ _ (.head _)) (hΓ _ (.tail _ (.head _))) hm
  exact wpAny_isNot_plain hp ⟨W, .refl _, I, .bool _⟩
noncomputable def okDs (l : List PyData) : Bool := okD (.list l)
noncomputable def inA : AV → AV → AM AV
  | .dat d, .dat (.list l) => fun st => if okD d && okDs l then some (.dat (.bool (l.any fun y => PyData.eqv y d)), st) else none
  | .dat (.int k), .ref r => fun st => match st.heap[r]? with
    | some (.set l) => if l.length < 100 then some (.dat (.bool (l.contains k)), st) else none
    | some (.dict l) => some (.dat (.bool (l.any fun p => decide (p.1 = k))), st)
    | _ => none
  | _, _ => AM.fail
theorem sys_ne (hG : G.Ok) {kp pn : List (Addr × Obj)} {W : WS} {s : Shared} {st : St} (I : G.I C kp pn W s st) {i : Nat} {a : Addr} (h : W.sig[i]? = some a) : (a == sysModules) = false := by
  have h1 := I.old a (List.mem_append_right _ (List.mem_of_getElem? h))
  have h2 := hG.sz
  have : sysModules = 1 := rfl
  refine beq_eq_false_iff_ne.mpr fun e => ?_
  subst e
  exact absurd (Nat.le_trans h2 h1) (by decide)
theorem valueAt_any {kvs : List (Int × Value)} {l : List (Int × AV)} {W : WS} (h : A2 (fun kv p => kv.1 = p.1 ∧ RV W kv.2 p.2) kvs l) (k : Int) : (valueAt kvs k).isSome = l.any fun p => decide (p.1 = k) := by
  unfold valueAt
  induction h with
  | nil => rfl
  | cons h1 h2 ih =>
    rename_i kv p kvs l
    simp only [List.find?_cons, List.any_cons]
    rw [h1.1]
    by_cases e : p.1 = k
    · simp [e]
    · simp only [e, decide_false, Bool.false_or]; exact ih
theorem ref_in (hG : G.Ok) (hC : C.Ok) {v1 v2 : Value} {a1 a2 : AV} : Ref G C hq (compareOp .In v1 v2) RV (inA a1 a2) [(v1, a1), (v2, a2)] := by
  intro kp pn W s st A hA I hΓ b st' hm
  have r1 : RV W v1 a1 := hΓ _ (.head _)
  have r2 : RV W v2 a2 := hΓ _ (.tail _ (.head _))
  unfold inA at hm
  split at hm
  · split at hm
    · rename_i d l hok
      cases hm
      simp only [Bool.and_eq_true] at hok
      obtain ⟨c1, n1⟩ := okD_of hok.1
      obtain ⟨c2, n2⟩ := okD_of hok.2
      obtain ⟨as, ra⟩ := RD.reads I.frz r1
      obtain ⟨bs, rb⟩ := RD.reads I.frz r2
      have n3 : PyData.depthAll l ≤ 50 := by simp only [PyData.depth] at n2; omega
      refine SeqAt.in_list_reads rb ra (by simpa [PyData.canLay0] using c2) c1 ?_ ⟨W, .refl _, I, .bool _⟩
      have := units_ok hA hC (n := 1 + min (PyData.depthAll l) d.depth) (by omega)
      omega
    · cases hm
  · obtain ⟨t, rfl⟩ := rv_int r1
    obtain ⟨x, hx, rfl⟩ := r2
    split at hm
    · rename_i r l e
      split at hm
      · rename_i hl
        cases hm
        obtain ⟨x', hx', o, ho, hs⟩ := I.trk.get e
        rw [hx] at hx'; cases hx'
        exact wpAny_inSet_of (intKind_is _ _ _ _) rfl (Obj.SetObjOf.setOf hs ho (Nat.lt_trans hl (by decide))) ⟨W, .refl _, I.toks, .bool _⟩
      · cases hm
    · rename_i r l e
      cases hm
      obtain ⟨x', hx', o, ho, kvs, hd, d2⟩ := I.trk.get e
      rw [hx] at hx'; cases hx'
      have D : s.heap.DictOf (intKind G.prog G.w) x kvs := Heap.dictOf_iff.mpr ⟨o, ho, hd⟩
      refine wpAny_in_of (intKind_is _ _ _ _) (sys_ne hG I hx) D.mapOf ⟨W, .refl _, I.toks, ?_⟩
      rw [valueAt_any d2]
      exact .bool _
    · cases hm
  · exact (fail_some hm).elim
end
end Mine

open PySem PySem.W PyProof.Rows PySem.Calls PySem.Spec
set_option Elab.async false
namespace Mine

/-- a for loop whose target may be a tuple -/
theorem loop_for {prog : Program} {w : World} {A : Around} {R : Result → Shared → Prop} {s : Shared} {target : Expr} {it : Value} {body orelse : List Stmt} {env : Env} (I : Nat → Shared → Prop)
    (turn : ∀ n s, I n s → wpAny (model prog w) A (pyNext it) (fun r s₁ => match r with
      | none => wpAny (model prog w) A (execs orelse env) (fun f s₃ => R (.ok f) s₃) (fun _ _ => False) s₁
      | some v => wpAny (model prog w) A (letOwnedTupleGo target it v) (fun _ s₀ => wpAny (model prog w) A (assign target env v) (fun _ s₂ => wpAny (model prog w) A (execs body env) (fun f s₃ => match f with
          | .next | .cont => ∃ m, m < n ∧ I m s₃
          | .brk => R (.ok .next) s₃
          | .ret v => R (.ok (.ret v)) s₃) (fun _ _ => False) s₂) (fun _ _ => False) s₀) (fun _ _ => False) s₁) (fun _ _ => False) s)
    (n : Nat) (h : I n s) : codeAny (model prog w) A (.forLoop target it body orelse env) R s := by
  refine codeAny_loop' rfl I (fun n s hI => ?_) n h
  show wpAny _ _ ((forTurn target it body orelse env).onRaise (fun x => do noteFrame x env; theTreesLotGoes x)) _ _ s
  refine wpAny_onRaise (wpAny_mono (E := fun _ _ => False) ?_ (fun _ _ x => x) fun _ _ x => x.elim)
  simp only [forTurn]
  refine wpAny_bind (wpAny_standAt (wpAny_bind (wpAny_onRaise (wpAny_mono (turn n s hI) (fun r s₁ h₁ => ?_) fun _ _ h' => h'.elim))))
  cases r with
  | none => exact wpAny_pure (.inr ⟨rfl, codeAny_block (wpAny_mono h₁ (fun _ _ x => x) fun _ _ x => x.elim)⟩)
  | some v =>
    refine wpAny_bind (wpAny_mono h₁ (fun _ s₀ h₀ => ?_) fun _ _ h' => h')
    refine wpAny_bind (wpAny_mono h₀ (fun _ s₂ h₂ => wpAny_bind (wpAny_mono h₂ (fun f s₃ h₃ => ?_) fun _ _ h' => h')) fun _ _ h' => h')
    cases f with
    | next => exact wpAny_pure (.inl ⟨rfl, h₃⟩)
    | cont => exact wpAny_pure (.inl ⟨rfl, h₃⟩)
    | brk => exact wpAny_pure h₃
    | ret v => exact wpAny_pure h₃

noncomputable def forA (src : St → Option (List AV)) (ta : AV → AM Unit) (mb : AM AF) : Nat → Nat → AM AF
  | 0, _ => AM.fail
  | n + 1, i => fun st => match src st with
    | none => none
    | some l => match l[i]? with
      | none => some (.next, st)
      | some av => match ta av st with
        | none => none
        | some (_, st1) => match mb st1 with
          | none => none
          | some (.next, st2) => forA src ta mb n (i + 1) st2
          | some (.cont, st2) => forA src ta mb n (i + 1) st2
          | some (.brk, st2) => some (.next, st2)
          | some (.ret v, st2) => some (.ret v, st2)

section
variable {G : Gl} {C : Act}

structure Steps (G : Gl) (C : Act) (pn : List (Addr × Obj)) (W₀ : WS) (it : Addr) (src : St → Option (List AV)) (P : Obj → Nat → Prop) : Prop where
  item : ∀ (i : Nat) kp W s st A o l av (Q : Option Value → Shared → Prop), AOk C true A → W₀.le W → G.I C kp pn W s st → src st = some l → l[i]? = some av → s.heap.get? it = some o → P o i →
    (∀ v h' tk o', RV W v av → h'.get? it = some o' → P o' (i + 1) → Heap.SameBut it s.heap h' → Q (some v) { s with heap := h', toks := tk }) → wpAny G.M A (pyNext (.ref it)) Q (fun _ _ => False) s
  fin : ∀ (i : Nat) kp W s st A o l (Q : Option Value → Shared → Prop), AOk C true A → W₀.le W → G.I C kp pn W s st → src st = some l → l[i]? = none → s.heap.get? it = some o → P o i →
    (∀ h', Heap.ExtBut it s.heap h' → Q none { s with heap := h' }) → wpAny G.M A (pyNext (.ref it)) Q (fun _ _ => False) s
  self : ∀ {s : Shared} {A : Around} {o : Obj} {i : Nat} {Q : Value → Shared → Prop} {E : Value → Shared → Prop}, s.heap.get? it = some o → P o i → Q (.ref it) s → wpAny G.M A (pyIter (.ref it)) Q E s
  obj : ∀ o i, P o i → ∃ t vs, o.cls = .type t ∧ o.data = .fields vs ∧ (["enumerate", "zip", "dict_itemiterator", "dict_reverseitemiterator", "odict_iterator", "itertools.zip_longest", "itertools.pairwise"].contains t) = false

structure Fresh (C : Act) (kp pn : List (Addr × Obj)) (W : WS) (it : Addr) : Prop where
  own : ∀ a ∈ C.own ++ W.sig, it ≠ a
  frz : ∀ p ∈ W.frz, p.1 ≠ it
  kp : ∀ p ∈ kp, p.1 ≠ it
  ups : ∀ p ∈ C.ups, p.1 ≠ it
  pn : ∀ p ∈ pn, p.1 ≠ it

theorem letOwned_quiet {A : Around} {E : Value → Shared → Prop} {s : Shared} {tgt : Expr} {it : Addr} {o : Obj} {v : Value} {Q : Unit → Shared → Prop} {t : String} {vs : Array Value} (ho : s.heap.get? it = some o) (hc : o.cls = .type t) (hd : o.data = .fields vs)
    (hn : (["enumerate", "zip", "dict_itemiterator", "dict_reverseitemiterator", "odict_iterator", "itertools.zip_longest", "itertools.pairwise"].contains t) = false) (h : Q () s) : wpAny G.M A (letOwnedTupleGo tgt (.ref it) v) Q E s := by
  have key : ∀ (r a : Addr), r = it → wpAny G.M A (do
      let o ← load r
      match o.cls, o.data with
      | .type n, .fields vs =>
        if ["enumerate", "zip", "dict_itemiterator", "dict_reverseitemiterator", "odict_iterator", "itertools.zip_longest", "itertools.pairwise"].contains n && vs[0]? == some (rawInt a) then
          rule "for.unpacks-the-owned-tuple"
          updateField r 0 .none
      | _, _ => pure ()) Q E s := by
    intro r a hr
    subst hr
    refine wpAny_bind (wpAny_load ho ?_)
    rw [hc, hd]
    dsimp only
    rw [hn]
    exact wpAny_pure h
  unfold letOwnedTupleGo
  split
  · split
    · rename_i a e1
      cases e1
      exact key _ _ rfl
    · exact wpAny_pure h
  · split
    · rename_i a e1
      cases e1
      exact key _ _ rfl
    · exact wpAny_pure h
  · exact wpAny_pure h

/-- the iterator stepped on -/
theorem Inv.stepIt {kp pn : List (Addr × Obj)} {W : WS} {s s' : Shared} {st : St} {it : Addr} (I : G.I C kp pn W s st) (F : Fresh C kp pn W it) (hs : Heap.ExtBut it s.heap s'.heap) (h0 : G.h₀.objs.size ≤ it)
    (hg : s'.gens = s.gens := by rfl) (ho : (s'.os, s'.drawn) = (s.os, s.drawn) := by rfl) : G.I C kp pn W s' st := by
  refine ⟨fun b o e => hs b o (old_ne h0 e) (I.base b o e), ?_, I.trk.mono' ?_, fun p hp => hs _ _ (F.frz p hp) (I.frz p hp), fun p hp => hs _ _ (F.kp p hp) (I.kept p hp),
    fun p hp => let ⟨sl, h⟩ := I.ups p hp; ⟨sl, hs _ _ (F.ups p hp) h⟩, I.apart, I.old, I.sep, I.fk, I.fu, I.upp, fun p hp => hs _ _ (F.pn p hp) (I.pin p hp), I.sepp, gd hg I.gens, ho.trans I.os⟩
  · obtain ⟨m, ⟨o, es, ep, e1, e2⟩, l⟩ := I.ns
    exact ⟨m, ⟨o, es, ep, hs _ _ (F.own _ (List.mem_append_left _ (.head _))).symm e1, e2⟩, l⟩
  · intro a ha ao ⟨o, x1, x2⟩
    exact ⟨o, hs _ _ (F.own a (List.mem_append_right _ ha)).symm x1, x2⟩

theorem Inv.hold {kp pn : List (Addr × Obj)} {W : WS} {s : Shared} {st : St} {it : Addr} {o : Obj} (I : G.I C kp pn W s st) (F : Fresh C kp pn W it) (ho : s.heap.get? it = some o) : G.I C ((it, o) :: kp) pn W s st :=
  ⟨I.base, I.ns, I.trk, I.frz, fun p hp => by
    rcases List.mem_cons.mp hp with rfl | hp
    · exact ho
    · exact I.kept p hp, I.ups, I.apart, I.old, fun a ha => ⟨(I.sep a ha).1, fun p hp => by
    rcases List.mem_cons.mp hp with rfl | hp
    · exact F.own a ha
    · exact (I.sep a ha).2.1 p hp, (I.sep a ha).2.2⟩, fun p hp q hq => by
    rcases List.mem_cons.mp hq with rfl | hq
    · exact F.frz p hp
    · exact I.fk p hp q hq, I.fu, fun q hq => ⟨(I.upp q hq).1, (I.upp q hq).2.1, fun p hp => by
    rcases List.mem_cons.mp hp with rfl | hp
    · exact (F.ups q hq).symm
    · exact (I.upp q hq).2.2.1 p hp, (I.upp q hq).2.2.2⟩, I.pin, I.sepp, I.gens, I.os⟩
theorem Inv.unhold {kp pn : List (Addr × Obj)} {W₀ W : WS} {s : Shared} {st : St} {it : Addr} {o : Obj} (I : G.I C ((it, o) :: kp) pn W s st) (F : Fresh C kp pn W₀ it) : G.I C kp pn W s st ∧ Fresh C kp pn W it ∧ s.heap.get? it = some o :=
  ⟨⟨I.base, I.ns, I.trk, I.frz, fun p hp => I.kept p (.tail _ hp), I.ups, I.apart, I.old, fun a ha => ⟨(I.sep a ha).1, fun p hp => (I.sep a ha).2.1 p (.tail _ hp), (I.sep a ha).2.2⟩, fun p hp q hq => I.fk p hp q (.tail _ hq), I.fu, fun q hq => ⟨(I.upp q hq).1, (I.upp q hq).2.1, fun p hp => (I.upp q hq).2.2.1 p (.tail _ hp), (I.upp q hq).2.2.2⟩, I.pin, I.sepp, I.gens, I.os⟩,
   ⟨fun a ha => (I.sep a ha).2.1 _ (.head _), fun p hp => I.fk p hp _ (.head _), F.kp, F.ups, F.pn⟩, I.kept _ (.head _)⟩

theorem loop_ref {pn : List (Addr × Obj)} {W₀ : WS} {it : Addr} {src : St → Option (List AV)} {P : Obj → Nat → Prop} {tgt : Expr} {body : List Stmt} {ta : AV → AM Unit} {mb : AM AF}
    (Rt : ∀ v av, Ref G C true (assign tgt C.env v) RU (ta av) [(v, av)]) (Rb : Ref G C true (execs body C.env) RF mb) (S : Steps G C pn W₀ it src P) (h0 : G.h₀.objs.size ≤ it)
    {kp : List (Addr × Obj)} {A : Around} (hA : AOk C true A) {n i : Nat} {W : WS} {s : Shared} {st st' : St} {b : AF} {o : Obj} (hm : forA src ta mb n i st = some (b, st')) (I : G.I C kp pn W s st) (hW : W₀.le W)
    (ho : s.heap.get? it = some o) (hP : P o i) (F : Fresh C kp pn W it) :
    codeAny G.M A (.forLoop tgt (.ref it) body [] C.env) (fun r s' => ∃ f W', r = .ok f ∧ W.le W' ∧ G.I C kp pn W' s' st' ∧ RF W' f b) s := by
  refine loop_for (fun n s => ∃ i W1 st1 o, forA src ta mb n i st1 = some (b, st') ∧ G.I C kp pn W1 s st1 ∧ W.le W1 ∧ s.heap.get? it = some o ∧ P o i ∧ Fresh C kp pn W1 it) ?_ n ⟨i, W, st, o, hm, I, .refl _, ho, hP, F⟩
  rintro n s ⟨i, W1, st1, o, hm, I, hWW, ho, hP, F⟩
  cases n with
  | zero => exact (fail_some hm).elim
  | succ n =>
    simp only [forA] at hm
    split at hm
    · cases hm
    · rename_i l hl
      obtain ⟨t, vs, hc, hd, hn⟩ := S.obj o i hP
      split at hm
      · rename_i hnone
        cases hm
        refine S.fin i kp W1 s _ A o l _ hA (hW.trans hWW) I hl hnone ho hP fun h' hs => wpAny_execs_nil ?_
        exact ⟨.next, W1, rfl, hWW, Inv.stepIt (s' := { s with heap := h' }) I F hs h0, trivial⟩
      · rename_i av hav
        split at hm
        · cases hm
        · rename_i u st2 ht
          refine S.item i kp W1 s _ A o l av _ hA (hW.trans hWW) I hl hav ho hP fun v h' tk o' hr ho' hP' hs => ?_
          have I1 : G.I C kp pn W1 { s with heap := h', toks := tk } st1 := Inv.stepIt I F hs.extBut h0
          obtain ⟨t', vs', hc', hd', hn'⟩ := S.obj o' _ hP'
          refine letOwned_quiet ho' hc' hd' hn' ?_
          have I2 := I1.hold F ho'
          refine (Rt v av).use hA I2 (fun p hp => by rw [List.mem_singleton.mp hp]; exact hr) ht fun _ s2 W2 k1 k2 _ => ?_
          split at hm
          · cases hm
          all_goals
            rename_i st3 hb
            refine Rb.use0 hA k2 hb fun f s3 W3 j1 j2 j3 => ?_
            obtain ⟨I3, F3, ho3⟩ := j2.unhold F
            cases f <;> simp only [RF] at j3
          · exact ⟨n, Nat.lt_succ_self n, i + 1, W3, st3, o', hm, I3, (hWW.trans k1).trans j1, ho3, hP', F3⟩
          · exact ⟨n, Nat.lt_succ_self n, i + 1, W3, st3, o', hm, I3, (hWW.trans k1).trans j1, ho3, hP', F3⟩
          · cases hm
            exact ⟨.next, W3, rfl, (hWW.trans k1).trans j1, I3, trivial⟩
          · cases hm
            exact ⟨.ret _, W3, rfl, (hWW.trans k1).trans j1, I3, j3⟩

/-- where an iterator is made -/
noncomputable def IterOk (G : Gl) (C : Act) (e : Expr) (mi : AM (St → Option (List AV))) : Prop :=
  ∀ kp pn W s st A, AOk C true A → G.I C kp pn W s st → ∀ src st1, mi st = some (src, st1) → ∀ (Q : Value → Shared → Prop),
    (∀ it s' W' P o, W.le W' → G.I C kp pn W' s' st1 → (∀ C' : Act, Steps G C' pn W' it src P) → G.h₀.objs.size ≤ it → s'.heap.get? it = some o → P o 0 → Fresh C kp pn W' it → Q (.ref it) s') →
    wpAny G.M A (eval e C.env) (fun x s₁ => wpAny G.M A (pyIter x) Q (fun _ _ => False) s₁) (fun _ _ => False) s

theorem ref_For {tgt iter : Expr} {body : List Stmt} {pos : Pos} {mi : AM (St → Option (List AV))} {ta : AV → AM Unit} {mb : AM AF} (fuel : Nat) (Ri : IterOk G C iter mi)
    (Rt : ∀ v av, Ref G C true (assign tgt C.env v) RU (ta av) [(v, av)]) (Rb : Ref G C true (execs body C.env) RF mb)
    (hs : ∀ x, foldedSetIterable iter C.env x = pure x) : Ref G C true (exec (.For tgt iter body [] pos) C.env) RF (mi.bind fun src => forA src ta mb fuel 0) := by
  intro kp pn W s st A hA I _ b st' hm
  obtain ⟨src, st1, e1, e2⟩ := bind_some hm
  refine wpAny_For (E := fun _ _ => False) (Ri kp pn W s st A hA I src st1 e1 _ fun it s' W' P o h1 h2 h3 h4 h5 h6 h7 => ?_) hs
  refine codeAny_mono (loop_ref Rt Rb (h3 C) h4 hA e2 h2 (.refl _) h5 h6 h7) fun r s' ⟨f, W'', e, k1, k2, k3⟩ => ?_
  subst e
  exact ⟨W'', h1.trans k1, k2, k3⟩

/-- a new iterator object is fresh -/
theorem Fresh.new {kp pn : List (Addr × Obj)} {W : WS} {s : Shared} {st : St} (I : G.I C kp pn W s st) : Fresh C kp pn W s.heap.objs.size :=
  ⟨fun a ha e => absurd (I.own_lt a ha) (by rw [e]; exact Nat.lt_irrefl _), fun p hp e => absurd (I.frz_lt p hp) (by rw [e]; exact Nat.lt_irrefl _), fun p hp e => absurd (I.kept_lt p hp) (by rw [e]; exact Nat.lt_irrefl _),
   fun p hp e => absurd (I.ups_lt p hp) (by rw [e]; exact Nat.lt_irrefl _), fun p hp e => absurd (Heap.lt_size (I.pin p hp)) (by rw [e]; exact Nat.lt_irrefl _)⟩

/-! the kinds of iterators -/
noncomputable def listItO (l : Addr) (i : Nat) : Obj := { cls := .type "list_iterator", data := .fields #[.ref l, .int i 0] }

/-- a list or tuple by value, a range -/
noncomputable def iterA : AV → Option (List AV)
  | .dat (.list l) => some (l.map .dat)
  | .dat (.tuple l) => some (l.map .dat)
  | .rng n => if 0 ≤ n ∧ n < 1000 then some ((List.range n.toNat).map fun i => .dat (.int (i : Nat))) else none
  | _ => none

theorem RDs.at {W : WS} {vs : List Value} {ds : List PyData} (h : RDs W.frz vs ds) {i : Nat} {av : AV} (e : (ds.map AV.dat)[i]? = some av) : ∃ v, vs[i]? = some v ∧ RV W v av := by
  rw [List.getElem?_map] at e
  obtain ⟨d, hd, rfl⟩ := Option.map_eq_some_iff.mp e
  exact h.get hd

theorem steps_list {pn : List (Addr × Obj)} {W₀ : WS} {a it : Addr} {vs : Array Value} {n : Nat} {ds : List PyData} (hm : (a, ({ cls := .type "list", data := .seq vs n } : Obj)) ∈ W₀.frz) (hd : RDs W₀.frz vs.toList ds) :
    Steps G C pn W₀ it (fun _ => some (ds.map .dat)) (fun o i => o.cls = .type "list_iterator" ∧ o.data = .fields #[.ref a, .int i 0]) where
  item := by
    intro i kp W s st A o l av Q hA hW I hl hav ho hP k
    cases hl
    obtain ⟨v, hv, hr⟩ := RDs.at (RDs.mono hW.frz hd) hav
    refine wpAny_pyNext_list_item (i := i) ⟨o, ho, hP.1, hP.2⟩ ⟨_, I.frz _ (hW.frz _ hm), rfl, n, rfl⟩ (by rw [← Array.getElem?_toList]; exact hv) fun h' ⟨o', x1, x2, x3⟩ hs => ?_
    exact k v h' s.toks o' hr x1 ⟨x2, x3⟩ hs
  fin := by
    intro i kp W s st A o l Q hA hW I hl hav ho hP k
    cases hl
    refine wpAny_pyNext_list_end (i := i) (hA.hd rfl) ⟨o, ho, hP.1, hP.2⟩ ⟨_, I.frz _ (hW.frz _ hm), rfl, n, rfl⟩ ?_ k
    have := hd.length
    rw [List.getElem?_eq_none_iff, List.length_map] at hav
    rw [Array.getElem?_eq_none_iff, ← Array.length_toList]
    omega
  self := fun ho hP h => wpAny_pyIter_listiter ⟨_, ho, hP.1, hP.2⟩ h
  obj := fun o i h => ⟨_, _, h.1, h.2, by decide⟩
end
end Mine

open PySem PySem.W PyProof.Rows PySem.Calls PySem.Spec
set_option Elab.async false
namespace Mine

section
variable {G : Gl} {C : Act}

theorem steps_tuple {pn : List (Addr × Obj)} {W₀ : WS} {a it : Addr} {vs : Array Value} {n : Nat} {ds : List PyData} (hm : (a, ({ cls := .type "tuple", data := .seq vs n } : Obj)) ∈ W₀.frz) (hd : RDs W₀.frz vs.toList ds) :
    Steps G C pn W₀ it (fun _ => some (ds.map .dat)) (fun o i => o.cls = .type "tuple_iterator" ∧ o.data = .fields #[.ref a, .int i 0]) where
  item := by
    intro i kp W s st A o l av Q hA hW I hl hav ho hP k
    cases hl
    obtain ⟨v, hv, hr⟩ := RDs.at (RDs.mono hW.frz hd) hav
    refine next_tuple_item (i := i) ⟨o, ho, hP.1, hP.2⟩ ⟨_, I.frz _ (hW.frz _ hm), rfl, n, rfl⟩ (by rw [← Array.getElem?_toList]; exact hv) fun h' ⟨o', x1, x2, x3⟩ hs => ?_
    exact k v h' s.toks o' hr x1 ⟨x2, x3⟩ hs
  fin := by
    intro i kp W s st A o l Q hA hW I hl hav ho hP k
    cases hl
    refine next_tuple_end (i := i) (hA.hd rfl) ⟨o, ho, hP.1, hP.2⟩ ⟨_, I.frz _ (hW.frz _ hm), rfl, n, rfl⟩ ?_ k
    have := hd.length
    rw [List.getElem?_eq_none_iff, List.length_map] at hav
    rw [Array.getElem?_eq_none_iff, ← Array.length_toList]
    omega
  self := fun ho hP h => wpAny_pyIter_tupleiter ⟨_, ho, hP.1, hP.2⟩ h
  obj := fun o i h => ⟨_, _, h.1, h.2, by decide⟩

theorem steps_range {pn : List (Addr × Obj)} {W₀ : WS} {it : Addr} {n : Nat} :
    Steps G C pn W₀ it (fun _ => some ((List.range n).map fun i => AV.dat (.int (i : Nat)))) (fun o i => o = { cls := .type "range_iterator", data := .fields #[rawInt (i : Int), rawInt ((n : Int) - i), rawInt 1] }) where
  item := by
    intro i kp W s st A o l av Q hA hW I hl hav ho hP k
    cases hl
    subst hP
    rw [List.getElem?_map] at hav
    obtain ⟨j, hj, rfl⟩ := Option.map_eq_some_iff.mp hav
    obtain ⟨hi, rfl⟩ := List.getElem?_eq_some_iff.mp hj
    have hi' : i < n := by simpa using hi
    refine wpAny_pyNext_range_item ho (by omega) fun h' hit hs => ?_
    refine k _ h' (s.toks + 1) _ ?_ hit ?_ hs
    · show RD _ _ _
      rw [List.getElem_range]
      exact .int _ _
    · have e1 : ((i : Int) + 1) = ((i + 1 : Nat) : Int) := by omega
      have e2 : (n : Int) - i - 1 = n - ((i + 1 : Nat) : Int) := by omega
      rw [e1, e2]
  fin := by
    intro i kp W s st A o l Q hA hW I hl hav ho hP k
    cases hl
    subst hP
    rw [List.getElem?_eq_none_iff, List.length_map, List.length_range] at hav
    exact wpAny_pyNext_range_end (hA.hd rfl) ho (by omega) k
  self := fun ho hP h => by subst hP; exact wpAny_pyIter_rangeiter ho h
  obj := fun o i h => by subst h; exact ⟨"range_iterator", _, rfl, rfl, by decide⟩

noncomputable def constSrc (l : List AV) : St → Option (List AV) := fun _ => some l
noncomputable def iterM (m : AM AV) : AM (St → Option (List AV)) := m.bind fun av => match iterA av with
  | some l => AM.pure (constSrc l)
  | none => AM.fail

theorem iter_val {e : Expr} {m : AM AV} (R : Ref G C true (eval e C.env) RV m) : IterOk G C e (iterM m) := by
  intro kp pn W s st A hA I src st1 hm Q k
  obtain ⟨av, st2, e1, e2⟩ := bind_some hm
  refine R.use0 hA I e1 fun v s1 W1 h1 h2 h3 => ?_
  cases hl : iterA av with
  | none => rw [hl] at e2; exact (fail_some e2).elim
  | some l =>
    rw [hl] at e2
    obtain ⟨rfl, rfl⟩ := pure_some e2
    unfold iterA at hl
    split at hl
    · cases hl
      obtain ⟨a, vs, n, rfl, hm, hd⟩ := rv_list h3
      refine wpAny_pyIter_list ⟨_, h2.frz _ hm, rfl, n, rfl⟩ ?_
      exact k _ _ W1 _ _ h1 (h2.keep fun b o e => Heap.get?_push_of_some _ e) (fun _ => steps_list hm hd) (Inv.base_lt h2) (Heap.get?_push_size _ rfl) ⟨rfl, rfl⟩ (Fresh.new h2)
    · cases hl
      obtain ⟨a, vs, n, rfl, hm, hd⟩ := rv_tuple h3
      refine iter_tuple ⟨_, h2.frz _ hm, rfl, n, rfl⟩ ?_
      exact k _ _ W1 _ _ h1 (h2.keep fun b o e => Heap.get?_push_of_some _ e) (fun _ => steps_tuple hm hd) (Inv.base_lt h2) (Heap.get?_push_size _ rfl) ⟨rfl, rfl⟩ (Fresh.new h2)
    · rename_i n
      split at hl
      · rename_i hn
        cases hl
        obtain ⟨b, o, rfl, hm, t, u, w', rfl⟩ := h3
        have hsz : Builtin.Range.rangeSize 0 n 1 = n := by rw [rangeSize_one]; split <;> omega
        refine wpAny_pyIter_range (h2.frz _ hm) (small_one (by omega) (by omega) (by omega) (by omega)) ?_
        refine k _ _ W1 _ _ h1 (h2.keep fun b o e => Heap.get?_push_of_some _ e) (fun _ => steps_range) (Inv.base_lt h2) (Heap.get?_push_size _ rfl) ?_ (Fresh.new h2)
        rw [hsz]
        have : ((n.toNat : Nat) : Int) - ((0 : Nat) : Int) = n := by omega
        rw [this]; rfl
      · cases hl
    · cases hl

/-- a tracked list walked -/
noncomputable def trkSrc (r : Nat) : St → Option (List AV) := fun st => match st.heap[r]? with
  | some (.list l) => some l
  | _ => none
noncomputable def iterT (m : AM AV) : AM (St → Option (List AV)) := m.bind fun av => match av with
  | .ref r => fun st => match st.heap[r]? with
    | some (.list _) => some (trkSrc r, st)
    | _ => none
  | _ => AM.fail
theorem trkSrc_some {r : Nat} {st : St} {l : List AV} (h : trkSrc r st = some l) : st.heap[r]? = some (.list l) := by
  unfold trkSrc at h
  split at h
  · rename_i e; cases h; exact e
  · cases h
theorem steps_trk {pn : List (Addr × Obj)} {W₀ : WS} {a it : Addr} {r : Nat} (ha : W₀.sig[r]? = some a) :
    Steps G C pn W₀ it (trkSrc r) (fun o i => o.cls = .type "list_iterator" ∧ o.data = .fields #[.ref a, .int i 0]) where
  item := by
    intro i kp W s st A o l av Q hA hW I hl hav ho hP k
    obtain ⟨a', ha', o', ho', vs, n, rfl, hd⟩ := I.trk.get (trkSrc_some hl)
    rw [hW.sig _ _ ha] at ha'; cases ha'
    obtain ⟨v, hv, hr⟩ := hd.get hav
    refine wpAny_pyNext_list_item (i := i) ⟨o, ho, hP.1, hP.2⟩ ⟨_, ho', rfl, n, rfl⟩ (by rw [← Array.getElem?_toList]; exact hv) fun h' ⟨o', x1, x2, x3⟩ hs => ?_
    exact k v h' s.toks o' hr x1 ⟨x2, x3⟩ hs
  fin := by
    intro i kp W s st A o l Q hA hW I hl hav ho hP k
    obtain ⟨a', ha', o', ho', vs, n, rfl, hd⟩ := I.trk.get (trkSrc_some hl)
    rw [hW.sig _ _ ha] at ha'; cases ha'
    refine wpAny_pyNext_list_end (i := i) (hA.hd rfl) ⟨o, ho, hP.1, hP.2⟩ ⟨_, ho', rfl, n, rfl⟩ ?_ k
    have := hd.length
    rw [List.getElem?_eq_none_iff] at hav
    rw [Array.getElem?_eq_none_iff, ← Array.length_toList]
    omega
  self := fun ho hP h => wpAny_pyIter_listiter ⟨_, ho, hP.1, hP.2⟩ h
  obj := fun o i h => ⟨_, _, h.1, h.2, by decide⟩
theorem iter_trk {e : Expr} {m : AM AV} (R : Ref G C true (eval e C.env) RV m) : IterOk G C e (iterT m) := by
  intro kp pn W s st A hA I src st1 hm Q k
  obtain ⟨av, st2, e1, e2⟩ := bind_some hm
  refine R.use0 hA I e1 fun v s1 W1 h1 h2 h3 => ?_
  split at e2
  · rename_i r
    split at e2
    · rename_i l hl
      cases e2
      obtain ⟨a, ha, rfl⟩ := h3
      obtain ⟨a', ha', o', ho', vs, n, rfl, hd⟩ := h2.trk.get hl
      rw [ha] at ha'; cases ha'
      refine wpAny_pyIter_list ⟨_, ho', rfl, n, rfl⟩ ?_
      exact k _ _ W1 _ _ h1 (h2.keep fun b o e => Heap.get?_push_of_some _ e) (fun _ => steps_trk ha) (Inv.base_lt h2) (Heap.get?_push_size _ rfl) ⟨rfl, rfl⟩ (Fresh.new h2)
    · cases e2
  · exact (fail_some e2).elim

/-! pins -/
theorem Inv.pinIt {kp pn : List (Addr × Obj)} {W : WS} {s : Shared} {st : St} {r : Nat} {a : Addr} {o : Obj} {l : List (Int × AV)} (I : G.I C kp pn W s st) (hr : st.heap[r]? = some (.dict l)) (ha : W.sig[r]? = some a) (ho : s.heap.get? a = some o) :
    G.I C kp ((a, o) :: pn) W s ⟨st.loc, st.heap.set r (.pdict l)⟩ := by
  refine ⟨I.base, I.ns, ?_, I.frz, I.kept, I.ups, I.apart, I.old, I.sep, I.fk, I.fu, fun q hq => ⟨(I.upp q hq).1, (I.upp q hq).2.1, (I.upp q hq).2.2.1, fun p hp => by
    rcases List.mem_cons.mp hp with rfl | hp
    · exact ((I.sep a (List.mem_append_right _ (List.mem_of_getElem? ha))).2.2 q hq).symm
    · exact (I.upp q hq).2.2.2 p hp⟩, fun p hp => ?_, fun p hp => ?_, I.gens, I.os⟩
  · refine I.trk.setIdx (fun _ _ _ _ _ _ h => h) fun b c hb hc h => ?_
    rw [hr] at hc; cases hc
    exact h
  · rcases List.mem_cons.mp hp with rfl | hp
    · exact ho
    · exact I.pin p hp
  · rcases List.mem_cons.mp hp with rfl | hp
    · refine ⟨fun b hb e => (List.nodup_append.mp I.apart).2.2 b hb a (List.mem_of_getElem? ha) e.symm, fun j b ao hj hao hpn => ?_⟩
      by_cases hjr : j = r
      · subst hjr
        have : (st.heap.set j (.pdict l))[j]? = some (.pdict l) := by
          rw [List.getElem?_set_self (List.getElem?_eq_some_iff.mp hr).1]
        simp only at hao
        rw [this] at hao; cases hao; cases hpn
      · exact nodup_get_ne (List.nodup_append.mp I.apart).2.1 ha hj (Ne.symm hjr)
    · refine ⟨(I.sepp p hp).1, fun j b ao hj hao hpn => ?_⟩
      by_cases hjr : j = r
      · subst hjr
        have : (st.heap.set j (.pdict l))[j]? = some (.pdict l) := by
          rw [List.getElem?_set_self (List.getElem?_eq_some_iff.mp hr).1]
        simp only at hao
        rw [this] at hao; cases hao; cases hpn
      · exact (I.sepp p hp).2 j b ao hj (by rw [← hao]; exact (List.getElem?_set_ne (Ne.symm hjr)).symm) hpn
theorem Inv.unpinIt {kp pn : List (Addr × Obj)} {W : WS} {s : Shared} {st : St} {r : Nat} {a : Addr} {o : Obj} {l : List (Int × AV)} (I : G.I C kp ((a, o) :: pn) W s st) (hr : st.heap[r]? = some (.pdict l)) (ha : W.sig[r]? = some a) (hf : ∀ p ∈ pn, p.1 ≠ a) :
    G.I C kp pn W s ⟨st.loc, st.heap.set r (.dict l)⟩ := by
  refine ⟨I.base, I.ns, ?_, I.frz, I.kept, I.ups, I.apart, I.old, I.sep, I.fk, I.fu, fun q hq => ⟨(I.upp q hq).1, (I.upp q hq).2.1, (I.upp q hq).2.2.1, fun p hp => (I.upp q hq).2.2.2 p (.tail _ hp)⟩, fun p hp => I.pin p (.tail _ hp), fun p hp => ?_, I.gens, I.os⟩
  · refine I.trk.setIdx (fun _ _ _ _ _ _ h => h) fun b c hb hc h => ?_
    rw [hr] at hc; cases hc
    exact h
  · refine ⟨(I.sepp p (.tail _ hp)).1, fun j b ao hj hao hpn => ?_⟩
    by_cases hjr : j = r
    · subst hjr
      rw [ha] at hj; cases hj
      exact hf p hp
    · exact (I.sepp p (.tail _ hp)).2 j b ao hj (by rw [← hao]; exact (List.getElem?_set_ne (Ne.symm hjr)).symm) hpn

theorem int_key {prog : Program} {w : World} {k : Int} {key : Value} (h : (intKind prog w).is k key = true) : ∃ t, key = .int k t := Value.isInt_shape h

theorem steps_keys {pn : List (Addr × Obj)} {W₀ : WS} {d it : Addr} {o₀ : Obj} {kvs : List (Int × Value)} {es : Array DictEntry} {ep : Nat} (hm : (d, o₀) ∈ pn) (hd : o₀.ExactDict) (hda : o₀.data = .dict es ep) (hk : KeysOf (intKind G.prog G.w) es)
    (hp : Pairs (intKind G.prog G.w) es.toList kvs) (hn : (kvs.map (·.1)).Nodup) :
    Steps G C pn W₀ it (constSrc (kvs.map fun p => .dat (.int p.1))) (fun o i => o.cls = .type "dict_keyiterator" ∧ o.data = .fields #[.ref d, .int i 0, .int kvs.length 0, .int ep 0]) where
  item := by
    intro i kp W s st A o l av Q hA hW I hl hav ho hP k
    cases hl
    rw [List.getElem?_map] at hav
    obtain ⟨p, hp', rfl⟩ := Option.map_eq_some_iff.mp hav
    refine wpAny_pyNext_dict_item (knd := intKind G.prog G.w) (i := i) (k := p.1) (v := p.2) (kvs := kvs) (ep := ep) ⟨o, ho, hP.1, hP.2⟩ ⟨o₀, es, I.pin _ hm, hd, hda, hk, hp, hn⟩ hp' fun key h' hkey ⟨o', x1, x2, x3⟩ hs => ?_
    obtain ⟨t, rfl⟩ := int_key hkey
    exact k _ h' s.toks o' (.int _ _) x1 ⟨x2, x3⟩ hs
  fin := by
    intro i kp W s st A o l Q hA hW I hl hav ho hP k
    cases hl
    rw [List.getElem?_eq_none_iff, List.length_map] at hav
    exact wpAny_pyNext_dict_end (knd := intKind G.prog G.w) (i := i) (kvs := kvs) (ep := ep) (hA.hd rfl) ⟨o, ho, hP.1, hP.2⟩ ⟨o₀, es, I.pin _ hm, hd, hda, hk, hp, hn⟩ (List.getElem?_eq_none_iff.mpr hav) k
  self := fun ho hP h => wpAny_pyIter_keyiter ⟨_, ho, hP.1, hP.2⟩ h
  obj := fun o i h => ⟨_, _, h.1, h.2, by decide⟩

noncomputable def forKeysA (m : AM AV) (ta : AV → AM Unit) (mb : AM AF) (fuel : Nat) : AM AF := m.bind fun av => match av with
  | .ref r => fun st => match st.heap[r]? with
    | some (.dict l) => match forA (constSrc (l.map fun p => .dat (.int p.1))) ta mb fuel 0 ⟨st.loc, st.heap.set r (.pdict l)⟩ with
      | some (b, st2) => match st2.heap[r]? with
        | some (.pdict l') => some (b, ⟨st2.loc, st2.heap.set r (.dict l')⟩)
        | _ => none
      | none => none
    | _ => none
  | _ => AM.fail
theorem A2.keys {W : WS} {kvs : List (Int × Value)} {l : List (Int × AV)} (h : A2 (fun kv p => kv.1 = p.1 ∧ RV W kv.2 p.2) kvs l) : (kvs.map fun p => AV.dat (.int p.1)) = l.map fun p => AV.dat (.int p.1) := by
  induction h with
  | nil => rfl
  | cons h1 _ ih => simp only [List.map_cons, ih, h1.1]
theorem ref_ForKeys (fuel : Nat) (hG : G.Ok) {tgt iter : Expr} {body : List Stmt} {pos : Pos} {m : AM AV} {ta : AV → AM Unit} {mb : AM AF} (Ri : Ref G C true (eval iter C.env) RV m)
    (Rt : ∀ v av, Ref G C true (assign tgt C.env v) RU (ta av) [(v, av)]) (Rb : Ref G C true (execs body C.env) RF mb)
    (hs : ∀ x, foldedSetIterable iter C.env x = pure x) : Ref G C true (exec (.For tgt iter body [] pos) C.env) RF (forKeysA m ta mb fuel) := by
  intro kp pn W s st A hA I _ b st' hm
  obtain ⟨av, st1, e1, e2⟩ := bind_some hm
  refine wpAny_For (E := fun _ _ => False) (Ri.use0 hA I e1 fun v s1 W1 h1 h2 h3 => ?_) hs
  split at e2
  · rename_i r
    split at e2
    · rename_i l hl
      split at e2
      · rename_i b2 st2 hf
        split at e2
        · rename_i l' hl'
          cases e2
          obtain ⟨a, ha, rfl⟩ := h3
          obtain ⟨a', ha', o, ho, kvs, ⟨es, ep, hx, hda, hk, hp, hn⟩, hd⟩ := h2.trk.get hl
          rw [ha] at ha'; cases ha'
          have I1 := h2.pinIt hl ha ho
          rw [← A2.keys hd] at hf
          refine wpAny_pyIter_dict (sys_ne hG h2 ha) (kvs := kvs) (ep := ep) ⟨o, es, ho, hx, hda, hk, hp, hn⟩ ?_
          have I2 : G.I C kp ((a, o) :: pn) W1 { s1 with heap := s1.heap.push { cls := .type "dict_keyiterator", data := .fields #[.ref a, .int 0 0, .int kvs.length 0, .int ep 0] } } ⟨st1.loc, st1.heap.set r (.pdict l)⟩ := I1.keep fun b o e => Heap.get?_push_of_some _ e
          have hfree : ∀ p ∈ pn, p.1 ≠ a := fun p hp => (h2.sepp p hp).2 r a _ ha hl rfl
          refine codeAny_mono (loop_ref (pn := (a, o) :: pn) Rt Rb (steps_keys (.head _) hx hda hk hp hn) (Inv.base_lt h2) hA hf I2 (.refl _) (Heap.get?_push_size _ rfl) ⟨rfl, rfl⟩ (Fresh.new I1)) fun r' s' ⟨f, W'', e, k1, k2, k3⟩ => ?_
          subst e
          exact ⟨W'', h1.trans k1, k2.unpinIt hl' (k1.sig _ _ ha) hfree, k3⟩
        · cases e2
      · cases e2
    · cases e2
  · exact (fail_some e2).elim

/-! targets -/
noncomputable def unpackA (ts : List (AV → AM Unit)) : AV → AM Unit
  | .dat (.tuple ds) => if ds.length = ts.length then go ts ds else AM.fail
  | _ => AM.fail
where
  go : List (AV → AM Unit) → List PyData → AM Unit
    | t :: ts, d :: ds => (t (.dat d)).bind fun _ => go ts ds
    | _, _ => AM.pure ()
theorem assign_order {tgs : List (Value → Sem Unit)} {ts : List (AV → AM Unit)} (h : A2 (fun t ta => ∀ v av, Ref G C true (t v) RU (ta av) [(v, av)]) tgs ts) {W : WS} {vs : List Value} {ds : List PyData} (hd : RDs W.frz vs ds)
    {kp pn : List (Addr × Obj)} {s : Shared} {st st' : St} {A : Around} {u : Unit} (hA : AOk C true A) (I : G.I C kp pn W s st) (hm : unpackA.go ts ds st = some (u, st')) :
    wpAny G.M A (assignInOrder tgs vs) (fun _ s' => ∃ W', W.le W' ∧ G.I C kp pn W' s' st') (fun _ _ => False) s := by
  induction h generalizing W vs ds s st with
  | nil =>
    have : unpackA.go [] ds st = some ((), st) := by cases ds <;> rfl
    rw [this] at hm; cases hm
    cases vs <;> exact wpAny_pure ⟨W, .refl _, I⟩
  | cons h1 h2 ih =>
    rename_i t ta tgs ts
    cases hd with
    | nil => cases hm; exact wpAny_pure ⟨W, .refl _, I⟩
    | cons d1 d2 =>
      simp only [unpackA.go] at hm
      obtain ⟨_, st1, e1, e2⟩ := bind_some hm
      refine assignInOrder_cons ((h1 _ _).use hA I (fun p hp => by rw [List.mem_singleton.mp hp]; exact d1) e1 fun _ s1 W1 k1 k2 _ => ?_)
      refine wpAny_mono (ih (RDs.mono k1.frz d2) k2 e2) (fun _ s2 ⟨W2, j1, j2⟩ => ⟨W2, k1.trans j1, j2⟩) fun _ _ x => x
theorem ref_target_tuple {elts : List Expr} {k : Nat} {pos : Pos} {v : Value} {av : AV} {ts : List (AV → AM Unit)} (h : A2 (fun t ta => ∀ v av, Ref G C true (t v) RU (ta av) [(v, av)]) ((assignEach elts C.env).map (·.2)) ts)
    (hstar : (assignEach elts C.env).findIdx? (·.1) = none) : Ref G C true (assign (.Tuple elts k pos) C.env v) RU (unpackA ts av) [(v, av)] := by
  intro kp pn W s st A hA I hΓ b st' hm
  have hr : RV W v av := hΓ _ (.head _)
  unfold unpackA at hm
  split at hm
  · split at hm
    · rename_i ds hlen
      obtain ⟨a, vs, n, rfl, hf, hd⟩ := rv_tuple hr
      have l1 := h.length
      have l2 := hd.length
      rw [List.length_map] at l1
      rw [Array.length_toList] at l2
      refine assign_Tuple_tuple (hA.hd rfl) ⟨_, I.frz _ hf, rfl, n, rfl⟩ (by omega) hstar fun h' he => ?_
      have I' : G.I C kp pn W { s with heap := h' } st := Inv.stepIt I (Fresh.new I) he (Inv.base_lt I)
      exact wpAny_mono (assign_order h hd hA I' hm) (fun _ s2 ⟨W2, j1, j2⟩ => ⟨W2, j1, j2, trivial⟩) fun _ _ x => x
    · exact (fail_some hm).elim
  · exact (fail_some hm).elim
theorem ref_target_name {x : Str} {pos : Pos} {ms : AV → AM Unit} {hq : Bool} (Rs : ∀ v av, Ref G C hq (storeName C.env x v) RU (ms av) [(v, av)]) : ∀ v av, Ref G C hq (assign (.Name x pos) C.env v) RU (ms av) [(v, av)] :=
  fun v av kp pn W s st A hA I hΓ b st' hm => wpAny_assign_Name (Rs v av kp pn W s st A hA I hΓ b st' hm)
end
end Mine

open PySem PySem.W PyProof.Rows PySem.Calls PySem.Spec
set_option Elab.async false
namespace Mine

structure FnS where
  scope : Scope
  body : List Stmt
  pars : List Str
  rest : List (Str × Option Nat)
noncomputable def FnS.vars (F : FnS) : List (Str × Option Nat) := F.pars.map (·, none) ++ F.rest
noncomputable def FnS.ks (F : FnS) : List Nat := F.rest.filterMap (·.2)
noncomputable def FnS.varsAt (F : FnS) (L : Addr) : List (Str × Option Addr) := F.vars.map fun p => (p.1, p.2.map (L + 1 + ·))
structure FnS.Ok (F : FnS) : Prop where
  kind : F.scope.kind = .function
  co : F.scope.isCoroutine = false
  gen : F.scope.isGenerator = false
  loc : ∀ x ∈ F.pars, F.scope.names.lookup x = some .local
  cel : ∀ p ∈ F.rest, ∀ k, p.2 = some k → ∀ L, (cellsFrom (L + 1) F.scope.names []).lookup p.1 = some (L + 1 + k)
  nd : (F.vars.map (·.1)).Nodup
  cnd : F.ks.Nodup
noncomputable def actOf (F : FnS) (L : Addr) (q : Str) (f : Option Addr) (c : Value) (envs : List Env) (dep un : Nat) (ups : List (Addr × Obj)) (gn : Nat) : Act :=
  ⟨L, newEnv F.scope L mainGlobals (cellsFrom (L + 1) F.scope.names []) q f c none builtinsNs, envs, F.varsAt L, dep, un, ups, gn⟩
/-- the body does what m does, in whichever frame -/
noncomputable def Body (G : Gl) (F : FnS) (hq : Bool) (d : Nat) (m : AM AF) (x : Bool := false) : Prop := ∀ L q f c envs dep un ups gn, (x = true → gn = 0 ∧ ∃ o, envs = (actOf F L q f c envs dep un ups gn).env :: o) → (actOf F L q f c envs dep un ups gn).Ok → dep ≤ d → un ≤ 4 * d →
  Ref G (actOf F L q f c envs dep un ups gn) hq (execs F.body (actOf F L q f c envs dep un ups gn).env) RF m

noncomputable def restLoc : List (Str × Option Nat) → Nat → List (Option AV)
  | [], _ => []
  | (_, none) :: vs, n => none :: restLoc vs n
  | (_, some _) :: vs, n => some (.ref n) :: restLoc vs (n + 1)
noncomputable def callA (F : FnS) (mb : AM AF) (args : List AV) : AM AV := fun st => if args.length = F.pars.length then
    match mb ⟨args.map some ++ restLoc F.rest st.heap.length, st.heap ++ F.ks.map fun _ => .cell none⟩ with
    | some (.next, st') => some (.dat .none, ⟨st.loc, st'.heap⟩)
    | some (.ret v, st') => some (v, ⟨st.loc, st'.heap⟩)
    | _ => none
  else none

theorem bindL_old {kindOf : Str → Option NameKind} : ∀ {binds : List (Str × Value)} {m : Str → Option Value} {x : Str}, x ∉ binds.map (·.1) → bindL kindOf binds m x = m x
  | [], _, _, _ => rfl
  | (n, v) :: r, m, x, h => by
    have h1 : x ≠ n := fun e => h (by simp [e])
    have h2 : x ∉ r.map (·.1) := fun e => h (by simp only [List.map_cons]; exact .tail _ e)
    rw [bindL, bindL_old h2]
    split
    · show (if x = n then some v else m x) = m x
      rw [if_neg h1]
    · rfl
theorem bindL_get {kindOf : Str → Option NameKind} : ∀ {binds : List (Str × Value)} {m : Str → Option Value} {i : Nat} {x : Str} {v : Value}, (binds.map (·.1)).Nodup → (∀ p ∈ binds, kindOf p.1 = some .local) → binds[i]? = some (x, v) → bindL kindOf binds m x = some v
  | [], _, i, _, _, _, _, h => by simp at h
  | (n, u) :: r, m, i, x, v, hn, hk, h => by
    rw [List.map_cons, List.nodup_cons] at hn
    cases i with
    | zero =>
      simp at h
      obtain ⟨rfl, rfl⟩ := h
      rw [bindL, bindL_old hn.1, if_pos (hk _ (.head _))]
      simp
    | succ i =>
      rw [bindL]
      exact bindL_get hn.2 (fun p hp => hk p (.tail _ hp)) (by simpa using h)

theorem restLoc_get : ∀ {vs : List (Str × Option Nat)} {n i : Nat} {x : Str} {oc : Option Nat} {av : AV}, (restLoc vs n)[i]? = some (some av) → vs[i]? = some (x, oc) →
    ∃ k j, oc = some k ∧ av = .ref (n + j) ∧ (vs.filterMap (·.2))[j]? = some k
  | [], n, i, x, oc, av, h, _ => by simp [restLoc] at h
  | (y, none) :: vs, n, i, x, oc, av, h, h' => by
    cases i with
    | zero => simp [restLoc] at h
    | succ i =>
      obtain ⟨k, j, e1, e2, e3⟩ := restLoc_get (vs := vs) (n := n) (i := i) (x := x) (oc := oc) (by simpa [restLoc] using h) (by simpa using h')
      exact ⟨k, j, e1, e2, by simpa using e3⟩
  | (y, some c) :: vs, n, i, x, oc, av, h, h' => by
    cases i with
    | zero =>
      simp [restLoc] at h
      simp at h'
      exact ⟨c, 0, h'.2.symm, h.symm, by simp⟩
    | succ i =>
      obtain ⟨k, j, e1, e2, e3⟩ := restLoc_get (vs := vs) (n := n + 1) (i := i) (x := x) (oc := oc) (by simpa [restLoc] using h) (by simpa using h')
      exact ⟨k, j + 1, e1, by rw [e2]; congr 1; omega, by simpa using e3⟩

theorem ne3 {a b n : Addr} (h1 : a < n) (h2 : n ≤ b) (e : a = b) : False := Nat.lt_irrefl _ (Nat.lt_of_lt_of_le h1 (e ▸ h2))

section
variable {G : Gl} {C : Act} {hq : Bool}

noncomputable def calleeAct (F : FnS) (C : Act) (env : Env) (L : Addr) (oL : Obj) : Act := ⟨L, env, env :: C.envs, F.varsAt L, C.dep + 1, C.un + 4, (C.L, oL) :: C.ups, C.gn⟩
theorem calleeAct_eq {F : FnS} {C : Act} {env : Env} {L : Addr} {oL : Obj} {q : Str} {f : Option Addr} {c : Value} (h : env = newEnv F.scope L mainGlobals (cellsFrom (L + 1) F.scope.names []) q f c none builtinsNs) :
    calleeAct F C env L oL = actOf F L q f c (env :: C.envs) (C.dep + 1) (C.un + 4) ((C.L, oL) :: C.ups) C.gn := by subst h; rfl

theorem varsAt_get {F : FnS} {L i : Nat} {x : Str} {oc : Option Addr} (h : (F.varsAt L)[i]? = some (x, oc)) : ∃ k, F.vars[i]? = some (x, k) ∧ oc = k.map (L + 1 + ·) := by
  unfold FnS.varsAt at h
  rw [List.getElem?_map] at h
  obtain ⟨⟨y, k⟩, hp, e⟩ := Option.map_eq_some_iff.mp h
  cases e
  exact ⟨k, hp, rfl⟩

theorem A2.repl {α β γ : Type} {R : α → β → Prop} {f : γ → α} {g : γ → β} : ∀ {l : List γ}, (∀ x ∈ l, R (f x) (g x)) → A2 R (l.map f) (l.map g)
  | [], _ => .nil
  | x :: l, h => .cons (h x (.head _)) (A2.repl fun y hy => h y (.tail _ hy))

/-- the callee's frame is laid -/
theorem Inv.enter {kp pn : List (Addr × Obj)} {W : WS} {s s₂ : Shared} {st : St} (I : G.I C kp pn W s st) {F : FnS} (hF : F.Ok) {binds : List (Str × Value)} {avs : List AV} (hn : binds.map (·.1) = F.pars)
    (hr : RVs W (binds.map (·.2)) avs) {env : Env} (hsc : env.scope = F.scope) (hlo : env.locals = s.heap.objs.size) (hce : env.cells = cellsFrom (s.heap.objs.size + 1) F.scope.names [])
    (x : InCallC s env.locals (bindL env.kindOf binds fun _ => none) env.cells (bindC env.kindOf binds fun _ => none) s₂) {oL : Obj} (hoL : s.heap.get? C.L = some oL) :
      W.le ⟨W.sig ++ F.ks.map (s.heap.objs.size + 1 + ·), W.frz⟩ ∧
      G.I (calleeAct F C env s.heap.objs.size oL) kp pn ⟨W.sig ++ F.ks.map (s.heap.objs.size + 1 + ·), W.frz⟩ s₂ ⟨avs.map some ++ restLoc F.rest st.heap.length, st.heap ++ F.ks.map fun _ => .cell none⟩ := by
  have hk := x.toInCall.keep
  have le : W.le ⟨W.sig ++ F.ks.map (s.heap.objs.size + 1 + ·), W.frz⟩ := ⟨fun i b h => by
    have := (List.getElem?_eq_some_iff.mp h).1
    show (W.sig ++ _)[i]? = _
    rw [List.getElem?_append_left this]; exact h, fun _ h => h⟩
  have ln := I.trk.length
  have hnew : ∀ a ∈ F.ks.map (s.heap.objs.size + 1 + ·), s.heap.objs.size < a := fun a ha => by
    obtain ⟨k, _, rfl⟩ := List.mem_map.mp ha
    omega
  have hbn : (binds.map (·.1)).Nodup := by
    have := hF.nd
    unfold FnS.vars at this
    rw [List.map_append, List.map_map] at this
    rw [hn]
    have h2 := (List.nodup_append.mp this).1
    have e : F.pars.map ((fun p : Str × Option Nat => p.1) ∘ fun x => (x, none)) = F.pars := by
      rw [show ((fun p : Str × Option Nat => p.1) ∘ fun x : Str => (x, none)) = id from rfl, List.map_id]
    rwa [e] at h2
  refine ⟨le, ?_⟩
  have hlen : avs.length = F.pars.length := by rw [← hn, List.length_map, ← hr.length, List.length_map]
  have hold : ∀ a ∈ (calleeAct F C env s.heap.objs.size oL).own ++ (W.sig ++ F.ks.map (s.heap.objs.size + 1 + ·)), s.heap.objs.size ≤ a ∨ a ∈ W.sig := fun a ha => by
    rcases List.mem_append.mp ha with ha | ha
    · left; rw [List.mem_singleton.mp ha]; exact Nat.le_refl _
    · rcases List.mem_append.mp ha with ha | ha
      · exact .inr ha
      · exact .inl (Nat.le_of_lt (hnew a ha))
  have hsl : ∀ a ∈ W.sig, a < s.heap.objs.size := fun a ha => I.own_lt a (List.mem_append_right _ ha)
  obtain ⟨h₂, tk, hs₂⟩ := x.toInCall.same
  refine ⟨fun b o e => hk b o (I.base b o e), ⟨_, hlo ▸ x.toInCall.ns, ?_⟩, ?_, fun p hp => hk _ _ (I.frz p hp), fun p hp => hk _ _ (I.kept p hp), ?_, ?_, fun a ha => ?_, fun a ha => ?_, I.fk, ?_, fun q hq => by
    rcases List.mem_cons.mp hq with rfl | hq
    · refine ⟨I.old _ (List.mem_append_left _ (.head _)), ?_, fun p hp => (I.sep C.L (List.mem_append_left _ (.head _))).2.1 p hp, fun p hp => (I.sepp p hp).1 _ (.head _)⟩
      obtain ⟨m, ⟨o, es, ep, h1, h2, _⟩, _⟩ := I.ns
      rw [hoL] at h1; cases h1
      exact ⟨es, ep, h2⟩
    · exact I.upp q hq,
    fun p hp => hk _ _ (I.pin p hp), fun p hp => ⟨fun a ha e => ?_, fun i a ao hi hao hpn => ?_⟩, ?_, ?_⟩
  · intro i y oc hv av hl'
    obtain ⟨k, hi, rfl⟩ := varsAt_get hv
    unfold FnS.vars at hi
    by_cases hip : i < F.pars.length
    · rw [List.getElem?_append_left (by rw [List.length_map]; exact hip), List.getElem?_map] at hi
      obtain ⟨y', hy, e⟩ := Option.map_eq_some_iff.mp hi
      cases e
      rw [List.getElem?_append_left (by rw [List.length_map]; omega), List.getElem?_map] at hl'
      obtain ⟨av', ha, e⟩ := Option.map_eq_some_iff.mp hl'
      cases e
      obtain ⟨v, hv', hrv⟩ := hr.get ha
      rw [List.getElem?_map] at hv'
      obtain ⟨⟨y', v'⟩, hb, rfl⟩ := Option.map_eq_some_iff.mp hv'
      have hy : y' = y := by
        have h1 : (binds.map (·.1))[i]? = some y' := by rw [List.getElem?_map, hb]; rfl
        rw [hn, hy] at h1
        exact (Option.some.inj h1).symm
      subst hy
      refine ⟨v', hrv.mono le, bindL_get (i := i) hbn (fun p hp => ?_) hb⟩
      show env.scope.names.lookup p.1 = some .local
      rw [hsc]
      exact hF.loc _ (by rw [← hn]; exact List.mem_map_of_mem hp)
    · rw [List.getElem?_append_right (by rw [List.length_map]; omega), List.length_map] at hi hl'
      rw [hlen] at hl'
      obtain ⟨k', j, rfl, rfl, hj⟩ := restLoc_get hl' hi
      refine ⟨_, rfl, ?_⟩
      show (W.sig ++ _)[st.heap.length + j]? = _
      rw [List.getElem?_append_right (by omega), ← ln, Nat.add_sub_cancel_left, List.getElem?_map]
      unfold FnS.ks
      rw [hj]; rfl
  · refine (I.trk.mono fun a ao ⟨o, h, r⟩ => ⟨o, hk _ _ h, r.mono G.prog G.w le⟩).append (A2.repl fun k hk' => ?_)
    obtain ⟨p, hp, hpk⟩ := List.mem_filterMap.mp hk'
    obtain ⟨o, h1, h2⟩ := x.cell p.1 _ (by rw [hce]; exact hF.cel p hp k hpk _)
    exact ⟨o, h1, _, h2, trivial⟩
  · intro p hp
    rcases List.mem_cons.mp hp with rfl | hp
    · exact ⟨_, hk _ _ hoL⟩
    · obtain ⟨sl, h⟩ := I.ups p hp; exact ⟨sl, hk _ _ h⟩
  · refine List.nodup_append.mpr ⟨by simp [Act.own], List.nodup_append.mpr ⟨(List.nodup_append.mp I.apart).2.1, ?_, fun a ha b hb e => ?_⟩, fun a ha b hb e => ?_⟩
    · have h1 : ∀ {l : List Nat} {n : Nat}, l.Nodup → (l.map (n + 1 + ·)).Nodup := by
        intro l n
        induction l with
        | nil => intro _; exact List.nodup_nil
        | cons a l ih =>
          intro h
          rw [List.nodup_cons] at h
          rw [List.map_cons, List.nodup_cons]
          refine ⟨fun hm => ?_, ih h.2⟩
          obtain ⟨b, hb, e⟩ := List.mem_map.mp hm
          have : b = a := by omega
          exact h.1 (this ▸ hb)
      exact h1 hF.cnd
    · exact ne3 (hsl a ha) (Nat.le_of_lt (hnew b hb)) e
    · rw [List.mem_singleton.mp ha] at e
      show False
      rcases List.mem_append.mp hb with hb | hb
      · exact absurd (hsl b hb) (by rw [← e]; exact Nat.lt_irrefl _)
      · exact absurd (hnew b hb) (by rw [← e]; exact Nat.lt_irrefl _)
  · rcases hold a ha with h | h
    · exact Nat.le_trans I.base_lt h
    · exact I.old a (List.mem_append_right _ h)
  · rcases hold a ha with h | h
    · refine ⟨fun p hp e => ?_, fun p hp e => ?_, fun p hp e => ?_⟩
      · exact ne3 (I.frz_lt p hp) h e
      · exact ne3 (I.kept_lt p hp) h e
      · rcases List.mem_cons.mp hp with rfl | hp
        · exact ne3 I.L_lt h e
        · exact ne3 (I.ups_lt p hp) h e
    · have z := I.sep a (List.mem_append_right _ h)
      refine ⟨z.1, z.2.1, fun p hp => ?_⟩
      rcases List.mem_cons.mp hp with rfl | hp
      · exact fun e => (List.nodup_append.mp I.apart).2.2 C.L (.head _) a h e
      · exact z.2.2 p hp
  · intro p hp q hq
    rcases List.mem_cons.mp hq with rfl | hq
    · exact (I.sep C.L (List.mem_append_left _ (.head _))).1 p hp
    · exact I.fu p hp q hq
  · rw [List.mem_singleton.mp ha] at e
    exact ne3 (Heap.lt_size (I.pin p hp)) (Nat.le_refl _) e
  · by_cases hlt : i < W.sig.length
    · exact (I.sepp p hp).2 i a ao (by rw [← hi]; exact (List.getElem?_append_left hlt).symm) (by rw [← hao]; exact (List.getElem?_append_left (ln ▸ hlt)).symm) hpn
    · simp only at hi
      rw [List.getElem?_append_right (Nat.le_of_not_lt hlt)] at hi
      exact fun e => ne3 (Heap.lt_size (I.pin p hp)) (Nat.le_of_lt (hnew a (List.mem_of_getElem? hi))) e
  · subst hs₂; exact I.gens
  · subst hs₂; exact I.os

/-- back in the caller -/
theorem Inv.leave {kp pn : List (Addr × Obj)} {W W'' : WS} {s s' : Shared} {st st' : St} {m : Str → Option Value} {C' : Act} {oL : Obj} {es : Array DictEntry} {ep : Nat} (I : G.I C kp pn W s st)
    (h2 : oL.data = .dict es ep) (h3 : StrKeys es) (h4 : ∀ n, nsFind es n = m n) (hl : Loc C W m st.loc) (hW : W.le W'') (hu : C'.ups = (C.L, oL) :: C.ups) (hgn : C'.gn = C.gn) (J : G.I C' kp pn W'' s' st') : G.I C kp pn W'' s' ⟨st.loc, st'.heap⟩ := by
  obtain ⟨sl, hsl⟩ := J.ups (C.L, oL) (hu ▸ .head _)
  have hsep : ∀ a ∈ W''.sig, a ≠ C.L := fun a ha e => (J.sep a (List.mem_append_right _ ha)).2.2 (C.L, oL) (hu ▸ .head _) e.symm
  refine ⟨J.base, ⟨m, ⟨_, es, ep, hsl, h2, h3, h4⟩, hl.mono hW⟩, J.trk, J.frz, J.kept, fun p hp => J.ups p (hu ▸ .tail _ hp), ?_, fun a ha => ?_, fun a ha => ?_, J.fk, fun p hp q hq => J.fu p hp q (hu ▸ .tail _ hq), fun q hq => J.upp q (hu ▸ .tail _ hq), J.pin,
    fun p hp => ⟨(I.sepp p hp).1, (J.sepp p hp).2⟩, ⟨J.gens.1, hgn ▸ J.gens.2⟩, J.os⟩
  · refine List.nodup_append.mpr ⟨by simp [Act.own], (List.nodup_append.mp J.apart).2.1, fun a ha b hb e => ?_⟩
    rw [List.mem_singleton.mp ha] at e
    exact hsep b hb e.symm
  · rcases List.mem_append.mp ha with h | h
    · exact I.old a (List.mem_append_left _ h)
    · exact J.old a (List.mem_append_right _ h)
  · rcases List.mem_append.mp ha with h | h
    · refine ⟨fun p hp => ?_, (I.sep a (List.mem_append_left _ h)).2⟩
      rw [List.mem_singleton.mp h]
      exact J.fu p hp (C.L, oL) (hu ▸ .head _)
    · refine ⟨(J.sep a (List.mem_append_right _ h)).1, (J.sep a (List.mem_append_right _ h)).2.1, fun p hp => (J.sep a (List.mem_append_right _ h)).2.2 p (hu ▸ .tail _ hp)⟩

/-- a function of K -/
structure FnAt (G : Gl) (F : FnS) (fa : Addr) (fd : FuncData) : Prop where
  at' : ∃ o, G.K.lookup fa = some o ∧ o.data = .func fd
  scope : fd.scope = F.scope
  body : fd.body = .stmts F.body
  clo : fd.closure = []
  glo : fd.globals = mainGlobals
  bui : fd.builtins = builtinsNs
  code : G.h₀.CodeRec fd.code fd.qualname

theorem enter_gen (hG : G.Ok) {F : FnS} (hF : F.Ok) {fa : Addr} {fd : FuncData} (hf : FnAt G F fa fd) {d dC : Nat}
    {kp pn : List (Addr × Obj)} {W : WS} {s : Shared} {st : St} {A : Around} (hA : AOk C hq A) (I : G.I C kp pn W s st) (hb0 : C.dep ≤ dC ∧ C.un ≤ 4 * dC) (hd : dC + 1 ≤ d) (hd6 : d ≤ 600)
    {binds : List (Str × Value)} {avs : List AV} (hn : binds.map (·.1) = F.pars) (hr : RVs W (binds.map (·.2)) avs) {P : Env → Shared → Prop} {E : Value → Shared → Prop}
    (k : ∀ env oL es ep m s₂ W₁, env = newEnv F.scope s.heap.objs.size mainGlobals (cellsFrom (s.heap.objs.size + 1) F.scope.names []) (fd.qualname ++ ".<locals>.") (some fa) fd.code none builtinsNs →
      oL.data = .dict es ep → StrKeys es → (∀ n, nsFind es n = m n) → Loc C W m st.loc → W.le W₁ → s₂.heap.NoLimit → (calleeAct F C env s.heap.objs.size oL).Ok → C.dep + 1 ≤ d → C.un + 4 ≤ 4 * d → AOk (calleeAct F C env s.heap.objs.size oL) hq (A.deeper env) →
      G.I (calleeAct F C env s.heap.objs.size oL) kp pn W₁ s₂ ⟨avs.map some ++ restLoc F.rest st.heap.length, st.heap ++ F.ks.map fun _ => .cell none⟩ → P env s₂) :
    wpAny G.M A.in1 (newFunctionEnv fd.scope fd.globals fd.closure binds (fd.qualname ++ ".<locals>.") (some fa) fd.code none fd.builtins) P E s := by
  rw [hf.scope, hf.clo]
  refine wpAny_newFunctionEnv_cells hF.kind (fun x hx => .inl (hF.loc _ (by rw [← hn]; exact List.mem_map_of_mem hx))) fun env he s₂ x => ?_
  obtain ⟨m, ⟨oL, es, ep, e1, e2, e3, e4⟩, hl⟩ := I.ns
  have hsc : env.scope = F.scope := by rw [he]; rfl
  have hlo : env.locals = s.heap.objs.size := by rw [he]; rfl
  have hce : env.cells = cellsFrom (s.heap.objs.size + 1) F.scope.names [] := by rw [he]; rfl
  obtain ⟨le, J⟩ := I.enter hF hn hr hsc hlo hce x e1
  have he' : env = newEnv F.scope s.heap.objs.size mainGlobals (cellsFrom (s.heap.objs.size + 1) F.scope.names []) (fd.qualname ++ ".<locals>.") (some fa) fd.code none builtinsNs := by rw [he, hf.glo, hf.bui]
  refine k env oL es ep m s₂ _ he' e2 e3 e4 hl le ((hG.lim.keeps I.base).keeps x.toInCall.keep) ⟨hlo, ?_, ?_, ?_, ?_, ?_, ?_⟩ (by omega) (by omega) ⟨?_, ?_, ?_, hA.hd, fun h0 e he => ?_⟩ J
  · show env.scope.kind = _; rw [hsc]; exact hF.kind
  · show env.globals = _; rw [he]; exact hf.glo
  · show env.builtins = _; rw [he]; exact hf.bui
  · show ((F.varsAt _).map (·.1)).Nodup
    unfold FnS.varsAt
    rw [List.map_map]
    exact hF.nd
  · show C.un + 4 ≤ 5000; omega
  · show C.dep + 1 ≤ 600; omega
  · show A.frames.map (env :: ·) = some (env :: C.envs)
    rw [hA.fr]; rfl
  · show A.depth + 1 ≤ C.dep + 1
    have := hA.dep; omega
  · show A.units + 3 ≤ C.un + 4
    have := hA.un; omega
  · rcases List.mem_cons.mp he with rfl | he
    · refine ⟨?_, _, by rw [he']; rfl, .inl rfl⟩
      rw [hsc, hF.kind]
      decide
    · obtain ⟨h3, L, h1, h2⟩ := hA.fo h0 e he
      refine ⟨h3, L, h1, .inr ?_⟩
      rcases h2 with rfl | ⟨p, hp, h2⟩
      · exact ⟨_, .head _, rfl⟩
      · exact ⟨p, .tail _ hp, h2⟩
theorem enter_fn (hG : G.Ok) {F : FnS} (hF : F.Ok) {fa : Addr} {fd : FuncData} (hf : FnAt G F fa fd) {mb : AM AF} {d dC : Nat} {x : Bool} (Rb : Body G F hq d mb x)
    {kp pn : List (Addr × Obj)} {W : WS} {s : Shared} {st st' : St} {A : Around} (hA : AOk C hq A) (I : G.I C kp pn W s st) (hb0 : C.dep ≤ dC ∧ C.un ≤ 4 * dC) (hd : dC + 1 ≤ d) (hd6 : d ≤ 600)
    {binds : List (Str × Value)} {avs : List AV} (hn : binds.map (·.1) = F.pars) (hr : RVs W (binds.map (·.2)) avs) {b : AV} (hm : callA F mb avs st = some (b, st')) (hx : x = true → C.gn = 0 := by intro h; cases h) :
    wpAny G.M A.in1 (newFunctionEnv fd.scope fd.globals fd.closure binds (fd.qualname ++ ".<locals>.") (some fa) fd.code none fd.builtins)
      (fun env s₂ => s₂.heap.NoLimit ∧ codeAny G.M A (.func F.body env) (fun r s' => ∃ v W', r = .ok (.ret v) ∧ W.le W' ∧ G.I C kp pn W' s' st' ∧ RV W' v b) s₂) (fun _ _ => False) s := by
  refine enter_gen hG hF hf hA I hb0 hd hd6 hn hr fun env oL es ep m s₂ W₁ he' e2 e3 e4 hl le hlim hact h5 h6 hA' J => ⟨hlim, codeAny_func ?_⟩
  have hRb : Ref G (calleeAct F C env s.heap.objs.size oL) hq (execs F.body env) RF mb := by
    have e := calleeAct_eq (C := C) (oL := oL) he'
    have := Rb s.heap.objs.size (fd.qualname ++ ".<locals>.") (some fa) fd.code (env :: C.envs) (C.dep + 1) (C.un + 4) ((C.L, oL) :: C.ups) C.gn (fun h => ⟨hx h, C.envs, by rw [he']; rfl⟩) (e ▸ hact) h5 h6
    rw [← e] at this
    exact this
  unfold callA at hm
  have hlen : avs.length = F.pars.length := by rw [← hn, List.length_map, ← hr.length, List.length_map]
  rw [if_pos hlen] at hm
  split at hm
  · rename_i st1 hb
    cases hm
    refine hRb.use0 hA' J hb fun f s' W' h1 h2 h3 => ?_
    cases f <;> simp only [RF] at h3
    exact ⟨.none, W', rfl, le.trans h1, I.leave (C' := calleeAct F C env s.heap.objs.size oL) e2 e3 e4 hl (le.trans h1) rfl rfl h2, .none⟩
  · rename_i v st1 hb
    cases hm
    refine hRb.use0 hA' J hb fun f s' W' h1 h2 h3 => ?_
    cases f with
    | ret v => exact ⟨v, W', rfl, le.trans h1, I.leave (C' := calleeAct F C env s.heap.objs.size oL) e2 e3 e4 hl (le.trans h1) rfl rfl h2, h3⟩
    | next => exact h3.elim
    | brk => exact h3.elim
    | cont => exact h3.elim
  · cases hm

/-- a call of a function of K by plain arguments -/
theorem ref_fn (hG : G.Ok) {F : FnS} (hF : F.Ok) {fa : Addr} {fd : FuncData} (hf : FnAt G F fa fd) {mb : AM AF} {d dC : Nat} {x : Bool} (Rb : Body G F hq d mb x)
    (hb0 : C.dep ≤ dC ∧ C.un ≤ 4 * dC) (hd : dC + 1 ≤ d) (hd6 : d ≤ 600) (hb : ∀ vs : List Value, vs.length = F.pars.length → bindArgs fd ⟨vs, []⟩ = pure (F.pars.zip vs)) (vs : List Value) (avs : List AV) (hl : vs.length = avs.length) (hx : x = true → C.gn = 0 := by intro h; cases h) :
    Ref G C hq (call (.ref fa) vs) RV (callA F mb avs) (vs.zip avs) := by
  intro kp pn W s st A hA I hΓ b st' hm
  obtain ⟨o, ho, hd'⟩ := hf.at'
  have hlen : vs.length = F.pars.length := by
    unfold callA at hm
    split at hm
    · rename_i h; rw [hl, h]
    · cases hm
  have hr : RVs W vs avs := by
    clear hm hlen
    induction vs generalizing avs with
    | nil => cases avs with
      | nil => exact .nil
      | cons a as => simp at hl
    | cons v vs ih => cases avs with
      | nil => simp at hl
      | cons a as => exact .cons (hΓ _ (.head _)) (ih as (by simpa using hl) fun p hp => hΓ p (.tail _ hp))
  refine wpAny_call (codeAny_mono (R := fun r s' => ∃ v W', r = .ok (.ret v) ∧ W.le W' ∧ G.I C kp pn W' s' st' ∧ RV W' v b) ?_ fun r s' ⟨v, W', e, h1, h2, h3⟩ => ?_)
  · refine codeAny_call_function (o := o) (fd := fd) (Nat.lt_of_le_of_lt hA.dep ?_) (I.base _ _ (hG.X _ _ ho)) hd' (by rw [hf.scope]; exact hF.co) (by rw [hf.scope]; exact hF.gen) hf.body (hf.code.keeps I.base) ?_
    · have : recursionLimit = 1000 := rfl
      omega
    · rw [hb vs hlen]
      refine wpAny_pure (wpAny_mono (enter_fn hG hF hf Rb hA I hb0 hd hd6 ?_ ?_ hm hx) (fun _ _ x => x) fun _ _ x => x.elim)
      · rw [List.map_fst_zip]; omega
      · rw [List.map_snd_zip (by omega)]; exact hr
  · subst e; exact ⟨W', h1, h2, h3⟩
end
end Mine

open PySem PySem.W PyProof.Rows PySem.Calls PySem.Spec
set_option Elab.async false
namespace Mine

/-- a name that holds a fixed value -/
noncomputable def Nm (G : Gl) (C : Act) (x : Str) (f : Value) : Prop := ∀ {kp pn : List (Addr × Obj)} {W : WS} {s : Shared} {st : St} {A : Around} {pos : Pos} {Q : Value → Shared → Prop} {E : Value → Shared → Prop},
  G.I C kp pn W s st → Q f s → wpAny G.M A (eval (.Name x pos) C.env) Q E s
section
variable {G : Gl} {C : Act} {hq : Bool}
theorem nm_global (hG : G.Ok) (hC : C.Ok) {x : Str} {f : Value} (hx : G.mg x = some f) (hk : C.env.kindOf x = some .globalImplicit) (hd : (x == ("__debug__" : Str)) = false) : Nm G C x f := fun I hQ =>
  Name_function_global hC.kind hk (loadGlobal_global (hC.glo ▸ hG.g.keeps I.base) hx hQ) hd
theorem nm_builtin (hG : G.Ok) (hC : C.Ok) {x : Str} {f : Value} (hx : G.mg x = none) (hv : bootBuiltins x = some f) (hn : x ≠ "__name__") (hk : C.env.kindOf x = some .globalImplicit) (hd : (x == ("__debug__" : Str)) = false) : Nm G C x f := fun I hQ =>
  Name_function_global hC.kind hk (loadGlobal_builtin (hC.glo ▸ hG.g.keeps I.base) hx (hC.bui ▸ hG.b.keeps I.base) (by rw [hG.bl x hn]; exact hv) hQ) hd

structure CW (G : Gl) (f : Value) : Prop where
  zero : ∀ {env : Env} {pos : Pos} {A : Around} {s : Shared} {first : List Value} {Q : Value → Shared → Prop} {E : Value → Shared → Prop}, G.K.In s.heap → wpAny G.M A (call f (first ++ [])) Q E s →
    wpAny G.M A (callWith pos f first (backTo pos (starEach [] env)) []) Q E s
  one : ∀ {env : Env} {pos : Pos} {A : Around} {s : Shared} {first : List Value} {e : Expr} {rest : List Expr} {Q : Value → Shared → Prop} {E : Value → Shared → Prop}, G.K.In G.h₀ → starEach (e :: rest) env = (false, eval e env) :: starEach rest env →
    (backTo pos (starEach rest env)).any (·.1) = false → wpAny G.M A (spliced (backTo pos (starEach (e :: rest) env))) (fun vs s₁ => G.K.In s₁.heap ∧ wpAny G.M A (call f (first ++ vs)) Q E s₁) E s →
    wpAny G.M A (callWith pos f first (backTo pos (starEach (e :: rest) env)) []) Q E s
theorem cw_K {f : Value} (hk : keepIn G.K f = true) : CW G f := ⟨fun X h => callWith_K0 X hk h, fun X he hp h => callWith_K X hk h he hp⟩
theorem cw_builtin {id : String} : CW G (.builtin id) := ⟨fun _ h => callWith_method0 (by simpa using h), fun _ he hp h => callWith_method1 (wpAny_mono h (fun _ _ x => x.2) fun _ _ x => x) he hp⟩
theorem cw_type {T : String} : CW G (.type T) := ⟨fun _ h => PyProof.Rows.callWith_type rfl (evalArgs_nil3 h), fun _ he hp h => by
  rw [he] at h ⊢
  refine PyProof.Rows.callWith_type ((Bool.false_or _).trans hp) (evalArgs_plain (wpAny_mono h (fun _ _ x => x.2) fun _ _ x => x))⟩

theorem ref_Call0 (hG : G.Ok) {x : Str} {p pos : Pos} {f : Value} {m : AM AV} (Rf : Nm G C x f) (hw : CW G f) (Rc : Ref G C hq (call f []) RV m) : Ref G C hq (eval (.Call (.Name x p) [] [] pos) C.env) RV m := by
  intro kp pn W s st A hA I _ b st' hm
  refine Call_Name rfl (Rf I ?_)
  exact hw.zero (hG.X.keeps I.base) (Rc.use0 hA I hm fun v s' W' h1 h2 h3 => ⟨W', h1, h2, h3⟩)
theorem ref_Call (hG : G.Ok) {x : Str} {p pos : Pos} {e : Expr} {rest : List Expr} {f : Value} {ms : List (AM AV)} {fm : List AV → AM AV} (Rf : Nm G C x f) (hw : CW G f)
    (Ra : Ref G C hq (spliced (backTo pos (starEach (e :: rest) C.env))) RL (listA ms)) (Rc : ∀ vs avs, vs.length = avs.length → Ref G C hq (call f vs) RV (fm avs) (vs.zip avs))
    (he : starEach (e :: rest) C.env = (false, eval e C.env) :: starEach rest C.env) (hp : (backTo pos (starEach rest C.env)).any (·.1) = false) :
    Ref G C hq (eval (.Call (.Name x p) (e :: rest) [] pos) C.env) RV ((listA ms).bind fm) := by
  intro kp pn W s st A hA I _ b st' hm
  obtain ⟨l, st1, e1, e2⟩ := bind_some hm
  refine Call_Name rfl (Rf I ?_)
  refine hw.one hG.X he hp (Ra.use0 hA I e1 fun vs s1 W1 h1 h2 h3 => ⟨hG.X.keeps h2.base, ?_⟩)
  refine (Rc vs l h3.length).use hA h2 (zip_rel h3) e2 fun v s2 W2 k1 k2 k3 => ⟨W2, h1.trans k1, k2, k3⟩
where
  zip_rel {W : WS} {vs : List Value} {l : List AV} (h : RVs W vs l) : ∀ p ∈ vs.zip l, RV W p.1 p.2 := by
    induction h with
    | nil => intro p hp; cases hp
    | cons h1 h2 ih =>
      intro p hp
      rcases List.mem_cons.mp hp with rfl | hp
      · exact h1
      · exact ih p hp

/-- a method's call; the method is a fixed function that gets the object first -/
noncomputable def MthOk (G : Gl) (C : Act) (name : Str) (f : Value) (ok : AV → St → Bool) : Prop := ∀ {kp pn : List (Addr × Obj)} {W : WS} {s : Shared} {st : St} {A : Around} {v : Value} {av : AV} {pl : Sem Bool} {Q : Value × List Value → Shared → Prop} {E : Value → Shared → Prop},
  G.I C kp pn W s st → RV W v av → ok av st = true → (∀ tk, Q (f, [v]) { s with toks := tk }) → wpAny G.M A (getMethod v name pl) Q E s
noncomputable def guardA (ok : AV → St → Bool) (av : AV) : AM Unit := fun st => if ok av st = true then some ((), st) else none
theorem guard_some {ok : AV → St → Bool} {av : AV} {st st' : St} {u : Unit} (h : guardA ok av st = some (u, st')) : ok av st = true ∧ st' = st := by
  unfold guardA at h
  split at h
  · rename_i e; cases h; exact ⟨e, rfl⟩
  · cases h
noncomputable def methA (mo : AM AV) (ok : AV → St → Bool) (ms : List (AM AV)) (fm : List AV → AM AV) : AM AV := mo.bind fun av => (guardA ok av).bind fun _ => (listA ms).bind fun avs => fm (av :: avs)
theorem ref_MCall0 (hG : G.Ok) {o : Expr} {name : Str} {apos pos : Pos} {f : Value} {mo : AM AV} {ok : AV → St → Bool} {fm : List AV → AM AV} (Ro : Ref G C hq (eval o C.env) RV mo) (Rm : MthOk G C name f ok) (hw : CW G f)
    (Rc : ∀ vs avs, vs.length = avs.length → Ref G C hq (call f vs) RV (fm avs) (vs.zip avs))
    {pl : Sem Bool} (he' : eval (.Call (.Attribute o name apos) [] [] pos) C.env = (do
      let ov ← eval o C.env
      standAt apos.atName
      let (f, first) ← holding [ov] (getMethod ov name pl)
      callWith pos f first (backTo pos (starEach [] C.env)) [])) : Ref G C hq (eval (.Call (.Attribute o name apos) [] [] pos) C.env) RV (methA mo ok [] fm) := by
  intro kp pn W s st A hA I _ b st' hm
  obtain ⟨av, st1, e1, e2⟩ := bind_some hm
  obtain ⟨_, st2, e3, e4⟩ := bind_some e2
  obtain ⟨hok, rfl⟩ := guard_some e3
  obtain ⟨l, st3, e5, e6⟩ := bind_some e4
  obtain ⟨rfl, rfl⟩ := pure_some e5
  refine MethodCall_ (Ro.use0 hA I e1 fun v s1 W1 h1 h2 h3 => Rm h2 h3 hok fun tk => ?_) he'
  refine hw.zero (hG.X.keeps h2.base) ?_
  refine (Rc ([v] ++ []) [av] rfl).use hA h2.toks (fun p hp => by rw [List.mem_singleton.mp hp]; exact h3) e6 fun v s2 W2 k1 k2 k3 => ⟨W2, h1.trans k1, k2, k3⟩
theorem ref_MCall (hG : G.Ok) {o : Expr} {name : Str} {apos pos : Pos} {e : Expr} {rest : List Expr} {f : Value} {mo : AM AV} {ok : AV → St → Bool} {ms : List (AM AV)} {fm : List AV → AM AV} (Ro : Ref G C hq (eval o C.env) RV mo) (Rm : MthOk G C name f ok) (hw : CW G f)
    (Ra : Ref G C hq (spliced (backTo pos (starEach (e :: rest) C.env))) RL (listA ms)) (Rc : ∀ vs avs, vs.length = avs.length → Ref G C hq (call f vs) RV (fm avs) (vs.zip avs))
    (he : starEach (e :: rest) C.env = (false, eval e C.env) :: starEach rest C.env) (hp : (backTo pos (starEach rest C.env)).any (·.1) = false)
    {pl : Sem Bool} (he' : eval (.Call (.Attribute o name apos) (e :: rest) [] pos) C.env = (do
      let ov ← eval o C.env
      standAt apos.atName
      let (f, first) ← holding [ov] (getMethod ov name pl)
      callWith pos f first (backTo pos (starEach (e :: rest) C.env)) [])) : Ref G C hq (eval (.Call (.Attribute o name apos) (e :: rest) [] pos) C.env) RV (methA mo ok ms fm) := by
  intro kp pn W s st A hA I _ b st' hm
  obtain ⟨av, st1, e1, e2⟩ := bind_some hm
  obtain ⟨_, st2, e3, e4⟩ := bind_some e2
  obtain ⟨hok, rfl⟩ := guard_some e3
  obtain ⟨l, st3, e5, e6⟩ := bind_some e4
  refine MethodCall_ (Ro.use0 hA I e1 fun v s1 W1 h1 h2 h3 => Rm h2 h3 hok fun tk => ?_) he'
  refine hw.one hG.X he hp (Ra.use0 hA h2.toks e5 fun vs s3 W3 j1 j2 j3 => ⟨hG.X.keeps j2.base, ?_⟩)
  refine (Rc (v :: vs) (av :: l) (by simp [j3.length])).use hA j2 (fun p hp => ?_) e6 fun v s2 W2 k1 k2 k3 => ⟨W2, (h1.trans j1).trans k1, k2, k3⟩
  rcases List.mem_cons.mp hp with rfl | hp
  · exact h3.mono j1
  · exact ref_Call.zip_rel j3 p hp

/-! expression statements -/
theorem ref_Expr {e : Expr} {pos : Pos} {m : AM AV} (R : Ref G C hq (eval e C.env) RV m) (hi : interactive C.env = false) (hs : swapsWith e none pos.line C.env = pure false) :
    Ref G C hq (exec (.Expr e pos) C.env) RF (m.bind fun _ => AM.pure .next) := by
  intro kp pn W s st A hA I _ b st' hm
  obtain ⟨t, st1, e1, e2⟩ := bind_some hm
  obtain ⟨rfl, rfl⟩ := pure_some e2
  rw [exec_Expr C.env _ pos hi hs]
  exact wpAny_bind (wpAny_standAt (wpAny_bind (R.use0 hA I e1 fun v s1 W1 h1 h2 h3 => wpAny_dropValue ⟨W1, h1, h2, trivial⟩)))
end
end Mine

open PySem PySem.W PyProof.Rows PySem.Calls PySem.Spec
set_option Elab.async false
namespace Mine

/-! subscripts -/
noncomputable def cutLo : Option Int → Nat → Nat
  | none, _ => 0
  | some x, n => min x.toNat n
noncomputable def cutHi : Option Int → Nat → Nat
  | none, n => n
  | some y, n => min y.toNat n
noncomputable def nonneg : Option Int → Bool
  | none => true
  | some x => decide (0 ≤ x)
noncomputable def cutL {α : Type} (lo hi : Option Int) (l : List α) : List α := (l.drop (cutLo lo l.length)).take (cutHi hi l.length - cutLo lo l.length)
theorem kms_lo_eq {v : Option Int} {n : Nat} (h : nonneg v = true) : kms_lo v n = cutLo v n := by
  cases v with
  | none => rfl
  | some x =>
    have : ¬ x < 0 := by simpa [nonneg] using h
    simp only [kms_lo, cutLo, if_neg this]
theorem kms_hi_eq {v : Option Int} {n : Nat} (h : nonneg v = true) : kms_hi v n = cutHi v n := by
  cases v with
  | none => rfl
  | some x =>
    have : ¬ x < 0 := by simpa [nonneg] using h
    simp only [kms_hi, cutHi, if_neg this]
theorem kms_pick_cut {lo hi : Option Int} {l : List Value} (h1 : nonneg lo = true) (h2 : nonneg hi = true) : kms_pick l lo hi = cutL lo hi l := by
  unfold kms_pick cutL
  rw [kms_lo_eq h1, kms_hi_eq h2]

theorem adjust_cut {lo hi : Option Int} {n : Nat} (h1 : nonneg lo = true) (h2 : nonneg hi = true) : Builtin.Slice.sliceAdjust lo hi 1 (n : Int) = ((cutLo lo n : Int), (cutHi hi n : Int)) := by
  have h : ¬ ((1 : Int) < 0) := by omega
  unfold Builtin.Slice.sliceAdjust
  simp only [h, if_false]
  refine Prod.ext ?_ ?_
  · cases lo with
    | none => rfl
    | some x =>
      have hx : ¬ x < 0 := by simpa [nonneg] using h1
      simp only [cutLo, hx, if_false]; omega
  · cases hi with
    | none => rfl
    | some x =>
      have hx : ¬ x < 0 := by simpa [nonneg] using h2
      simp only [cutHi, hx, if_false]; omega
theorem places_cut (a b : Nat) : Builtin.Slice.slicePlaces (a : Int) (b : Int) 1 = b - a := by
  unfold Builtin.Slice.slicePlaces
  have h1 : (1 : Int) > 0 := by omega
  simp only [h1, if_true, Int.ediv_one]
  split <;> omega
theorem pick_cut (xs : Array Value) (a k : Nat) : ((List.range k).filterMap fun (j : Nat) => xs[((a : Int) + (j : Int) * 1).toNat]?) = (xs.toList.drop a).take k := by
  have e : (fun (j : Nat) => xs[((a : Int) + (j : Int) * 1).toNat]?) = fun j => xs[a + j]? := by
    funext j
    have : ((a : Int) + (j : Int) * 1).toNat = a + j := by omega
    rw [this]
  rw [e]
  have := pick_run xs a k
  rw [List.filterMap_map] at this
  exact this

section
variable {prog : Program} {w : World} {A : Around} {E : Value → Shared → Prop} {s : Shared}
theorem slicePart_of {v : Value} {k : Option Int} {Q : Option Int → Shared → Prop} (hv : IsPart v k) (h : Q k s) : wpAny (model prog w) A (Builtin.Slice.slicePartIndex v) Q E s := by
  cases hv with
  | none => exact slicePart_none h
  | int i t => exact slicePart_int h
theorem sliceApplied_cut {sl : Addr} {vl vu : Value} {lo hi : Option Int} {n : Nat} {Q : Int × Int × Nat → Shared → Prop} (hs : s.heap.IsSliceOf sl vl vu .none) (pl : IsPart vl lo) (pu : IsPart vu hi)
    (h1 : nonneg lo = true) (h2 : nonneg hi = true) (h : Q ((cutLo lo n : Int), 1, cutHi hi n - cutLo lo n) s) :
    wpAny (model prog w) A (Builtin.Slice.sliceApplied (.ref sl) (pure (n : Int))) Q E s := by
  obtain ⟨os, hos, hcs, hds⟩ := id hs
  unfold Builtin.Slice.sliceApplied Builtin.Slice.sliceFields
  refine wpAny_bind (wpAny_bind (wpAny_field hos hds (x := vl) rfl (wpAny_bind (wpAny_field hos hds (x := vu) rfl (wpAny_bind (wpAny_field hos hds (x := .none) rfl (wpAny_pure ?_)))))))
  refine wpAny_bind (slicePart_none ?_)
  show wpAny _ _ (if ((1 : Int) == 0) = true then _ else _) _ _ s
  rw [if_neg (by decide)]
  refine wpAny_bind (slicePart_of pl (wpAny_bind (slicePart_of pu (wpAny_bind (wpAny_pure ?_)))))
  show wpAny _ _ (match Builtin.Slice.sliceAdjust lo hi 1 (n : Int) with | (lo, hi) => pure (lo, (1 : Int), Builtin.Slice.slicePlaces lo hi 1)) _ _ s
  rw [adjust_cut h1 h2]
  show wpAny _ _ (pure ((cutLo lo n : Int), (1 : Int), Builtin.Slice.slicePlaces (cutLo lo n : Int) (cutHi hi n : Int) 1)) _ _ s
  rw [places_cut]
  exact wpAny_pure h

theorem getItem_tuple_cut {t sl : Addr} {items : Array Value} {vl vu : Value} {lo hi : Option Int} {Q : Value → Shared → Prop} (ht : IsTup s.heap t items) (hs : s.heap.IsSliceOf sl vl vu .none) (pl : IsPart vl lo) (pu : IsPart vu hi)
    (h1 : nonneg lo = true) (h2 : nonneg hi = true) (hfull : cutL lo hi items.toList = items.toList → Q (.ref t) s)
    (h : Q (.ref s.heap.objs.size) { s with heap := s.heap.push { cls := .type "tuple", data := .seq (cutL lo hi items.toList).toArray } })
    (hsz : items.size ≤ sizeLine) : wpAny (model prog w) A (getItem (.ref t) (.ref sl)) Q E s := by
  have hcut : sizeOk (.seq (cutL lo hi items.toList).toArray) := by
    show (cutL lo hi items.toList).toArray.size ≤ sizeLine
    unfold cutL
    rw [List.size_toArray, List.length_take, List.length_drop, Array.length_toList]
    omega
  obtain ⟨os, hos, hcs, hds⟩ := id hs
  have hTs : s.TypeIs (.ref sl) "slice" := ⟨os, hos, hcs⟩
  unfold getItem
  try with_reducible refine wpAny_holding ?_
  first | refine wpAny_bind (wpAny_pure ?_) | skip
  refine wpAny_bind (wpAny_sequenceKey ht.typeIs (by decide) ?_)
  refine wpAny_bind (wpAny_callSpecial?_slot (name := Str.ofString "__getitem__") ht.typeIs PyProof.Rows.slot_tuple_getitem
    (wpAny_call_entry PyProof.Rows.slot_tuple_getitem ht.typeIs PyProof.Rows.entry_tuple_getitem ?_ (PyProof.Rows.args_tuple_getitem _ _)))
  show wpAny _ _ (Builtin.Tuple.tupleItemsOf (.ref t) >>= _) _ _ s
  refine wpAny_bind (tupleItemsOf_ ht ?_)
  refine wpAny_bind (wpAny_typeOf hTs ?_)
  rw [if_pos (by decide)]
  refine wpAny_bind (sliceApplied_cut hs pl pu h1 h2 ?_)
  show wpAny _ _ (if ((cutLo lo items.size : Int) == 0 && (1 : Int) == 1 && (cutHi hi items.size - cutLo lo items.size) == items.size) = true then _ else _) _ _ s
  split
  · rename_i hc
    simp only [Bool.and_eq_true, beq_iff_eq] at hc
    have hfull' := hfull (by
      unfold cutL
      rw [Array.length_toList]
      have e1 : cutLo lo items.size = 0 := by omega
      rw [e1, List.drop_zero, List.take_of_length_le (by rw [Array.length_toList]; omega)])
    refine wpAny_bind (m := Builtin.Tuple.tupleIsExact (.ref t)) (wpAny_bind (wpAny_typeOf ht.typeIs (wpAny_pure ?_)))
    rw [if_pos (by rfl)]
    exact wpAny_bind (wpAny_rule (wpAny_pure ⟨_, rfl, wpAny_pure hfull'⟩))
  · rw [pick_cut items]
    have e : (items.toList.drop (cutLo lo items.size)).take (cutHi hi items.size - cutLo lo items.size) = cutL lo hi items.toList := by unfold cutL; rw [Array.length_toList]
    rw [e]
    first
      | exact wpAny_bind (m := Builtin.Tuple.tupleExact _) (wpAny_newObj_type (wpAny_pure ⟨_, rfl, wpAny_pure h⟩) hcut)
      | exact wpAny_bind (m := Builtin.Tuple.tupleExact _) (wpAny_newObj_type (wpAny_bind (wpAny_pure (wpAny_pure ⟨_, rfl, wpAny_pure h⟩))) hcut)
      | exact wpAny_bind (wpAny_bind (m := Builtin.Tuple.tupleExact _) (wpAny_newObj_type (wpAny_pure (wpAny_pure ⟨_, rfl, wpAny_pure h⟩)) hcut))
      | exact wpAny_bind (wpAny_bind (m := Builtin.Tuple.tupleExact _) (wpAny_newObj_type (wpAny_pure ⟨_, rfl, wpAny_pure h⟩) hcut))
end

section
variable {G : Gl} {C : Act} {hq : Bool}

/-- a slice -/
noncomputable def partA (x : Option (AM AV)) : AM (Option Int) := match x with
  | none => AM.pure none
  | some m => m.bind fun a => match a with
    | .dat (.int i) => AM.pure (some i)
    | _ => AM.fail
theorem part_use {x : Option Expr} {mx : Option (AM AV)} (h : match x, mx with | none, none => True | some e, some m => Ref G C hq (eval e C.env) RV m | _, _ => False)
    {kp pn : List (Addr × Obj)} {W : WS} {s : Shared} {st st' : St} {A : Around} {b : Option Int} (hA : AOk C hq A) (I : G.I C kp pn W s st) (hm : partA mx st = some (b, st')) {Q : Value → Shared → Prop} {E : Value → Shared → Prop}
    (k : ∀ v s' W', W.le W' → G.I C kp pn W' s' st' → IsPart v b → Q v s') : wpAny G.M A (evalPart x C.env) Q E s := by
  cases x with
  | none =>
    cases mx with
    | none =>
      obtain ⟨rfl, rfl⟩ := pure_some hm
      rw [evalPart_none]
      exact wpAny_pure (k _ _ W (.refl _) I .none)
    | some m => exact h.elim
  | some e =>
    cases mx with
    | none => exact h.elim
    | some m =>
      obtain ⟨a, st1, e1, e2⟩ := bind_some hm
      rw [evalPart_some]
      refine h.use0 hA I e1 fun v s1 W1 h1 h2 h3 => ?_
      split at e2
      · obtain ⟨rfl, rfl⟩ := pure_some e2
        obtain ⟨t, rfl⟩ := rv_int h3
        exact k _ _ W1 h1 h2 (.int _ _)
      · exact (fail_some e2).elim
theorem ref_Slice {lower upper : Option Expr} {p : Pos} {ml mu : Option (AM AV)} (h1 : match lower, ml with | none, none => True | some e, some m => Ref G C hq (eval e C.env) RV m | _, _ => False)
    (h2 : match upper, mu with | none, none => True | some e, some m => Ref G C hq (eval e C.env) RV m | _, _ => False) :
    Ref G C hq (eval (.Slice lower upper none p) C.env) RV ((partA ml).bind fun lo => (partA mu).bind fun hi => AM.pure (.slc lo hi)) := by
  intro kp pn W s st A hA I _ b st' hm
  obtain ⟨lo, st1, e1, e2⟩ := bind_some hm
  obtain ⟨hi, st2, e3, e4⟩ := bind_some e2
  obtain ⟨rfl, rfl⟩ := pure_some e4
  refine wpAny_Slice (part_use h1 hA I e1 fun vl s1 W1 k1 k2 k3 => part_use h2 hA k2 e3 fun vu s2 W2 j1 j2 j3 => ?_)
  rw [evalPart_none]
  refine wpAny_pure ?_
  obtain ⟨I', le⟩ := Inv.push (s' := { s2 with heap := s2.heap.push (slcO vl vu) }) j2 (slcO vl vu) rfl
  exact ⟨_, (k1.trans j1).trans le, I', _, vl, vu, rfl, .head _, k3, j3⟩

noncomputable def strCut (x : Str) (lo hi : Option Int) : Str :=
  if (slicePicked x (lo.map (·, 0)) (hi.map (·, 0)) none).length == x.length then x else ⟨((slicePicked x (lo.map (·, 0)) (hi.map (·, 0)) none).filterMap (x.cps[·]?)).toArray⟩
noncomputable def getA : AV → AV → AM AV
  | .dat (.list ds), .dat (.int k) => fun st => if 0 ≤ k ∧ k < 1000 then match ds[k.toNat]? with
    | some d => some (.dat d, st)
    | none => none else none
  | .dat (.tuple ds), .dat (.int k) => fun st => if 0 ≤ k ∧ k < 1000 then match ds[k.toNat]? with
    | some d => some (.dat d, st)
    | none => none else none
  | .dat (.str x), .dat (.int k) => fun st => if 0 ≤ k ∧ k < 1000 then match x.cps[k.toNat]? with
    | some c => some (.dat (.str ⟨#[c]⟩), st)
    | none => none else none
  | .ref r, .dat (.int k) => fun st => match st.heap[r]? with
    | some (.list l) => if 0 ≤ k ∧ k < 1000 then match l[k.toNat]? with
        | some a => some (a, st)
        | none => none
      else if k = -1 then match l.getLast? with
        | some a => some (a, st)
        | none => none
      else none
    | some (.dict l) => match (l.find? fun p => decide (p.1 = k)) with
      | some p => some (p.2, st)
      | none => none
    | some (.pdict l) => match (l.find? fun p => decide (p.1 = k)) with
      | some p => some (p.2, st)
      | none => none
    | _ => none
  | .dat (.list ds), .slc lo hi => fun st => if nonneg lo && nonneg hi && decide (ds.length < 1000) then some (.dat (.list (cutL lo hi ds)), st) else none
  | .dat (.tuple ds), .slc lo hi => fun st => if nonneg lo && nonneg hi && decide (ds.length < 1000) then some (.dat (.tuple (cutL lo hi ds)), st) else none
  | .dat (.str x), .slc lo hi => fun st => if (strCut x lo hi).length < 1000 then some (.dat (.str (strCut x lo hi)), st) else none
  | .ref r, .slc lo hi => fun st => match st.heap[r]? with
    | some (.list l) => match datsA l with
      | some ds => if nonneg lo && nonneg hi && decide (ds.length < 1000) then some (.dat (.list (cutL lo hi ds)), st) else none
      | none => none
    | _ => none
  | _, _ => AM.fail
theorem find_pair {W : WS} {kvs : List (Int × Value)} {l : List (Int × AV)} (h : A2 (fun kv p => kv.1 = p.1 ∧ RV W kv.2 p.2) kvs l) {k : Int} {p : Int × AV} (hp : (l.find? fun p => decide (p.1 = k)) = some p) : ∃ v, valueAt kvs k = some v ∧ RV W v p.2 := by
  unfold valueAt
  induction h with
  | nil => cases hp
  | cons h1 h2 ih =>
    rename_i kv q kvs l
    rw [List.find?_cons] at hp ⊢
    by_cases e : q.1 = k
    · rw [h1.1]
      simp only [e, decide_true] at hp ⊢
      cases hp
      exact ⟨_, rfl, h1.2⟩
    · rw [h1.1]
      simp only [e, decide_false] at hp ⊢
      exact ih hp
noncomputable def GetOk (G : Gl) (A : Around) (o i : Value) (s : Shared) (Q : Value → Shared → Prop) : Prop := ∃ T id, s.TypeIs o T ∧ typeLookup (.type T) "__getitem__" = pure (some (.builtin id)) ∧ wpAny G.M A (getItem o i) Q (fun _ _ => False) s
theorem GetOk.tail {A : Around} {o i : Value} {s : Shared} {Q : Value → Shared → Prop} {value slice : Expr} (h : GetOk G A o i s Q) : wpAny G.M A (subscriptTail value slice o i) Q (fun _ _ => False) s := by
  obtain ⟨T, id, hT, hl, h⟩ := h
  unfold subscriptTail
  refine wpAny_bind ?_
  rw [getitemInPython_of_ne hT.not_modules]
  refine wpAny_bind (wpAny_specialOf hT hl ?_)
  have fin : wpAny G.M A (subscripted slice false o i) (fun r s₃ => wpAny G.M A (letTemporaryGo value o r >>= fun _ => pure r) Q (fun _ _ => False) s₃) (fun _ _ => False) s := by
    have hs : ∃ l, subscripted slice false o i = operate l (getItem o i) := by
      unfold subscripted
      split <;> first | exact ⟨_, rfl⟩ | cases (by assumption : false = true)
    obtain ⟨l, hs⟩ := hs
    rw [hs]
    exact wpAny_operating (wpAny_mono h (fun r s₃ h₃ => wpAny_bind (wpAny_letTemporaryGo (wpAny_pure h₃))) fun _ _ x => x)
  first
    | exact wpAny_pure (wpAny_bind fin)
    | exact wpAny_bind (wpAny_pure (wpAny_bind fin))
    | exact wpAny_bind fin
theorem RDs.cut {frz : List (Addr × Obj)} {vs : List Value} {ds : List PyData} (h : RDs frz vs ds) (lo hi : Option Int) : RDs frz (cutL lo hi vs) (cutL lo hi ds) := by
  unfold cutL
  rw [h.length]
  exact (h.drop _).take _
theorem seqIndex_pos {i : Int} {n : Nat} (h : 0 ≤ i) (h2 : i.toNat < n) : seqIndex? i n = some i.toNat := by
  unfold seqIndex?
  have h0 : ¬ i < 0 := by omega
  simp only [h0, if_false]
  have : (decide (0 ≤ i) && decide (i < (n : Int))) = true := by simp; omega
  rw [if_pos this]
theorem getA_ok (hG : G.Ok) {v1 v2 : Value} {a1 a2 : AV} {kp pn : List (Addr × Obj)} {W : WS} {s : Shared} {st st' : St} {A : Around} {b : AV} (I : G.I C kp pn W s st) (r1 : RV W v1 a1) (r2 : RV W v2 a2) (hm : getA a1 a2 st = some (b, st')) {Q : Value → Shared → Prop}
    (k : ∀ v s' W', W.le W' → G.I C kp pn W' s' st' → RV W' v b → Q v s') : GetOk G A v1 v2 s Q := by
  unfold getA at hm
  split at hm
  · split at hm
    · rename_i hk
      split at hm
      · rename_i d hd
        cases hm
        obtain ⟨a, vs, n, rfl, h1, h2⟩ := rv_list r1
        obtain ⟨t, rfl⟩ := rv_int r2
        obtain ⟨v, hv, hr⟩ := RDs.at (W := W) h2 (i := _) (av := .dat d) (by rw [List.getElem?_map, hd]; rfl)
        have hl : s.heap.IsList a vs := ⟨_, I.frz _ h1, rfl, n, rfl⟩
        exact ⟨_, _, hl.typeIs, list_getitem_lookup, wpAny_getItem_list hl hk.1 (by omega) (by rw [← Array.getElem?_toList]; exact hv) (k _ _ W (.refl _) I hr)⟩
      · cases hm
    · cases hm
  · split at hm
    · rename_i hk
      split at hm
      · rename_i d hd
        cases hm
        obtain ⟨a, vs, n, rfl, h1, h2⟩ := rv_tuple r1
        obtain ⟨t, rfl⟩ := rv_int r2
        obtain ⟨v, hv, hr⟩ := RDs.at (W := W) h2 (i := _) (av := .dat d) (by rw [List.getElem?_map, hd]; rfl)
        have hl : IsTup s.heap a vs := ⟨_, I.frz _ h1, rfl, n, rfl⟩
        rw [Array.getElem?_toList] at hv
        have hlt := (Array.getElem?_eq_some_iff.mp hv).1
        refine ⟨_, _, hl.typeIs, PyProof.Rows.slot_tuple_getitem.lookup, PyProof.Rows.getItem_tuple hl (by omega) (by omega) ?_ hv (k _ _ W (.refl _) I hr)⟩
        exact seqIndex_pos hk.1 hlt
      · cases hm
    · cases hm
  · split at hm
    · rename_i hk
      split at hm
      · rename_i c hc
        cases hm
        obtain ⟨u, rfl⟩ := rv_str r1
        obtain ⟨t, rfl⟩ := rv_int r2
        have hlt := (Array.getElem?_eq_some_iff.mp hc).1
        refine ⟨_, _, typeIs_str s _ u, F.slot_str_getitem.lookup, PyProof.Rows.getItem_str (c := c) (by simp; omega) ?_ (k _ _ W (.refl _) (Inv.toks I) (.str _ _))⟩
        rw [seqIndex_pos (n := _) hk.1 (show _ < Str.length _ from hlt)]
        exact hc
      · cases hm
    · cases hm
  · rename_i r kk
    obtain ⟨a, ha, rfl⟩ := r1
    obtain ⟨t, rfl⟩ := rv_int r2
    split at hm
    · rename_i l hl
      obtain ⟨a', ha', o, ho, vs, n, rfl, hd⟩ := I.trk.get hl
      rw [ha] at ha'; cases ha'
      have hl' : s.heap.IsList a vs := ⟨_, ho, rfl, n, rfl⟩
      split at hm
      · rename_i hk
        split at hm
        · rename_i av hav
          cases hm
          obtain ⟨v, hv, hr⟩ := hd.get hav
          exact ⟨_, _, hl'.typeIs, list_getitem_lookup, wpAny_getItem_list hl' hk.1 (by omega) (by rw [← Array.getElem?_toList]; exact hv) (k _ _ W (.refl _) I hr)⟩
        · cases hm
      · split at hm
        · rename_i hk
          subst hk
          split at hm
          · rename_i av hav
            cases hm
            rw [List.getLast?_eq_getElem?] at hav
            obtain ⟨v, hv, hr⟩ := hd.get hav
            have hlen := hd.length
            rw [Array.length_toList] at hlen
            have hlt := (List.getElem?_eq_some_iff.mp hav).1
            refine ⟨_, _, hl'.typeIs, list_getitem_lookup, wpAny_getItem_list_neg hl' (by omega) (by omega) (by omega) ?_ (k _ _ W (.refl _) I hr)⟩
            rw [← Array.getElem?_toList, ← hv]
            congr 1
            omega
          · cases hm
        · cases hm
    · rename_i l hl
      split at hm
      · rename_i p hp
        cases hm
        obtain ⟨a', ha', o, ho, kvs, hx, hd⟩ := I.trk.get hl
        rw [ha] at ha'; cases ha'
        obtain ⟨v, hv, hr⟩ := find_pair hd hp
        obtain ⟨es, ep, q⟩ := hx
        have hD : s.heap.DictOf (intKind G.prog G.w) a kvs := ⟨o, es, ep, ho, q⟩
        exact ⟨_, _, hD.mapOf.typeIs, slot_dict_getitem.lookup, wpAny_getItem_of (knd := intKind G.prog G.w) (k := kk) (intKind_is _ _ _ _) hD.mapOf hv (k _ _ W (.refl _) (Inv.toks I) hr)⟩
      · cases hm
    · rename_i l hl
      split at hm
      · rename_i p hp
        cases hm
        obtain ⟨a', ha', o, ho, kvs, hx, hd⟩ := I.trk.get hl
        rw [ha] at ha'; cases ha'
        obtain ⟨v, hv, hr⟩ := find_pair hd hp
        obtain ⟨es, ep, q⟩ := hx
        have hD : s.heap.DictOf (intKind G.prog G.w) a kvs := ⟨o, es, ep, ho, q⟩
        exact ⟨_, _, hD.mapOf.typeIs, slot_dict_getitem.lookup, wpAny_getItem_of (knd := intKind G.prog G.w) (k := kk) (intKind_is _ _ _ _) hD.mapOf hv (k _ _ W (.refl _) (Inv.toks I) hr)⟩
      · cases hm
    · cases hm
  · rename_i ds lo hi
    split at hm
    · rename_i hc
      simp only [Bool.and_eq_true, decide_eq_true_eq] at hc
      cases hm
      obtain ⟨a, vs, n, rfl, h1, h2⟩ := rv_list r1
      obtain ⟨b, vl, vu, rfl, hm2, pl, pu⟩ := r2
      have hl : s.heap.IsList a vs := ⟨_, I.frz _ h1, rfl, n, rfl⟩
      have hs : s.heap.IsSliceOf b vl vu .none := ⟨_, I.frz _ hm2, rfl, rfl⟩
      have hlen := h2.length
      rw [Array.length_toList] at hlen
      refine ⟨_, _, hl.typeIs, list_getitem_lookup, wpAny_getItem_list_slice hl hs pl pu .none (by simp) ?_ (sz1000 (by omega))⟩
      obtain ⟨I', le⟩ := Inv.push (s' := { s with heap := s.heap.push { cls := .type "list", data := .seq (slicePick vs _ _ none) } }) I { cls := .type "list", data := .seq (slicePick vs _ _ none) } rfl
      refine k _ _ _ le I' (.list (.head _) ?_)
      have e : (slicePick vs lo hi none).toList = cutL lo hi vs.toList := by rw [kms_pick_eq, List.toList_toArray, kms_pick_cut hc.1.1 hc.1.2]
      rw [e]
      exact RDs.mono le.frz (h2.cut _ _)
    · cases hm
  · rename_i ds lo hi
    split at hm
    · rename_i hc
      simp only [Bool.and_eq_true, decide_eq_true_eq] at hc
      cases hm
      obtain ⟨a, vs, n, rfl, h1, h2⟩ := rv_tuple r1
      obtain ⟨b, vl, vu, rfl, hm2, pl, pu⟩ := r2
      have hl : IsTup s.heap a vs := ⟨_, I.frz _ h1, rfl, n, rfl⟩
      have hs : s.heap.IsSliceOf b vl vu .none := ⟨_, I.frz _ hm2, rfl, rfl⟩
      have hlen := h2.length
      rw [Array.length_toList] at hlen
      refine ⟨_, _, hl.typeIs, PyProof.Rows.slot_tuple_getitem.lookup, getItem_tuple_cut hl hs pl pu hc.1.1 hc.1.2 (fun e => ?_) ?_ (sz1000 (by omega))⟩
      · refine k _ _ W (.refl _) I (.tuple h1 ?_)
        have := h2.cut lo hi
        rw [e] at this
        exact this
      · obtain ⟨I', le⟩ := Inv.push (s' := { s with heap := s.heap.push { cls := .type "tuple", data := .seq (cutL _ _ vs.toList).toArray } }) I { cls := .type "tuple", data := .seq (cutL _ _ vs.toList).toArray } rfl
        refine k _ _ _ le I' (.tuple (.head _) ?_)
        rw [List.toList_toArray]
        exact RDs.mono le.frz (h2.cut _ _)
    · cases hm
  · rename_i x lo hi
    split at hm
    · rename_i hlt
      cases hm
      obtain ⟨u, rfl⟩ := rv_str r1
      obtain ⟨b, vl, vu, rfl, hm2, pl, pu⟩ := r2
      have pv : ∀ {v : Value} {o : Option Int}, IsPart v o → ∃ l : Option (Int × Tok), v = partValue l ∧ o = l.map (·.1) := by
        intro v o h
        cases h with
        | none => exact ⟨none, rfl, rfl⟩
        | int i t => exact ⟨some (i, t), rfl, rfl⟩
      obtain ⟨l, rfl, rfl⟩ := pv pl
      obtain ⟨u', rfl, rfl⟩ := pv pu
      refine ⟨_, _, typeIs_str s _ u, F.slot_str_getitem.lookup, wpAny_getItem_str_slice (l := l) (u := u') (st := none) ⟨_, I.frz _ hm2, rfl, rfl⟩ rfl ?_⟩
      have e : ∀ o : Option (Int × Tok), ((o.map (·.1)).map fun i => (i, 0)).map (·.1) = o.map (·.1) := by intro o; cases o <;> rfl
      have e2 : slicePicked x ((l.map (·.1)).map (·, 0)) ((u'.map (·.1)).map (·, 0)) none = slicePicked x l u' none := by
        unfold slicePicked
        rw [e, e]
      unfold strCut at hlt k
      rw [e2] at hlt k
      unfold sliceMade
      by_cases hc : (slicePicked x l u' none).length == x.length
      · rw [if_pos (by simpa using hc)]
        rw [if_pos hc] at k
        exact k _ _ W (.refl _) I (.str _ _)
      · rw [if_neg (by simpa using hc)]
        rw [if_neg hc] at k hlt
        exact ⟨sz1000 hlt, k _ _ W (.refl _) (Inv.toks I) (.str _ _)⟩
    · cases hm
  · rename_i r lo hi
    obtain ⟨a, ha, rfl⟩ := r1
    split at hm
    · rename_i l hl
      split at hm
      · rename_i ds hds
        split at hm
        · rename_i hc
          simp only [Bool.and_eq_true, decide_eq_true_eq] at hc
          cases hm
          obtain ⟨a', ha', o, ho, vs, n, rfl, hd⟩ := I.trk.get hl
          rw [ha] at ha'; cases ha'
          obtain ⟨b, vl, vu, rfl, hm2, pl, pu⟩ := r2
          have h2 := dats_of hd hds
          have hl : s.heap.IsList a vs := ⟨_, ho, rfl, n, rfl⟩
          have hs : s.heap.IsSliceOf b vl vu .none := ⟨_, I.frz _ hm2, rfl, rfl⟩
          have hlen := h2.length
          rw [Array.length_toList] at hlen
          refine ⟨_, _, hl.typeIs, list_getitem_lookup, wpAny_getItem_list_slice hl hs pl pu .none (by simp) ?_ (sz1000 (by omega))⟩
          obtain ⟨I', le⟩ := Inv.push (s' := { s with heap := s.heap.push { cls := .type "list", data := .seq (slicePick vs _ _ none) } }) I { cls := .type "list", data := .seq (slicePick vs _ _ none) } rfl
          refine k _ _ _ le I' (.list (.head _) ?_)
          have e : (slicePick vs lo hi none).toList = cutL lo hi vs.toList := by rw [kms_pick_eq, List.toList_toArray, kms_pick_cut hc.1.1 hc.1.2]
          rw [e]
          exact RDs.mono le.frz (h2.cut _ _)
        · cases hm
      · cases hm
    · cases hm
  · exact (fail_some hm).elim
theorem ref_Subscript (hG : G.Ok) {value slice : Expr} {pos : Pos} {m1 m2 : AM AV} (R1 : Ref G C hq (eval value C.env) RV m1) (R2 : Ref G C hq (eval slice C.env) RV m2) :
    Ref G C hq (eval (.Subscript value slice pos) C.env) RV (m1.bind fun a => m2.bind fun b => getA a b) := by
  intro kp pn W s st A hA I _ b st' hm
  obtain ⟨a1, st1, e1, e2⟩ := bind_some hm
  obtain ⟨a2, st2, e3, e4⟩ := bind_some e2
  refine Subscript_ (R1.use0 hA I e1 fun v1 s1 W1 h1 h2 h3 => R2.use0 hA h2 e3 fun v2 s2 W2 h1' h2' h3' => ?_)
  exact (getA_ok hG h2' (h3.mono h1') h3' e4 fun v s3 W3 k1 k2 k3 => ⟨W3, (h1.trans h1').trans k1, k2, k3⟩).tail
end
end Mine

open PySem PySem.W PyProof.Rows PySem.Calls PySem.Spec
set_option Elab.async false
namespace Mine

noncomputable def listO (vs : Array Value) (n : Nat) : Obj := { cls := .type "list", data := .seq vs n }

section
variable {G : Gl} {C : Act}

/-- a list that grows beside -/
structure Acc (G : Gl) (C : Act) (kp pn : List (Addr × Obj)) (W : WS) (s : Shared) (acc : Addr) (l : List AV) : Prop where
  at' : ∃ vs n, s.heap.get? acc = some (listO vs n) ∧ RVs W vs.toList l
  fresh : Fresh C kp pn W acc
  old : G.h₀.objs.size ≤ acc

theorem Fresh.cons {kp pn : List (Addr × Obj)} {W : WS} {a b : Addr} {o : Obj} (F : Fresh C kp pn W a) (h : b ≠ a) : Fresh C ((b, o) :: kp) pn W a :=
  ⟨F.own, F.frz, fun p hp => by
    rcases List.mem_cons.mp hp with rfl | hp
    · exact h
    · exact F.kp p hp, F.ups, F.pn⟩
theorem Fresh.uncons {kp pn : List (Addr × Obj)} {W : WS} {a b : Addr} {o : Obj} (F : Fresh C ((b, o) :: kp) pn W a) : Fresh C kp pn W a ∧ b ≠ a :=
  ⟨⟨F.own, F.frz, fun p hp => F.kp p (.tail _ hp), F.ups, F.pn⟩, F.kp _ (.head _)⟩

noncomputable def CStep (G : Gl) (C : Act) (acc : Addr) (t : Sem Unit) (ma : List AV → AM (List AV)) : Prop := ∀ kp pn W s st A l, AOk C true A → G.I C kp pn W s st → Acc G C kp pn W s acc l → ∀ l' st', ma l st = some (l', st') →
  wpAny G.M A t (fun _ s' => ∃ W', W.le W' ∧ G.I C kp pn W' s' st' ∧ Acc G C kp pn W' s' acc l') (fun _ _ => False) s

noncomputable def emitA (me : AM AV) (l : List AV) : AM (List AV) := me.bind fun a => if l.length < 900 then AM.pure (l ++ [a]) else AM.fail

theorem call_append {A : Around} {E : Value → Shared → Prop} {s : Shared} {l : Addr} {items : Array Value} {n : Nat} {v : Value} {Q : Value → Shared → Prop} (hl : s.heap.get? l = some (listO items n)) (hsz : items.size ≤ sizeLine)
    (h : Q .none { s with heap := s.heap.update l (Obj.mapSeq fun xs => xs.push v) }) : wpAny G.M A (call (.builtin "list.append") [.ref l, v]) Q E s :=
  call_meets F.slot_list_append ⟨_, hl, rfl⟩ F.entry_list_append (F.args_list_append_2 _ _) (list_append l items n v hsz) ⟨hl, h⟩

theorem cstep_emit {acc : Addr} {elt : Expr} {me : AM AV} (Re : Ref G C true (eval elt C.env) RV me) : CStep G C acc (eval elt C.env >>= fun x => call (.builtin "list.append") [.ref acc, x] >>= fun _ => pure ()) (emitA me) := by
  intro kp pn W s st A l hA I ⟨⟨vs, n, ha, hr⟩, F, h0⟩ l' st' hm
  obtain ⟨a, st1, e1, e2⟩ := bind_some hm
  split at e2
  · rename_i hlt
    obtain ⟨rfl, rfl⟩ := pure_some e2
    have I1 := I.hold F ha
    refine wpAny_bind (Re.use0 hA I1 e1 fun v s1 W1 h1 h2 h3 => ?_)
    obtain ⟨I2, F2, ha2⟩ := h2.unhold F
    have hlen := hr.length
    rw [Array.length_toList] at hlen
    refine wpAny_bind (call_append ha2 (sz1000 (by omega)) (wpAny_pure ?_))
    have ha3 : ∃ n', (s1.heap.update acc (Obj.mapSeq fun xs => xs.push v)).get? acc = some (listO (vs.push v) n') := ⟨_, Heap.get?_update_self _ ha2 rfl⟩
    refine ⟨W1, h1, Inv.stepIt (s' := { s1 with heap := s1.heap.update acc (Obj.mapSeq fun xs => xs.push v) }) I2 F2 (Heap.SameBut.update ..).extBut h0, ⟨?_, F2, h0⟩⟩
    obtain ⟨n', e⟩ := ha3
    refine ⟨_, n', e, ?_⟩
    rw [Array.toList_push]
    exact (hr.mono h1).append (.cons h3 .nil)
  · exact (fail_some e2).elim

/-- the tests of a clause -/
noncomputable def testsT (ifs : List Expr) (env : Env) : Sem Bool := forIn ifs true fun c r => if r = true then do let ok ← isTrue c env (eval c env); pure (ForInStep.yield ok) else pure (ForInStep.yield r)
theorem ref_tests_nil : Ref G C true (testsT [] C.env) RB (AM.pure true) := by
  intro kp pn W s st A hA I _ b st' hm
  obtain ⟨rfl, rfl⟩ := pure_some hm
  exact wpAny_tests_nil ⟨W, .refl _, I, rfl⟩
theorem ref_tests_one {c : Expr} {m : AM Bool} (R : Ref G C true (isTrue c C.env (eval c C.env)) RB m) : Ref G C true (testsT [c] C.env) RB m := by
  intro kp pn W s st A hA I _ b st' hm
  exact wpAny_tests_one (R.use0 hA I hm fun v s1 W1 h1 h2 h3 => ⟨W1, h1, h2, h3⟩)

noncomputable def turnT (g : Comprehension) (inner : Sem Unit) (fin : Sem Fin) (it : Value) (env : Env) : Sem Fin := standAt g.iter.pos >>= fun _ => pyNext it >>= fun r => match r with
  | none => pure (.done .next)
  | some v => letOwnedTupleGo g.target it v >>= fun _ => assign g.target env v >>= fun _ => testsT g.ifs env >>= fun ok => if ok = true then inner >>= fun _ => fin else fin

noncomputable def ctA (src : St → Option (List AV)) (ta : AV → AM Unit) (mt : AM Bool) (ma : List AV → AM (List AV)) : Nat → Nat → List AV → AM (List AV)
  | 0, _, _ => AM.fail
  | n + 1, i, l => fun st => match src st with
    | none => none
    | some xs => match xs[i]? with
      | none => some (l, st)
      | some av => match ta av st with
        | none => none
        | some (_, st1) => match mt st1 with
          | none => none
          | some (false, st2) => ctA src ta mt ma n (i + 1) l st2
          | some (true, st2) => match ma l st2 with
            | none => none
            | some (l', st3) => ctA src ta mt ma n (i + 1) l' st3

theorem cloop {elt : Expr} {gens : List Comprehension} {scope : Scope} {pos : Pos} {d : Nat} {g : Comprehension} {inner : Sem Unit} {it acc : Addr} (hturn : compTurn (.ListComp elt gens scope pos) d (.ref it) (.ref acc) C.env = turnT g inner (again (.compLoop (.ListComp elt gens scope pos) d (.ref it) (.ref acc) C.env)) (.ref it) C.env)
    {pn : List (Addr × Obj)} {W₀ : WS} {src : St → Option (List AV)} {P : Obj → Nat → Prop} {ta : AV → AM Unit} {mt : AM Bool} {ma : List AV → AM (List AV)}
    (Rt : ∀ v av, Ref G C true (assign g.target C.env v) RU (ta av) [(v, av)]) (Rs : Ref G C true (testsT g.ifs C.env) RB mt) (Ri : CStep G C acc inner ma) (S : Steps G C pn W₀ it src P) (h0 : G.h₀.objs.size ≤ it) (hne : it ≠ acc)
    {kp : List (Addr × Obj)} {A : Around} (hA : AOk C true A) {n i : Nat} {W : WS} {s : Shared} {st st' : St} {l l' : List AV} {o : Obj} (hm : ctA src ta mt ma n i l st = some (l', st')) (I : G.I C kp pn W s st) (hW : W₀.le W)
    (ho : s.heap.get? it = some o) (hP : P o i) (F : Fresh C kp pn W it) (hacc : Acc G C kp pn W s acc l) :
    codeAny G.M A (.compLoop (.ListComp elt gens scope pos) d (.ref it) (.ref acc) C.env) (fun r s' => ∃ W', r = .ok .next ∧ W.le W' ∧ G.I C kp pn W' s' st' ∧ Acc G C kp pn W' s' acc l') s := by
  refine codeAny_loop rfl (fun n s => ∃ i W1 st1 o l1, ctA src ta mt ma n i l1 st1 = some (l', st') ∧ G.I C kp pn W1 s st1 ∧ W.le W1 ∧ s.heap.get? it = some o ∧ P o i ∧ Fresh C kp pn W1 it ∧ Acc G C kp pn W1 s acc l1) ?_ n
    ⟨i, W, st, o, l, hm, I, .refl _, ho, hP, F, hacc⟩
  rintro n s ⟨i, W1, st1, o, l1, hm, I, hWW, ho, hP, F, ⟨⟨vs, na, ha, hr⟩, Fa, ha0⟩⟩
  show wpAny _ A ((compTurn (.ListComp elt gens scope pos) d (.ref it) (.ref acc) C.env).onRaise (fun x => do noteFrame x C.env; theTreesLotGoes x)) _ _ s
  refine wpAny_noted (wpAny_mono (E := fun _ _ => False) ?_ (fun _ _ x => x) fun _ _ x => x.elim)
  rw [hturn]
  unfold turnT
  refine wpAny_bind (wpAny_standAt ?_)
  cases n with
  | zero => exact (fail_some hm).elim
  | succ n =>
    simp only [ctA] at hm
    split at hm
    · cases hm
    · rename_i xs hl
      obtain ⟨t, tvs, hc, hd, hn⟩ := S.obj o i hP
      split at hm
      · rename_i hnone
        cases hm
        refine wpAny_bind (S.fin i kp W1 s _ A o xs _ hA (hW.trans hWW) I hl hnone ho hP fun h' hs => wpAny_pure ?_)
        exact ⟨W1, rfl, hWW, Inv.stepIt (s' := { s with heap := h' }) I F hs h0, ⟨⟨vs, na, hs _ _ hne.symm ha, hr⟩, Fa, ha0⟩⟩
      · rename_i av hav
        split at hm
        · cases hm
        · rename_i u st2 ht
          refine wpAny_bind (S.item i kp W1 s _ A o xs av _ hA (hW.trans hWW) I hl hav ho hP fun v h' tk o' hrv ho' hP' hs => ?_)
          have I1 : G.I C kp pn W1 { s with heap := h', toks := tk } st1 := Inv.stepIt I F hs.extBut h0
          have ha1 : h'.get? acc = some (listO vs na) := hs.extBut _ _ hne.symm ha
          obtain ⟨t', vs', hc', hd', hn'⟩ := S.obj o' _ hP'
          refine wpAny_bind (letOwned_quiet ho' hc' hd' hn' ?_)
          have I2 := I1.hold F ho'
          have Fa1 : Fresh C ((it, o') :: kp) pn W1 acc := Fa.cons hne
          have I3 := I2.hold Fa1 ha1
          refine wpAny_bind ((Rt v av).use hA I3 (fun p hp => by rw [List.mem_singleton.mp hp]; exact hrv) ht fun _ s2 W2 k1 k2 _ => ?_)
          split at hm
          · cases hm
          all_goals
            rename_i st3 hb
            refine wpAny_bind (Rs.use0 hA k2 hb fun ok s3 W3 j1 j2 j3 => ?_)
            obtain ⟨I4, Fa4, ha4⟩ := j2.unhold Fa1
            have hr4 := (hr.mono k1).mono j1
            obtain rfl := j3
          · obtain ⟨I5, F5, ho5⟩ := I4.unhold F
            refine wpAny_pure ⟨rfl, n, Nat.lt_succ_self n, i + 1, W3, st3, o', l1, hm, I5, (hWW.trans k1).trans j1, ho5, hP', F5, ⟨⟨vs, na, ha4, hr4⟩, Fa4.uncons.1, ha0⟩⟩
          · split at hm
            · cases hm
            · rename_i l2 st4 hi
              refine wpAny_bind (wpAny_mono (Ri _ _ _ _ _ _ _ hA I4 ⟨⟨vs, na, ha4, hr4⟩, Fa4, ha0⟩ _ _ hi) (fun _ s4 ⟨W4, m1, m2, m3⟩ => ?_) fun _ _ x => x)
              obtain ⟨I5, F5, ho5⟩ := m2.unhold F
              obtain ⟨m4, m5, m6⟩ := m3
              refine wpAny_pure ⟨rfl, n, Nat.lt_succ_self n, i + 1, W4, st4, o', l2, hm, I5, ((hWW.trans k1).trans j1).trans m1, ho5, hP', F5, ⟨m4, m5.uncons.1, m6⟩⟩

theorem cstart {elt : Expr} {gens : List Comprehension} {scope : Scope} {pos : Pos} {d : Nat} {g : Comprehension} (hg : gens[d]? = some g) (hga : (g.is_async != 0) = false) {it acc : Addr} {A : Around} {s : Shared} {R : Result → Shared → Prop}
    (hself : ∀ {Q : Value → Shared → Prop}, Q (.ref it) s → wpAny G.M A (pyIter (.ref it)) Q (fun _ _ => False) s) (h : codeAny G.M A (.compLoop (.ListComp elt gens scope pos) d (.ref it) (.ref acc) C.env) R s) :
    codeAny G.M A (.compStart (.ListComp elt gens scope pos) d (.ref it) (.ref acc) C.env) R s := by
  refine codeAny_of_tree ?_
  show wpAny _ A ((compStart (.ListComp elt gens scope pos) d (.ref it) (.ref acc) C.env).onRaise (fun x => do noteFrame x C.env; standAt theWindowsPlace)) _ _ s
  refine wpAny_notedAt (wpAny_mono (E := fun _ _ => False) ?_ (fun _ _ x => x) fun _ _ x => x.elim)
  unfold compStart
  have e : (clausesOf (.ListComp elt gens scope pos))[d]? = some g := hg
  rw [e]
  simp only [Option.elim_some, hga, Bool.false_eq_true, if_false]
  have fin : wpAny G.M A (again (.compLoop (.ListComp elt gens scope pos) d (.ref it) (.ref acc) C.env)) (fun fin s' => match fin with | .done f => R (.ok f) s' | .again c' => c'.quiet = true ∧ codeAny G.M A c' R s') (fun _ _ => False) s := wpAny_pure ⟨rfl, h⟩
  refine wpAny_bind (wpAny_askSetting ?_)
  split
  · first | exact fin | exact wpAny_bind (wpAny_pure fin) | exact wpAny_bind (wpAny_pure (wpAny_pure ⟨rfl, h⟩)) | exact wpAny_bind (wpAny_bind (wpAny_pure (wpAny_pure ⟨rfl, h⟩)))
  · refine wpAny_bind (wpAny_rule ?_)
    exact wpAny_bind (wpAny_standAt (wpAny_bind (hself fin)))

/-- a clause within -/
noncomputable def nestT (elt : Expr) (gens : List Comprehension) (scope : Scope) (pos : Pos) (d : Nat) (g : Comprehension) (acc : Value) (env : Env) : Sem Unit := eval g.iter env >>= fun x => standAt g.iter.pos >>= fun _ => foldedSetIterable g.iter env x >>= fun x =>
  holding [x] (pyIter x) >>= fun it => runOwn (.compStart (.ListComp elt gens scope pos) d it acc env) env >>= fun _ => pure ()
noncomputable def nestA (mi : AM (St → Option (List AV))) (ta : AV → AM Unit) (mt : AM Bool) (ma : List AV → AM (List AV)) (fuel : Nat) (l : List AV) : AM (List AV) := mi.bind fun src => ctA src ta mt ma fuel 0 l
theorem AOk.mark {hq : Bool} {A : Around} (h : AOk C hq A) : AOk C hq (A.mark none) := ⟨h.fr, h.dep, h.un, (fun e => by
  show (none : Option Value).or A.handled = none
  rw [h.hd e]; rfl), h.fo⟩
theorem AOk.comp {A : Around} (h : AOk C true A) {L' : Addr} {oL : Obj} {e : Env} {vs : List (Str × Option Addr)} : AOk ⟨L', e, C.envs, vs, C.dep, C.un, (C.L, oL) :: C.ups, C.gn⟩ true A := ⟨h.fr, h.dep, h.un, h.hd, fun h0 e he => by
  obtain ⟨h3, L, h1, h2⟩ := h.fo h0 e he
  refine ⟨h3, L, h1, .inr ?_⟩
  rcases h2 with rfl | ⟨p, hp, h2⟩
  · exact ⟨_, .head _, rfl⟩
  · exact ⟨p, .tail _ hp, h2⟩⟩
theorem Acc.stepIt {kp pn : List (Addr × Obj)} {W W' : WS} {s s' : Shared} {acc : Addr} {l : List AV} (h : Acc G C kp pn W s acc l) (hW : W.le W') (hk : ∀ b o, s.heap.get? b = some o → s'.heap.get? b = some o) (F : Fresh C kp pn W' acc) : Acc G C kp pn W' s' acc l := by
  obtain ⟨⟨vs, n, h1, h2⟩, _, h3⟩ := h
  exact ⟨⟨vs, n, hk _ _ h1, h2.mono hW⟩, F, h3⟩
theorem cstep_nest {elt : Expr} {gens : List Comprehension} {scope : Scope} {pos : Pos} {d : Nat} {g : Comprehension} {inner : Sem Unit} {acc : Addr} (hg : gens[d]? = some g) (hga : (g.is_async != 0) = false)
    (hturn : ∀ it, compTurn (.ListComp elt gens scope pos) d (.ref it) (.ref acc) C.env = turnT g inner (again (.compLoop (.ListComp elt gens scope pos) d (.ref it) (.ref acc) C.env)) (.ref it) C.env)
    {mi : AM (St → Option (List AV))} {ta : AV → AM Unit} {mt : AM Bool} {ma : List AV → AM (List AV)} (Ri : IterOk G C g.iter mi)
    (Rt : ∀ v av, Ref G C true (assign g.target C.env v) RU (ta av) [(v, av)]) (Rs : Ref G C true (testsT g.ifs C.env) RB mt) (Rin : CStep G C acc inner ma) (fuel : Nat) (hs : ∀ x, foldedSetIterable g.iter C.env x = pure x) :
    CStep G C acc (nestT elt gens scope pos d g (.ref acc) C.env) (nestA mi ta mt ma fuel) := by
  intro kp pn W s st A l hA I ⟨⟨vs, n, ha, hr⟩, F, h0⟩ l' st' hm
  obtain ⟨src, st1, e1, e2⟩ := bind_some hm
  have I1 := I.hold F ha
  unfold nestT
  refine wpAny_bind (wpAny_mono (Ri _ pn W s st A hA I1 src st1 e1 (fun v s' => ∃ it W' P o, v = .ref it ∧ W.le W' ∧ G.I C ((acc, listO vs n) :: kp) pn W' s' st1 ∧ (∀ C' : Act, Steps G C' pn W' it src P) ∧ G.h₀.objs.size ≤ it ∧ s'.heap.get? it = some o ∧ P o 0 ∧ Fresh C ((acc, listO vs n) :: kp) pn W' it)
    fun it s' W' P o h1 h2 h3 h4 h5 h6 h7 => ⟨it, W', P, o, rfl, h1, h2, h3, h4, h5, h6, h7⟩) (fun x s1 hx => wpAny_bind (wpAny_standAt (wpAny_bind (wpAny_of_eq (hs x) (wpAny_bind (wpAny_holding (wpAny_mono hx (fun v s2 h => ?_) fun _ _ x => x))))))) fun _ _ x => x)
  obtain ⟨it, W', P, o, rfl, h1, h2, h3, h4, h5, h6, h7⟩ := h
  obtain ⟨I2, F2, ha2⟩ := h2.unhold F
  obtain ⟨F3, hne⟩ := h7.uncons
  refine wpAny_bind (wpAny_runOwn (codeAny_mono (cstart hg hga (fun hQ => (h3 C).self h5 h6 hQ) (cloop (hturn it) Rt Rs Rin (h3 C) h4 hne.symm hA.mark e2 I2 (.refl _) h5 h6 F3 ⟨⟨vs, n, ha2, hr.mono h1⟩, F2, h0⟩)) fun r s' ⟨W'', e, k1, k2, k3⟩ => ?_))
  subst e
  exact wpAny_pure ⟨W'', h1.trans k1, k2, k3⟩

/-! the whole -/
noncomputable def maskLoc : List Bool → List (Option AV) → List (Option AV)
  | true :: vs, l :: ls => l :: maskLoc vs ls
  | false :: vs, _ :: ls => none :: maskLoc vs ls
  | _, _ => []
theorem maskLoc_get : ∀ {pat : List Bool} {loc : List (Option AV)} {i : Nat} {av : AV}, (maskLoc pat loc)[i]? = some (some av) → pat[i]? = some true ∧ loc[i]? = some (some av)
  | [], _, i, av, h => by simp [maskLoc] at h
  | true :: vs, [], i, av, h => by simp [maskLoc] at h
  | false :: vs, [], i, av, h => by simp [maskLoc] at h
  | true :: vs, l :: ls, i, av, h => by
    cases i with
    | zero => simpa [maskLoc] using h
    | succ i => simpa using maskLoc_get (pat := vs) (loc := ls) (i := i) (by simpa [maskLoc] using h)
  | false :: vs, l :: ls, i, av, h => by
    cases i with
    | zero => simp [maskLoc] at h
    | succ i => simpa using maskLoc_get (pat := vs) (loc := ls) (i := i) (by simpa [maskLoc] using h)
noncomputable def compAct (C : Act) (xs : List Str) (scope : Scope) (cl : List (Str × Addr)) (L' : Addr) (oL : Obj) : Act := ⟨L', compEnvC scope cl L' C.env, C.envs, xs.map (·, none) ++ C.vars, C.dep, C.un, (C.L, oL) :: C.ups, C.gn⟩
noncomputable def compA (n : Nat) (pat : List Bool) (mi : AM (St → Option (List AV))) (ta : AV → AM Unit) (mt : AM Bool) (ma : List AV → AM (List AV)) (fuel : Nat) : AM (List AV) := mi.bind fun src => fun st =>
  match ctA src ta mt ma fuel 0 [] ⟨List.replicate n none ++ maskLoc pat st.loc, st.heap⟩ with
  | some (l, st') => some (l, ⟨st.loc, st'.heap⟩)
  | none => none

theorem Inv.enterC {kp pn : List (Addr × Obj)} {W : WS} {s s₂ : Shared} {st : St} (I : G.I C kp pn W s st) {xs : List Str} {scope : Scope} {cl : List (Str × Addr)} {oL : Obj} (hoL : s.heap.get? C.L = some oL) {m' : Str → Option Value}
    (hn : s₂.heap.Ns s.heap.objs.size m') (hk : ∀ b o, s.heap.get? b = some o → s₂.heap.get? b = some o) (hg : s₂.gens = s.gens) (ho : (s₂.os, s₂.drawn) = (s.os, s.drawn)) :
    G.I (compAct C xs scope cl s.heap.objs.size oL) kp pn W s₂ ⟨List.replicate xs.length none ++ maskLoc (C.vars.map (·.2.isSome)) st.loc, st.heap⟩ := by
  obtain ⟨m, hm, hl⟩ := I.ns
  have hsl : ∀ a ∈ W.sig, a < s.heap.objs.size := fun a ha => I.own_lt a (List.mem_append_right _ ha)
  have hold : ∀ a ∈ (compAct C xs scope cl s.heap.objs.size oL).own ++ W.sig, a = s.heap.objs.size ∨ a ∈ W.sig := fun a ha => by
    rcases List.mem_append.mp ha with ha | ha
    · exact .inl (List.mem_singleton.mp ha)
    · exact .inr ha
  refine ⟨fun b o e => hk b o (I.base b o e), ⟨m', hn, ?_⟩, I.trk.mono fun a ao ⟨o, h, r⟩ => ⟨o, hk _ _ h, r⟩, fun p hp => hk _ _ (I.frz p hp), fun p hp => hk _ _ (I.kept p hp), ?_, ?_, fun a ha => ?_, fun a ha => ?_, I.fk, ?_, fun q hq => by
    rcases List.mem_cons.mp hq with rfl | hq
    · refine ⟨I.old _ (List.mem_append_left _ (.head _)), ?_, fun p hp => (I.sep C.L (List.mem_append_left _ (.head _))).2.1 p hp, fun p hp => (I.sepp p hp).1 _ (.head _)⟩
      obtain ⟨m, ⟨o, es, ep, h1, h2, _⟩, _⟩ := I.ns
      rw [hoL] at h1; cases h1
      exact ⟨es, ep, h2⟩
    · exact I.upp q hq,
    fun p hp => hk _ _ (I.pin p hp), fun p hp => ⟨fun a ha e => ?_, (I.sepp p hp).2⟩, gd hg I.gens, ho.trans I.os⟩
  · intro i y oc hv av hl'
    by_cases hi : i < xs.length
    · exfalso
      simp only at hl'
      rw [List.getElem?_append_left (by rw [List.length_replicate]; exact hi), List.getElem?_replicate] at hl'
      split at hl' <;> cases hl'
    · have hv : (xs.map (·, none) ++ C.vars)[i]? = some (y, oc) := hv
      rw [List.getElem?_append_right (by rw [List.length_map]; omega), List.length_map] at hv
      simp only at hl'
      rw [List.getElem?_append_right (by rw [List.length_replicate]; omega), List.length_replicate] at hl'
      obtain ⟨h1, h2⟩ := maskLoc_get hl'
      rw [List.getElem?_map, hv] at h1
      have z := hl _ _ _ hv _ h2
      cases oc with
      | none => simp at h1
      | some c => exact z
  · intro p hp
    rcases List.mem_cons.mp hp with rfl | hp
    · exact ⟨_, hk _ _ hoL⟩
    · obtain ⟨sl, h⟩ := I.ups p hp; exact ⟨sl, hk _ _ h⟩
  · refine List.nodup_append.mpr ⟨by simp [Act.own], (List.nodup_append.mp I.apart).2.1, fun a ha b hb e => ?_⟩
    rw [List.mem_singleton.mp ha] at e
    exact ne3 (hsl b hb) (Nat.le_refl _) e.symm
  · rcases hold a ha with h | h
    · rw [h]; exact I.base_lt
    · exact I.old a (List.mem_append_right _ h)
  · rcases hold a ha with h | h
    · subst h
      refine ⟨fun p hp e => ne3 (I.frz_lt p hp) (Nat.le_refl _) e, fun p hp e => ne3 (I.kept_lt p hp) (Nat.le_refl _) e, fun p hp e => ?_⟩
      rcases List.mem_cons.mp hp with rfl | hp
      · exact ne3 I.L_lt (Nat.le_refl _) e
      · exact ne3 (I.ups_lt p hp) (Nat.le_refl _) e
    · have z := I.sep a (List.mem_append_right _ h)
      refine ⟨z.1, z.2.1, fun p hp => ?_⟩
      rcases List.mem_cons.mp hp with rfl | hp
      · exact fun e => (List.nodup_append.mp I.apart).2.2 C.L (.head _) a h e
      · exact z.2.2 p hp
  · intro p hp q hq
    rcases List.mem_cons.mp hq with rfl | hq
    · exact (I.sep C.L (List.mem_append_left _ (.head _))).1 p hp
    · exact I.fu p hp q hq
  · rw [List.mem_singleton.mp ha] at e
    exact ne3 (Heap.lt_size (I.pin p hp)) (Nat.le_refl _) e

theorem comp_core {elt : Expr} {g : Comprehension} {gs : List Comprehension} {scope : Scope} {pos : Pos} {cl : List (Str × Addr)} {xs : List Str} {inner : Addr → Env → Sem Unit} {use : Option (Value → Sem Unit)}
    (hga : (g.is_async != 0) = false) 
    (hkind : scope.kind = .function) (hnames : ∀ x ∈ scope.names, x.2 = .local → scope.names.lookup x.1 = some .local) (hcell : ∀ y ∈ scope.names, y.2 ≠ .cell)
    (hturn : ∀ it acc env, compTurn (.ListComp elt (g :: gs) scope pos) 0 (.ref it) (.ref acc) env = turnT g (inner acc env) (again (.compLoop (.ListComp elt (g :: gs) scope pos) 0 (.ref it) (.ref acc) env)) (.ref it) env)
    {ta : AV → AM Unit} {mt : AM Bool} {ma : List AV → AM (List AV)} {fuel : Nat} (hC : C.Ok) (hnd : ((xs.map (·, (none : Option Addr)) ++ C.vars).map (·.1)).Nodup)
    {pat : List Bool} (hpat : C.vars.map (·.2.isSome) = pat)
    (Rin : ∀ L' oL, (compAct C xs scope cl L' oL).Ok → (∀ v av, Ref G (compAct C xs scope cl L' oL) true (assign g.target (compEnvC scope cl L' C.env) v) RU (ta av) [(v, av)]) ∧ Ref G (compAct C xs scope cl L' oL) true (testsT g.ifs (compEnvC scope cl L' C.env)) RB mt ∧
      ∀ acc, CStep G (compAct C xs scope cl L' oL) acc (inner acc (compEnvC scope cl L' C.env)) ma)
    {kp pn : List (Addr × Obj)} {W2 : WS} {s2 : Shared} {st1 st2 : St} {A : Around} {l : List AV} {src : St → Option (List AV)} {P : Obj → Nat → Prop} {it : Addr} {o : Obj} (hA : AOk C true A) (h2 : G.I C kp pn W2 s2 st1) (h3 : ∀ C' : Act, Steps G C' pn W2 it src P) (h4 : G.h₀.objs.size ≤ it)
    (h5 : s2.heap.get? it = some o) (h6 : P o 0) (h7 : Fresh C kp pn W2 it) (e3 : ctA src ta mt ma fuel 0 [] ⟨List.replicate xs.length none ++ maskLoc pat st1.loc, st1.heap⟩ = some (l, st2)) {Q : Value → Shared → Prop}
    (K : ∀ acc s' W' L', W2.le W' → G.I C kp pn W' s' ⟨st1.loc, st2.heap⟩ → Acc G C kp pn W' s' acc l → Fresh C kp pn W' L' → acc ≠ L' → G.h₀.objs.size ≤ L' → (∃ m, s'.heap.Ns L' m) → compPost G.M A (fun _ _ => False) use Q (.ref acc) L' (.ok .next) s') :
    wpAny G.M A (newList []) (fun acc s₃ => wpAny G.M A (newFunctionEnv scope C.env.globals cl [] C.env.qual none .none (some C.env)) (fun cenv s₄ =>
        codeAny G.M A (.compStart (.ListComp elt (g :: gs) scope pos) 0 (.ref it) acc { cenv with scope := relabel scope C.env }) (compPost G.M A (fun _ _ => False) use Q acc cenv.locals) s₄) (fun _ _ => False) s₃) (fun _ _ => False) s2 := by
  refine wpAny_newList ?_ (by rw [sizeLine_eq]; decide)
  have I3 : G.I C kp pn W2 { s2 with heap := s2.heap.push { cls := .type "list", data := .seq ([] : List Value).toArray } } st1 := Inv.keep h2 fun b o e => Heap.get?_push_of_some _ e
  refine wpAny_newFunctionEnv hcell (by intro y hy; simp at hy) (fun h' hns hsb => ?_) hkind
  dsimp only at hns hsb ⊢
  have hk : ∀ b o, (s2.heap.push { cls := .type "list", data := .seq ([] : List Value).toArray }).get? b = some o → h'.get? b = some o := fun b o e =>
    hsb.extBut b o (Nat.ne_of_lt (Heap.lt_size e)) (Heap.get?_push_of_some _ e)
  obtain ⟨m, ⟨oL, es, ep, q1, q2, q3, q4⟩, hl⟩ := I3.ns
  have J := Inv.enterC (xs := xs) (scope := scope) (cl := cl) (s₂ := { s2 with heap := h', toks := s2.toks + 0 }) I3 q1 hns hk rfl rfl
  have hCok : (compAct C xs scope cl (s2.heap.push { cls := .type "list", data := .seq ([] : List Value).toArray }).objs.size oL).Ok := ⟨rfl, hkind, hC.glo, hC.bui, hnd, hC.un, hC.dep⟩
  obtain ⟨Rt, Rs, Rc⟩ := Rin _ oL hCok
  have hA' : AOk (compAct C xs scope cl (s2.heap.push { cls := .type "list", data := .seq ([] : List Value).toArray }).objs.size oL) true A := hA.comp
  have hlt : it < s2.heap.objs.size := Heap.lt_size h5
  have hitL : it ≠ C.L := fun e => h7.own C.L (List.mem_append_left _ (.head _)) e
  have hsz : (s2.heap.push { cls := .type "list", data := .seq ([] : List Value).toArray }).objs.size = s2.heap.objs.size + 1 := Heap.size_push ..
  have mkF : ∀ {a : Addr}, Fresh C kp pn W2 a → a ≠ (s2.heap.push { cls := .type "list", data := .seq ([] : List Value).toArray }).objs.size → Fresh (compAct C xs scope cl (s2.heap.push { cls := .type "list", data := .seq ([] : List Value).toArray }).objs.size oL) kp pn W2 a := fun {a} F hne =>
    ⟨fun b hb => by
      rcases List.mem_append.mp hb with hb | hb
      · rw [List.mem_singleton.mp hb]; exact hne
      · exact F.own b (List.mem_append_right _ hb), F.frz, F.kp, fun p hp => by
      rcases List.mem_cons.mp hp with rfl | hp
      · exact fun e => F.own C.L (List.mem_append_left _ (.head _)) e.symm
      · exact F.ups p hp, F.pn⟩
  have Facc : Fresh C kp pn W2 s2.heap.objs.size := Fresh.new h2
  have hacc : h'.get? s2.heap.objs.size = some (listO #[] 0) := hk _ _ (Heap.get?_push_size _ rfl)
  have hit : h'.get? it = some o := hk _ _ (Heap.get?_push_of_some _ h5)
  subst hpat
  refine codeAny_mono (cstart (C := compAct C xs scope cl (s2.heap.push { cls := .type "list", data := .seq ([] : List Value).toArray }).objs.size oL) (d := 0) (g := g) rfl hga (fun hQ => (h3 C).self hit h6 hQ)
    (cloop (hturn it _ _) Rt Rs (Rc _) (h3 _) h4 (Nat.ne_of_lt hlt) hA' e3 J (.refl _) hit h6 (mkF h7 (by rw [hsz]; exact Nat.ne_of_lt (Nat.lt_succ_of_lt hlt))) ⟨⟨#[], 0, hacc, .nil⟩, mkF Facc (by rw [hsz]; exact Nat.ne_of_lt (Nat.lt_succ_self _)), Inv.base_lt h2⟩)) fun r s' ⟨W3, e, k1, k2, k3⟩ => ?_
  subst e
  have I4 := I3.leave (C' := compAct C xs scope cl (s2.heap.push { cls := .type "list", data := .seq ([] : List Value).toArray }).objs.size oL) q2 q3 q4 hl k1 rfl rfl k2
  obtain ⟨a1, F3, a3⟩ := k3
  refine K _ s' W3 _ k1 I4 ⟨a1, ?_, a3⟩ ?_ ?_ ?_ ?_
  · exact ⟨fun b hb => by
      rcases List.mem_append.mp hb with hb | hb
      · rw [List.mem_singleton.mp hb]; exact fun e => F3.ups (C.L, oL) (.head _) e.symm
      · exact F3.own b (List.mem_append_right _ hb), F3.frz, F3.kp, fun p hp => F3.ups p (.tail _ hp), F3.pn⟩
  · have z := k2.sep _ (List.mem_append_left _ (.head _))
    exact ⟨fun b hb => by
      rcases List.mem_append.mp hb with hb | hb
      · rw [List.mem_singleton.mp hb]; exact fun e => z.2.2 (C.L, oL) (.head _) e.symm
      · exact fun e => (List.nodup_append.mp k2.apart).2.2 _ (.head _) b hb e, z.1, z.2.1, fun p hp => z.2.2 p (.tail _ hp), fun p hp => (k2.sepp p hp).1 _ (.head _)⟩
  · exact F3.own _ (List.mem_append_left _ (.head _))
  · exact k2.old _ (List.mem_append_left _ (.head _))
  · obtain ⟨m', hn', _⟩ := k2.ns; exact ⟨m', hn'⟩

theorem comp_run {elt : Expr} {g : Comprehension} {gs : List Comprehension} {scope : Scope} {pos cpos : Pos} {cl : List (Str × Addr)} {xs : List Str} {inner : Addr → Env → Sem Unit} {use : Option (Value → Sem Unit)}
    (hga : (g.is_async != 0) = false) (hs : ∀ x, foldedSetIterable g.iter C.env x = pure x) (hclos : closureFor scope C.env = pure cl)
    (hkind : scope.kind = .function) (hnames : ∀ x ∈ scope.names, x.2 = .local → scope.names.lookup x.1 = some .local) (hcell : ∀ y ∈ scope.names, y.2 ≠ .cell)
    (hturn : ∀ it acc env, compTurn (.ListComp elt (g :: gs) scope pos) 0 (.ref it) (.ref acc) env = turnT g (inner acc env) (again (.compLoop (.ListComp elt (g :: gs) scope pos) 0 (.ref it) (.ref acc) env)) (.ref it) env)
    {mi : AM (St → Option (List AV))} {ta : AV → AM Unit} {mt : AM Bool} {ma : List AV → AM (List AV)} {fuel : Nat} (Ri : IterOk G C g.iter mi) (hC : C.Ok) (hnd : ((xs.map (·, (none : Option Addr)) ++ C.vars).map (·.1)).Nodup)
    {pat : List Bool} (hpat : C.vars.map (·.2.isSome) = pat)
    (Rin : ∀ L' oL, (compAct C xs scope cl L' oL).Ok → (∀ v av, Ref G (compAct C xs scope cl L' oL) true (assign g.target (compEnvC scope cl L' C.env) v) RU (ta av) [(v, av)]) ∧ Ref G (compAct C xs scope cl L' oL) true (testsT g.ifs (compEnvC scope cl L' C.env)) RB mt ∧
      ∀ acc, CStep G (compAct C xs scope cl L' oL) acc (inner acc (compEnvC scope cl L' C.env)) ma)
    {kp pn : List (Addr × Obj)} {W : WS} {s : Shared} {st st' : St} {A : Around} {l : List AV} (hA : AOk C true A) (I : G.I C kp pn W s st) (hm : compA xs.length pat mi ta mt ma fuel st = some (l, st')) {Q : Value → Shared → Prop}
    (K : ∀ acc s' W' L', W.le W' → G.I C kp pn W' s' st' → Acc G C kp pn W' s' acc l → Fresh C kp pn W' L' → acc ≠ L' → G.h₀.objs.size ≤ L' → (∃ m, s'.heap.Ns L' m) → compPost G.M A (fun _ _ => False) use Q (.ref acc) L' (.ok .next) s') :
    wpAny G.M A (comprehension (.ListComp elt (g :: gs) scope pos) scope C.env cpos (newList []) false (eval g.iter C.env) use) Q (fun _ _ => False) s := by
  obtain ⟨src, st1, e1, e2⟩ := bind_some hm
  split at e2
  · rename_i l1 st2 e3
    cases e2
    refine wpAny_comprehension_free (cl := cl) rfl hs hclos hkind hnames (Ri kp pn W s st A hA I src st1 e1 _ fun it s2 W2 P o h1 h2 h3 h4 h5 h6 h7 => ?_)
    exact comp_core hga hkind hnames hcell hturn hC hnd hpat Rin hA h2 h3 h4 h5 h6 h7 e3 fun acc s' W' L' k1 k2 k3 k4 k5 k6 k7 => K acc s' W' L' (h1.trans k1) k2 k3 k4 k5 k6 k7
  · cases e2

/-- the list made is data, or it is tracked -/
noncomputable def finD (l : List AV) : AM AV := fun st => match datsA l with
  | some ds => some (.dat (.list ds), st)
  | none => none
noncomputable def finT (l : List AV) : AM AV := fun st => some (.ref st.heap.length, ⟨st.loc, st.heap ++ [.list l]⟩)
noncomputable def FinOk (G : Gl) (C : Act) (fin : List AV → AM AV) : Prop := ∀ {kp pn : List (Addr × Obj)} {W : WS} {s : Shared} {st st' : St} {acc L' : Addr} {l : List AV} {b : AV}, G.I C kp pn W s st → Acc G C kp pn W s acc l → Fresh C kp pn W L' → acc ≠ L' →
  fin l st = some (b, st') → ∃ W', W.le W' ∧ G.I C kp pn W' s st' ∧ RV W' (.ref acc) b ∧ Fresh C kp pn W' L'
theorem finD_ok : FinOk G C finD := by
  intro kp pn W s st st' acc L' l b I ⟨⟨vs, n, ha, hr⟩, F, h0⟩ FL hne hm
  unfold finD at hm
  split at hm
  · rename_i ds hd
    cases hm
    obtain ⟨I', le⟩ := Inv.freeze I ha (fun b hb => F.own b hb) (fun q hq e => F.kp q hq e.symm) (fun q hq e => F.ups q hq e.symm)
    refine ⟨_, le, I', .list (.head _) (RDs.mono le.frz (dats_of hr hd)), ⟨FL.own, fun p hp => ?_, FL.kp, FL.ups, FL.pn⟩⟩
    rcases List.mem_cons.mp hp with rfl | hp
    · exact hne
    · exact FL.frz p hp
  · cases hm
theorem finT_ok : FinOk G C finT := by
  intro kp pn W s st st' acc L' l b I ⟨⟨vs, n, ha, hr⟩, F, h0⟩ FL hne hm
  cases hm
  obtain ⟨I', le⟩ := Inv.track (ao := .list l) I ha (fun b hb => F.own b hb) h0 F.frz F.kp F.ups F.pn fun le => ⟨vs, n, rfl, hr.mono le⟩
  refine ⟨_, le, I', ⟨acc, ?_, rfl⟩, ⟨fun a ha => ?_, FL.frz, FL.kp, FL.ups, FL.pn⟩⟩
  · show (W.sig ++ [acc])[st.heap.length]? = _
    rw [← I.trk.length]; simp
  · rw [← List.append_assoc] at ha
    rcases List.mem_append.mp ha with ha | ha
    · exact FL.own a ha
    · rw [List.mem_singleton.mp ha]; exact hne.symm

theorem ref_ListComp {elt : Expr} {g : Comprehension} {gs : List Comprehension} {scope : Scope} {pos : Pos} {cl : List (Str × Addr)} {xs : List Str} {inner : Addr → Env → Sem Unit}
    (hga : (g.is_async != 0) = false) (hs : ∀ x, foldedSetIterable g.iter C.env x = pure x) (hclos : closureFor scope C.env = pure cl)
    (hkind : scope.kind = .function) (hnames : ∀ x ∈ scope.names, x.2 = .local → scope.names.lookup x.1 = some .local) (hcell : ∀ y ∈ scope.names, y.2 ≠ .cell)
    (hturn : ∀ it acc env, compTurn (.ListComp elt (g :: gs) scope pos) 0 (.ref it) (.ref acc) env = turnT g (inner acc env) (again (.compLoop (.ListComp elt (g :: gs) scope pos) 0 (.ref it) (.ref acc) env)) (.ref it) env)
    (heval : eval (.ListComp elt (g :: gs) scope pos) C.env = comprehension (.ListComp elt (g :: gs) scope pos) scope C.env (firstIterPos (g :: gs) pos) (newList []) false (eval g.iter C.env) none)
    {mi : AM (St → Option (List AV))} {ta : AV → AM Unit} {mt : AM Bool} {ma : List AV → AM (List AV)} (fuel : Nat) {fin : List AV → AM AV} (hfin : FinOk G C fin) (Ri : IterOk G C g.iter mi) (hC : C.Ok) (hnd : ((xs.map (·, (none : Option Addr)) ++ C.vars).map (·.1)).Nodup)
    {pat : List Bool} (hpat : C.vars.map (·.2.isSome) = pat)
    (Rin : ∀ L' oL, (compAct C xs scope cl L' oL).Ok → (∀ v av, Ref G (compAct C xs scope cl L' oL) true (assign g.target (compEnvC scope cl L' C.env) v) RU (ta av) [(v, av)]) ∧ Ref G (compAct C xs scope cl L' oL) true (testsT g.ifs (compEnvC scope cl L' C.env)) RB mt ∧
      ∀ acc, CStep G (compAct C xs scope cl L' oL) acc (inner acc (compEnvC scope cl L' C.env)) ma) :
    Ref G C true (eval (.ListComp elt (g :: gs) scope pos) C.env) RV ((compA xs.length pat mi ta mt ma fuel).bind fin) := by
  intro kp pn W s st A hA I _ b st' hm
  obtain ⟨l, st1, e1, e2⟩ := bind_some hm
  rw [heval]
  refine comp_run hga hs hclos hkind hnames hcell hturn Ri hC hnd hpat Rin hA I e1 fun acc s' W' L' h1 h2 h3 h4 h5 h6 ⟨m, hm'⟩ => ?_
  obtain ⟨W2, k1, k2, k3, k4⟩ := hfin h2 h3 h4 h5 e2
  refine ⟨m, hm', fun h' hs' => ⟨W2, h1.trans k1, Inv.stepIt (s' := { s' with heap := h' }) k2 k4 hs'.extBut h6, k3⟩⟩

theorem ref_AssignComp {x : Str} {p : Pos} {apos : Pos} {elt : Expr} {g : Comprehension} {gs : List Comprehension} {scope : Scope} {pos : Pos} {cl : List (Str × Addr)} {xs : List Str} {inner : Addr → Env → Sem Unit}
    (hsw : swapsWith (.ListComp elt (g :: gs) scope pos) (some (.Name x p)) apos.line C.env = pure true)
    (huse : ∀ u, evalThenUse (.ListComp elt (g :: gs) scope pos) C.env u = (do let _ ← comprehension (.ListComp elt (g :: gs) scope pos) scope C.env (firstIterPos (g :: gs) pos) (newList []) false (eval g.iter C.env) (some u)))
    (hga : (g.is_async != 0) = false) (hs : ∀ x, foldedSetIterable g.iter C.env x = pure x) (hclos : closureFor scope C.env = pure cl)
    (hkind : scope.kind = .function) (hnames : ∀ x ∈ scope.names, x.2 = .local → scope.names.lookup x.1 = some .local) (hcell : ∀ y ∈ scope.names, y.2 ≠ .cell)
    (hturn : ∀ it acc env, compTurn (.ListComp elt (g :: gs) scope pos) 0 (.ref it) (.ref acc) env = turnT g (inner acc env) (again (.compLoop (.ListComp elt (g :: gs) scope pos) 0 (.ref it) (.ref acc) env)) (.ref it) env)
    {mi : AM (St → Option (List AV))} {ta : AV → AM Unit} {mt : AM Bool} {ma : List AV → AM (List AV)} (fuel : Nat) {fin : List AV → AM AV} (hfin : FinOk G C fin) (Ri : IterOk G C g.iter mi) (hC : C.Ok) (hnd : ((xs.map (·, (none : Option Addr)) ++ C.vars).map (·.1)).Nodup)
    {pat : List Bool} (hpat : C.vars.map (·.2.isSome) = pat)
    (Rin : ∀ L' oL, (compAct C xs scope cl L' oL).Ok → (∀ v av, Ref G (compAct C xs scope cl L' oL) true (assign g.target (compEnvC scope cl L' C.env) v) RU (ta av) [(v, av)]) ∧ Ref G (compAct C xs scope cl L' oL) true (testsT g.ifs (compEnvC scope cl L' C.env)) RB mt ∧
      ∀ acc, CStep G (compAct C xs scope cl L' oL) acc (inner acc (compEnvC scope cl L' C.env)) ma)
    {ms : AV → AM Unit} (Rst : ∀ v av, Ref G C true (storeName C.env x v) RU (ms av) [(v, av)]) :
    Ref G C true (exec (.Assign [.Name x p] (.ListComp elt (g :: gs) scope pos) apos) C.env) RF ((compA xs.length pat mi ta mt ma fuel).bind fun l => (fin l).bind fun av => (ms av).bind fun _ => AM.pure .next) := by
  intro kp pn W s st A hA I _ b st' hm
  obtain ⟨l, st1, e1, e2⟩ := bind_some hm
  obtain ⟨av, st2, e3, e4⟩ := bind_some e2
  obtain ⟨_, st3, e5, e6⟩ := bind_some e4
  obtain ⟨rfl, rfl⟩ := pure_some e6
  rw [exec_Assign_Name_used _ _ _ _ hsw, huse]
  refine wpAny_bind (wpAny_standAt (wpAny_bind (wpAny_bind ?_)))
  refine comp_run hga hs hclos hkind hnames hcell hturn Ri hC hnd hpat Rin hA I e1 fun acc s' W' L' h1 h2 h3 h4 h5 h6 ⟨m, hm'⟩ => ?_
  obtain ⟨W2, k1, k2, k3, k4⟩ := hfin h2 h3 h4 h5 e3
  obtain ⟨oL, es, ep, q1, q2, q3, q4⟩ := id hm'
  have k5 := k2.hold k4 q1
  refine wpAny_assign_Name ((Rst (.ref acc) av).use hA k5 (fun p hp => by rw [List.mem_singleton.mp hp]; exact k3) e5 fun _ s'' W3 j1 j2 _ => ?_)
  obtain ⟨j3, j4, j5⟩ := j2.unhold k4
  refine ⟨m, ⟨oL, es, ep, j5, q2, q3, q4⟩, fun h' hs' => wpAny_pure (wpAny_pure ⟨W3, (h1.trans k1).trans j1, Inv.stepIt (s' := { s'' with heap := h' }) j3 j4 hs'.extBut h6, trivial⟩)⟩
end
end Mine

open PySem PySem.W PyProof.Rows PySem.Calls PySem.Spec
set_option Elab.async false
namespace Mine
section
variable {G : Gl} {C : Act} {hq : Bool}

theorem one_of {W : WS} {vs : List Value} {a : AV} (hl : vs.length = [a].length) (h : ∀ p ∈ vs.zip [a], RV W p.1 p.2) : ∃ v, vs = [v] ∧ RV W v a := by
  match vs, hl with
  | [v], _ => exact ⟨v, rfl, h (v, a) (.head _)⟩
theorem two_of {W : WS} {vs : List Value} {a b : AV} (hl : vs.length = [a, b].length) (h : ∀ p ∈ vs.zip [a, b], RV W p.1 p.2) : ∃ v u, vs = [v, u] ∧ RV W v a ∧ RV W u b := by
  match vs, hl with
  | [v, u], _ => exact ⟨v, u, rfl, h (v, a) (.head _), h (u, b) (.tail _ (.head _))⟩

noncomputable def lenA : List AV → AM AV
  | [.dat (.list ds)] => fun st => if ds.length < 1000 then some (.dat (.int ds.length), st) else none
  | [.dat (.tuple ds)] => fun st => if ds.length < 1000 then some (.dat (.int ds.length), st) else none
  | [.dat (.str x)] => fun st => if x.length < 1000 then some (.dat (.int x.length), st) else none
  | [.ref r] => fun st => match st.heap[r]? with
    | some (.list l) => if l.length < 1000 then some (.dat (.int l.length), st) else none
    | _ => none
  | _ => AM.fail
theorem ref_len (vs : List Value) (avs : List AV) (hl : vs.length = avs.length) : Ref G C hq (call (.builtin "len") vs) RV (lenA avs) (vs.zip avs) := by
  intro kp pn W s st A hA I hΓ b st' hm
  unfold lenA at hm
  split at hm
  · split at hm
    · cases hm
      obtain ⟨v, rfl, r1⟩ := one_of hl hΓ
      obtain ⟨a, vs, n, rfl, h1, h2⟩ := rv_list r1
      have hlen := h2.length
      rw [Array.length_toList] at hlen
      refine call_len_list ⟨_, I.frz _ h1, rfl, n, rfl⟩ (by omega) ⟨W, .refl _, Inv.toks I, ?_⟩
      rw [hlen]; exact .int _ _
    · cases hm
  · split at hm
    · cases hm
      obtain ⟨v, rfl, r1⟩ := one_of hl hΓ
      obtain ⟨a, vs, n, rfl, h1, h2⟩ := rv_tuple r1
      have hlen := h2.length
      rw [Array.length_toList] at hlen
      refine PyProof.Rows.len_tuple ⟨_, I.frz _ h1, rfl, n, rfl⟩ (by omega) ⟨W, .refl _, Inv.toks I, ?_⟩
      rw [hlen]; exact .int _ _
    · cases hm
  · split at hm
    · cases hm
      obtain ⟨v, rfl, r1⟩ := one_of hl hΓ
      obtain ⟨u, rfl⟩ := rv_str r1
      exact PyProof.Rows.len_str (by omega) ⟨W, .refl _, Inv.toks I, .int _ _⟩
    · cases hm
  · split at hm
    · rename_i l hl'
      split at hm
      · cases hm
        obtain ⟨v, rfl, a, ha, rfl⟩ := one_of hl hΓ
        obtain ⟨a', ha', o, ho, vs, n, rfl, hd⟩ := I.trk.get hl'
        rw [ha] at ha'; cases ha'
        have hlen := hd.length
        rw [Array.length_toList] at hlen
        refine call_len_list ⟨_, ho, rfl, n, rfl⟩ (by omega) ⟨W, .refl _, Inv.toks I, ?_⟩
        rw [hlen]; exact .int _ _
      · cases hm
    · cases hm
  · exact (fail_some hm).elim

noncomputable def rangeA : List AV → AM AV
  | [.dat (.int n)] => AM.pure (.rng n)
  | _ => AM.fail
theorem ref_range (vs : List Value) (avs : List AV) (hl : vs.length = avs.length) : Ref G C hq (call (.type "range") vs) RV (rangeA avs) (vs.zip avs) := by
  intro kp pn W s st A hA I hΓ b st' hm
  unfold rangeA at hm
  split at hm
  · rename_i n
    obtain ⟨rfl, rfl⟩ := pure_some hm
    obtain ⟨v, rfl, r1⟩ := one_of hl hΓ
    obtain ⟨t, rfl⟩ := rv_int r1
    refine call_range_1 ?_
    obtain ⟨I', le⟩ := Inv.push (s' := { s with heap := s.heap.push { cls := .type "range", data := .fields #[.int 0 s.toks, .int n t, .int 1 (s.toks + 1)] }, toks := s.toks + 1 + 1 }) I { cls := .type "range", data := .fields #[.int 0 s.toks, .int n t, .int 1 (s.toks + 1)] } rfl
    exact ⟨_, le, I', _, _, rfl, .head _, _, _, _, rfl⟩
  · exact (fail_some hm).elim

noncomputable def tupleA : List AV → AM AV
  | [.ref r] => fun st => match st.heap[r]? with
    | some (.list l) => match datsA l with
      | some ds => if ds.length < 1000 then some (.dat (.tuple ds), st) else none
      | none => none
    | _ => none
  | _ => AM.fail
theorem ref_tuple (vs : List Value) (avs : List AV) (hl : vs.length = avs.length) : Ref G C hq (call (.type "tuple") vs) RV (tupleA avs) (vs.zip avs) := by
  intro kp pn W s st A hA I hΓ b st' hm
  unfold tupleA at hm
  split at hm
  · split at hm
    · rename_i l hl'
      split at hm
      · rename_i ds hds
        split at hm
        · rename_i hlt
          cases hm
          obtain ⟨v, rfl, a, ha, rfl⟩ := one_of hl hΓ
          obtain ⟨a', ha', o, ho, vs, n, rfl, hd⟩ := I.trk.get hl'
          rw [ha] at ha'; cases ha'
          have h2 := dats_of hd hds
          have hlen := h2.length
          rw [Array.length_toList] at hlen
          refine call_tuple_list ⟨_, ho, rfl, n, rfl⟩ (fun h' hk => ?_) (sz1000 (by omega))
          have I1 : G.I C kp pn W { s with heap := h' } st := Inv.keep I hk
          obtain ⟨I', le⟩ := Inv.push (s' := { s with heap := h'.push { cls := .type "tuple", data := .seq vs } }) I1 { cls := .type "tuple", data := .seq vs } rfl
          exact ⟨_, le, I', .tuple (.head _) (RDs.mono le.frz h2)⟩
        · cases hm
      · cases hm
    · cases hm
  · exact (fail_some hm).elim

noncomputable def newSetA : AM AV := fun st => some (.ref st.heap.length, ⟨st.loc, st.heap ++ [.set []]⟩)
theorem ref_newSet : Ref G C hq (call (.type "set") []) RV newSetA := by
  intro kp pn W s st A hA I _ b st' hm
  cases hm
  refine call_set_0 fun led => ?_
  obtain ⟨I', le⟩ := Inv.pushT (s' := { s with heap := s.heap.push { cls := .type "set", dict := none, data := .set #[] 0 (.fresh 0 0 led) } }) I { cls := .type "set", dict := none, data := .set #[] 0 (.fresh 0 0 led) } (.set []) rfl fun _ => by
    refine ⟨⟨rfl, rfl, rfl⟩, #[], 0, _, rfl, (fun e he => nomatch he), (fun k => ⟨fun h => by simp at h, fun ⟨e, he, _⟩ => nomatch he⟩), rfl, ?_⟩
    cases led <;> rfl
  exact ⟨_, le, I', _, by rw [I.trk.len']; simp, rfl⟩

noncomputable def typeA : List AV → AM AV
  | [.dat (.str _)] => AM.pure (.typ "str")
  | _ => AM.fail
theorem ref_type (vs : List Value) (avs : List AV) (hl : vs.length = avs.length) : Ref G C hq (call (.type "type") vs) RV (typeA avs) (vs.zip avs) := by
  intro kp pn W s st A hA I hΓ b st' hm
  unfold typeA at hm
  split at hm
  · obtain ⟨rfl, rfl⟩ := pure_some hm
    obtain ⟨v, rfl, r1⟩ := one_of hl hΓ
    obtain ⟨u, rfl⟩ := rv_str r1
    exact call_type_of (Tx := "str") rfl (by decide +kernel) ⟨W, .refl _, I, rfl⟩
  · exact (fail_some hm).elim

/-! the methods of lists -/
noncomputable def isListA (av : AV) (st : St) : Bool := match av with
  | .ref r => match st.heap[r]? with
    | some (.list _) => true
    | _ => false
  | _ => false
theorem isListA_some {av : AV} {st : St} (h : isListA av st = true) : ∃ r l, av = .ref r ∧ st.heap[r]? = some (.list l) := by
  unfold isListA at h
  split at h
  · rename_i r
    split at h
    · rename_i l e; exact ⟨r, l, rfl, e⟩
    · cases h
  · cases h
theorem mth_list {name : Str} {id : String} (slot : Slot "list" name id) (ty : typeOf (.builtin id) = pure (.type "method_descriptor")) : MthOk G C name (.builtin id) isListA := by
  intro kp pn W s st A v av pl Q E I hr hok hQ
  obtain ⟨r, l, rfl, hl⟩ := isListA_some hok
  obtain ⟨a, ha, rfl⟩ := hr
  obtain ⟨a', ha', o, ho, vs, n, rfl, hd⟩ := I.trk.get hl
  rw [ha] at ha'; cases ha'
  exact getMethod_builtin (T := "list") ⟨_, ho, rfl⟩ F.plainAttrs_list slot ty (fun b e => by cases e; exact ⟨_, ho, rfl⟩) (hQ s.toks)
noncomputable def appendA : List AV → AM AV
  | [.ref r, a] => fun st => match st.heap[r]? with
    | some (.list l) => if l.length < 900 then some (.dat .none, ⟨st.loc, st.heap.set r (.list (l ++ [a]))⟩) else none
    | _ => none
  | _ => AM.fail
theorem ref_append (vs : List Value) (avs : List AV) (hl : vs.length = avs.length) : Ref G C hq (call (.builtin "list.append") vs) RV (appendA avs) (vs.zip avs) := by
  intro kp pn W s st A hA I hΓ b st' hm
  unfold appendA at hm
  split at hm
  · split at hm
    · rename_i l hl'
      split at hm
      · cases hm
        obtain ⟨v, u, rfl, ⟨a, ha, rfl⟩, r2⟩ := two_of hl hΓ
        obtain ⟨a', ha', o, ho, vs, n, rfl, hd⟩ := I.trk.get hl'
        rw [ha] at ha'; cases ha'
        have hlen := hd.length
        rw [Array.length_toList] at hlen
        refine call_append ho (sz1000 (by omega)) ⟨W, .refl _, Inv.turn (s' := { s with heap := s.heap.update a (Obj.mapSeq fun xs => xs.push u) }) I ha hl' rfl (fun b o' hb e => (Heap.get?_update_other s.heap _ (Ne.symm hb)).trans e) (Heap.get?_update_self _ ho rfl) ?_, .none⟩
        refine ⟨_, _, rfl, ?_⟩
        rw [Array.toList_push]
        exact hd.append (.cons r2 .nil)
      · cases hm
    · cases hm
  · exact (fail_some hm).elim
noncomputable def popA : List AV → AM AV
  | [.ref r] => fun st => match st.heap[r]? with
    | some (.list l) => match l.getLast? with
      | some a => if l.length < 900 then some (a, ⟨st.loc, st.heap.set r (.list l.dropLast)⟩) else none
      | none => none
    | _ => none
  | _ => AM.fail
theorem A2.dropLast {α β : Type} {R : α → β → Prop} {l : List α} {l' : List β} (x : A2 R l l') : A2 R l.dropLast l'.dropLast := by
  rw [List.dropLast_eq_take, List.dropLast_eq_take, x.length]
  exact x.take _
theorem ref_pop (vs : List Value) (avs : List AV) (hl : vs.length = avs.length) : Ref G C hq (call (.builtin "list.pop") vs) RV (popA avs) (vs.zip avs) := by
  intro kp pn W s st A hA I hΓ b st' hm
  unfold popA at hm
  split at hm
  · split at hm
    · rename_i l hl'
      split at hm
      · rename_i av hav
        split at hm
        · cases hm
          obtain ⟨v, rfl, a, ha, rfl⟩ := one_of hl hΓ
          obtain ⟨a', ha', o, ho, vs, n, rfl, hd⟩ := I.trk.get hl'
          rw [ha] at ha'; cases ha'
          have hlen := hd.length
          rw [Array.length_toList] at hlen
          rw [List.getLast?_eq_getElem?] at hav
          obtain ⟨y, hy, hry⟩ := hd.get hav
          refine call_meets F.slot_list_pop ⟨_, ho, rfl⟩ F.entry_list_pop (F.args_list_pop_1 _) (MeetsSeq.list_pop_last a vs n y (by rw [← Array.getElem?_toList, hlen]; exact hy) (sz1000 (by omega))) ⟨ho, ?_⟩
          refine ⟨W, .refl _, Inv.turn (s' := { s with heap := s.heap.update a (Obj.mapSeq fun xs => xs.eraseIdxIfInBounds (vs.size - 1)) }) I ha hl' rfl (fun b o' hb e => (Heap.get?_update_other s.heap _ (Ne.symm hb)).trans e) (Heap.get?_update_self _ ho rfl) ?_, hry⟩
          refine ⟨_, _, rfl, ?_⟩
          have e : (vs.eraseIdxIfInBounds (vs.size - 1)).toList = vs.toList.dropLast := by
            have hne : vs.size - 1 < vs.size := by
              have := (List.getElem?_eq_some_iff.mp hav).1
              omega
            rw [Array.eraseIdxIfInBounds, dif_pos hne, Array.toList_eraseIdx, List.eraseIdx_eq_take_drop_succ, List.dropLast_eq_take, Array.length_toList, List.drop_eq_nil_of_le (by rw [Array.length_toList]; omega), List.append_nil]
          rw [e]
          exact hd.dropLast
        · cases hm
      · cases hm
    · cases hm
  · exact (fail_some hm).elim
noncomputable def clearA : List AV → AM AV
  | [.ref r] => fun st => match st.heap[r]? with
    | some (.list l) => if l.length < 900 then some (.dat .none, ⟨st.loc, st.heap.set r (.list [])⟩) else none
    | _ => none
  | _ => AM.fail
theorem ref_clear (vs : List Value) (avs : List AV) (hl : vs.length = avs.length) : Ref G C hq (call (.builtin "list.clear") vs) RV (clearA avs) (vs.zip avs) := by
  intro kp pn W s st A hA I hΓ b st' hm
  unfold clearA at hm
  split at hm
  · split at hm
    · rename_i l hl'
      split at hm
      · cases hm
        obtain ⟨v, rfl, a, ha, rfl⟩ := one_of hl hΓ
        obtain ⟨a', ha', o, ho, vs, n, rfl, hd⟩ := I.trk.get hl'
        rw [ha] at ha'; cases ha'
        have hlen := hd.length
        rw [Array.length_toList] at hlen
        refine call_meets F.slot_list_clear ⟨_, ho, rfl⟩ F.entry_list_clear (F.args_list_clear_1 _) (AutoSeq1.list_clear_list_0 a vs n (sz1000 (by omega))) ⟨ho, ?_⟩
        exact ⟨W, .refl _, Inv.turn (s' := { s with heap := s.heap.update a (Obj.mapSeq fun _ => #[]) }) I ha hl' rfl (fun b o' hb e => (Heap.get?_update_other s.heap _ (Ne.symm hb)).trans e) (Heap.get?_update_self _ ho rfl) ⟨_, _, rfl, .nil⟩, .none⟩
      · cases hm
    · cases hm
  · exact (fail_some hm).elim

/-! sets -/
noncomputable def isSetA (av : AV) (st : St) : Bool := match av with
  | .ref r => match st.heap[r]? with
    | some (.set l) => decide (l.length < 100)
    | _ => false
  | _ => false
theorem isSetA_some {av : AV} {st : St} (h : isSetA av st = true) : ∃ r l, av = .ref r ∧ st.heap[r]? = some (.set l) ∧ l.length < 100 := by
  unfold isSetA at h
  split at h
  · rename_i r
    split at h
    · rename_i l e; exact ⟨r, l, rfl, e, by simpa using h⟩
    · cases h
  · cases h
theorem mth_set_add : MthOk G C "add" (.builtin "set.add") isSetA := by
  intro kp pn W s st A v av pl Q E I hr hok hQ
  obtain ⟨r, l, rfl, hl, hlt⟩ := isSetA_some hok
  obtain ⟨a, ha, rfl⟩ := hr
  obtain ⟨a', ha', o, ho, hs⟩ := I.trk.get hl
  rw [ha] at ha'; cases ha'
  exact getMethod_set_add (hs.setOf ho (Nat.lt_trans hlt (by decide))) (hQ s.toks)
noncomputable def setAddA : List AV → AM AV
  | [.ref r, .dat (.int k)] => fun st => match st.heap[r]? with
    | some (.set l) => if l.length < 100 then some (.dat .none, ⟨st.loc, st.heap.set r (.set (if l.contains k then l else l ++ [k]))⟩) else none
    | _ => none
  | _ => AM.fail
theorem ref_set_add (vs : List Value) (avs : List AV) (hl : vs.length = avs.length) : Ref G C hq (call (.builtin "set.add") vs) RV (setAddA avs) (vs.zip avs) := by
  intro kp pn W s st A hA I hΓ b st' hm
  unfold setAddA at hm
  split at hm
  · rename_i r k
    split at hm
    · rename_i l hl'
      split at hm
      · rename_i hlt
        cases hm
        obtain ⟨v, u, rfl, ⟨a, ha, rfl⟩, r2⟩ := two_of hl hΓ
        obtain ⟨t, rfl⟩ := rv_int r2
        obtain ⟨a', ha', o, ho, hs⟩ := I.trk.get hl'
        rw [ha] at ha'; cases ha'
        refine call_set_add (knd := intKind G.prog G.w) (k := k) (intKind_is _ _ _ _) rfl (hs.setOf ho (Nat.lt_trans hlt (by decide))) (Nat.lt_trans (Nat.succ_lt_succ hlt) (by decide)) fun h' hs' hS => ?_
        obtain ⟨o', ho', hS'⟩ := hS.objOf
        refine ⟨W, .refl _, Inv.turn (s' := { s with heap := h', toks := s.toks + 1 }) I ha hl' rfl (fun b o' hb e => (hs'.2 b hb).trans e) ho' ?_, .none⟩
        show o'.SetObjOf _ _ _
        have e1 : (fun k' => l.contains k' || decide (k' = k)) = fun k' => (if l.contains k then l else l ++ [k]).contains k' := by
          funext k'
          by_cases hc : l.contains k = true
          · rw [if_pos hc]
            by_cases hk : k' = k
            · subst hk; rw [hc]; rfl
            · simp [hk]
          · rw [if_neg hc]
            by_cases hk : k' = k
            · subst hk; simp
            · simp [hk]
        have e2 : (if l.contains k = true then l.length else l.length + 1) = (if l.contains k then l else l ++ [k]).length := by split <;> simp
        rw [e1, e2] at hS'
        exact hS'
      · cases hm
    · cases hm
  · exact (fail_some hm).elim

/-! dicts -/
theorem ref_newDict {pos : Pos} : Ref G C hq (eval (.Dict [] [] pos) C.env) RV (fun st => some (.ref st.heap.length, ⟨st.loc, st.heap ++ [.dict []]⟩)) := by
  intro kp pn W s st A hA I _ b st' hm
  cases hm
  refine wpAny_Dict_empty ?_
  obtain ⟨I', le⟩ := Inv.pushT (s' := { s with heap := s.heap.push { cls := .type "dict", data := .dict #[] } }) I { cls := .type "dict", data := .dict #[] } (.dict []) rfl fun _ =>
    ⟨[], ⟨#[], _, ⟨rfl, rfl, rfl⟩, rfl, (fun e he => nomatch he), .nil, List.nodup_nil⟩, .nil⟩
  exact ⟨_, le, I', _, by rw [I.trk.len']; simp, rfl⟩
noncomputable def isDictA (av : AV) (st : St) : Bool := match av with
  | .ref r => match st.heap[r]? with
    | some (.dict _) => true
    | some (.pdict _) => true
    | _ => false
  | _ => false
theorem isDictA_some {av : AV} {st : St} (h : isDictA av st = true) : ∃ r, av = .ref r ∧ ((∃ l, st.heap[r]? = some (.dict l)) ∨ ∃ l, st.heap[r]? = some (.pdict l)) := by
  unfold isDictA at h
  split at h
  · rename_i r
    split at h
    · rename_i l e; exact ⟨r, rfl, .inl ⟨l, e⟩⟩
    · rename_i l e; exact ⟨r, rfl, .inr ⟨l, e⟩⟩
    · cases h
  · cases h
theorem dict_at {kp pn : List (Addr × Obj)} {W : WS} {s : Shared} {st : St} (I : G.I C kp pn W s st) {r : Nat} {a : Addr} (ha : W.sig[r]? = some a) {l : List (Int × AV)} (h : st.heap[r]? = some (.dict l) ∨ st.heap[r]? = some (.pdict l)) :
    ∃ kvs, s.heap.DictOf (intKind G.prog G.w) a kvs ∧ A2 (fun kv p => kv.1 = p.1 ∧ RV W kv.2 p.2) kvs l := by
  rcases h with h | h
  all_goals
    obtain ⟨a', ha', o, ho, kvs, hx, hd⟩ := I.trk.get h
    rw [ha] at ha'; cases ha'
    obtain ⟨es, ep, q⟩ := hx
    exact ⟨kvs, ⟨o, es, ep, ho, q⟩, hd⟩
theorem mth_dict {name : Str} {id : String} (slot : Slot "dict" name id) (ty : typeOf (.builtin id) = pure (.type "method_descriptor")) : MthOk G C name (.builtin id) isDictA := by
  intro kp pn W s st A v av pl Q E I hr hok hQ
  obtain ⟨r, rfl, hl⟩ := isDictA_some hok
  obtain ⟨a, ha, rfl⟩ := hr
  have hd : ∃ o, s.heap.get? a = some o ∧ o.cls = .type "dict" ∧ o.dict = none := by
    rcases hl with ⟨l, h⟩ | ⟨l, h⟩
    all_goals
      obtain ⟨kvs, ⟨o, es, ep, ho, hx, q⟩, hd⟩ := dict_at I ha (l := l) (by first | exact .inl h | exact .inr h)
      exact ⟨o, ho, hx.1, hx.2.1⟩
  obtain ⟨o, ho, hc, hn⟩ := hd
  exact getMethod_builtin (T := "dict") ⟨o, ho, hc⟩ F.plainAttrs_dict slot ty (fun b e => by cases e; exact ⟨_, ho, hn⟩) (hQ s.toks)
noncomputable def dget (l : List (Int × AV)) (k : Int) : AV := match l.find? fun p => decide (p.1 = k) with
  | some p => p.2
  | none => .dat .none
noncomputable def dgetA : List AV → AM AV
  | [.ref r, .dat (.int k)] => fun st => match st.heap[r]? with
    | some (.dict l) => some (dget l k, st)
    | some (.pdict l) => some (dget l k, st)
    | _ => none
  | _ => AM.fail
theorem dget_rel {W : WS} {kvs : List (Int × Value)} {l : List (Int × AV)} (h : A2 (fun kv p => kv.1 = p.1 ∧ RV W kv.2 p.2) kvs l) (k : Int) : RV W ((valueAt kvs k).getD .none) (dget l k) := by
  unfold valueAt dget
  induction h with
  | nil => exact .none
  | cons h1 h2 ih =>
    rename_i kv q kvs l
    rw [List.find?_cons, List.find?_cons, h1.1]
    by_cases e : q.1 = k
    · simp only [e, decide_true]; exact h1.2
    · simp only [e, decide_false]; exact ih
theorem ref_dict_get (hG : G.Ok) (vs : List Value) (avs : List AV) (hl : vs.length = avs.length) : Ref G C hq (call (.builtin "dict.get") vs) RV (dgetA avs) (vs.zip avs) := by
  intro kp pn W s st A hA I hΓ b st' hm
  have key : ∀ {r : Nat} {k : Int} {l : List (Int × AV)}, avs = [.ref r, .dat (.int k)] → (st.heap[r]? = some (.dict l) ∨ st.heap[r]? = some (.pdict l)) → b = dget l k → st' = st →
      wpAny G.M A (call (.builtin "dict.get") vs) (fun a s' => ∃ W', W.le W' ∧ G.I C kp pn W' s' st' ∧ RV W' a b) (fun _ _ => False) s := by
    intro r k l e hd hb hst
    subst e hb hst
    obtain ⟨v, u, rfl, ⟨a, ha, rfl⟩, r2⟩ := two_of hl hΓ
    obtain ⟨t, rfl⟩ := rv_int r2
    obtain ⟨kvs, hD, hr⟩ := dict_at I ha hd
    exact call_meetsIn F.slot_dict_get hD.mapOf.typeIs F.entry_dict_get (F.args_dict_get_2 _ _) (meets_dict_get (intKind G.prog G.w) a (k := k) (intKind_is _ _ _ _) (sys_ne hG I ha)) ⟨_, hD.mapOf, W, .refl _, Inv.toks I, dget_rel hr k⟩
  unfold dgetA at hm
  split at hm
  · split at hm
    · rename_i l hl'; cases hm; exact key rfl (.inl hl') rfl rfl
    · rename_i l hl'; cases hm; exact key rfl (.inr hl') rfl rfl
    · cases hm
  · exact (fail_some hm).elim

noncomputable def dput (l : List (Int × AV)) (k : Int) (a : AV) : List (Int × AV) := if l.any (fun p => p.1 = k) then l.map (fun p => if p.1 = k then (p.1, a) else p) else l ++ [(k, a)]
theorem dput_rel {W : WS} {kvs : List (Int × Value)} {l : List (Int × AV)} (h : A2 (fun kv p => kv.1 = p.1 ∧ RV W kv.2 p.2) kvs l) (k : Int) {v : Value} {a : AV} (hv : RV W v a) : A2 (fun kv p => kv.1 = p.1 ∧ RV W kv.2 p.2) (stored kvs k v) (dput l k a) := by
  have e1 : (kvs.any fun kv => decide (kv.1 = k)) = l.any fun p => decide (p.1 = k) := by
    induction h with
    | nil => rfl
    | cons h1 h2 ih => rw [List.any_cons, List.any_cons, h1.1, ih]
  have e2 : A2 (fun kv p => kv.1 = p.1 ∧ RV W kv.2 p.2) (kvs.map fun kv => if kv.1 = k then (kv.1, v) else kv) (l.map fun p => if p.1 = k then (p.1, a) else p) := by
    clear e1
    induction h with
    | nil => exact .nil
    | cons h1 h2 ih =>
      refine .cons ?_ ih
      rename_i kv p kvs l
      dsimp only
      by_cases e : p.1 = k
      · rw [if_pos e, if_pos (h1.1.trans e)]; exact ⟨h1.1, hv⟩
      · rw [if_neg e, if_neg (fun q => e (h1.1 ▸ q))]; exact h1
  unfold stored dput
  rw [e1]
  by_cases hc : (l.any fun p => decide (p.1 = k)) = true
  · rw [if_pos hc, if_pos hc]; exact e2
  · rw [if_neg hc, if_neg hc]; exact h.append (.cons ⟨rfl, hv⟩ .nil)
/-- d[k] = v -/
noncomputable def dputA (o k a : AV) : AM Unit := match o, k with
  | .ref r, .dat (.int k) => fun st => match st.heap[r]? with
    | some (.dict l) => if l.length < 900 then some ((), ⟨st.loc, st.heap.set r (.dict (dput l k a))⟩) else none
    | _ => none
  | _, _ => AM.fail
theorem dputA_ok {W : WS} {kp pn : List (Addr × Obj)} {s : Shared} {st st' : St} {A : Around} {u : Unit} {vo vk v : Value} {o k a : AV} (I : G.I C kp pn W s st) (ro : RV W vo o) (rk : RV W vk k) (rv : RV W v a) (hm : dputA o k a st = some (u, st')) {Q : Unit → Shared → Prop}
    (hQ : ∀ s', G.I C kp pn W s' st' → Q () s') : wpAny G.M A (setItem vo vk v) Q (fun _ _ => False) s := by
  unfold dputA at hm
  split at hm
  · split at hm
    · rename_i l hl'
      split at hm
      · rename_i hlt
        cases hm
        obtain ⟨x, hx, rfl⟩ := ro
        obtain ⟨t, rfl⟩ := rv_int rk
        obtain ⟨kvs, hD, hr⟩ := dict_at I hx (.inl hl')
        refine wpAny_setItem_pairs (knd := intKind G.prog G.w) (intKind_is _ _ _ _) hD (fun h' hD' hs' => hQ _ ?_) (sz1000 (by rw [hr.length]; omega))
        obtain ⟨o', es, ep, ho', q⟩ := hD'
        exact Inv.turn (s' := { s with heap := h', toks := s.toks + 1 }) I hx hl' rfl (fun b o' hb e => (hs'.2 b hb).trans e) ho' ⟨_, ⟨es, ep, q⟩, dput_rel hr _ rv⟩
      · cases hm
    · cases hm
  · exact (fail_some hm).elim

/-! texts -/
noncomputable def isStrA (av : AV) (_ : St) : Bool := match av with
  | .dat (.str _) => true
  | _ => false
set_option maxRecDepth 100000 in
theorem mth_str {name : Str} {id : String} (slot : Slot "str" name id) (ty : typeOf (.builtin id) = pure (.type "method_descriptor")) : MthOk G C name (.builtin id) isStrA := by
  intro kp pn W s st A v av pl Q E I hr hok hQ
  unfold isStrA at hok
  split at hok
  · obtain ⟨u, rfl⟩ := rv_str hr
    refine getMethod_builtin (T := "str") (typeIs_str s _ u) ?_ slot ty (fun b e => ?_) (hQ s.toks)
    · exact F.plainAttrs_str
    · injection e
  · cases hok
noncomputable def rfindA : List AV → AM AV
  | [.dat (.str x), .dat (.str y)] => AM.pure (.dat (.int (Txt.rfind x y)))
  | _ => AM.fail
theorem ref_rfind (vs : List Value) (avs : List AV) (hl : vs.length = avs.length) : Ref G C hq (call (.builtin "str.rfind") vs) RV (rfindA avs) (vs.zip avs) := by
  intro kp pn W s st A hA I hΓ b st' hm
  unfold rfindA at hm
  split at hm
  · obtain ⟨rfl, rfl⟩ := pure_some hm
    obtain ⟨v, u, rfl, r1, r2⟩ := two_of hl hΓ
    obtain ⟨t, rfl⟩ := rv_str r1
    obtain ⟨t', rfl⟩ := rv_str r2
    exact call_gives F.slot_str_rfind (typeIs_str _ _ _) F.entry_str_rfind (F.args_str_rfind_2 _ _) (gives_str_rfind _ _ t t') ⟨W, .refl _, Inv.toks I, .int _ _⟩
  · exact (fail_some hm).elim
noncomputable def rstripA : List AV → AM AV
  | [.dat (.str x), .dat (.str y)] => fun st => if x.length < 1000 then some (.dat (.str (Txt.rstripChars x y)), st) else none
  | _ => AM.fail
theorem ref_rstrip (vs : List Value) (avs : List AV) (hl : vs.length = avs.length) : Ref G C hq (call (.builtin "str.rstrip") vs) RV (rstripA avs) (vs.zip avs) := by
  intro kp pn W s st A hA I hΓ b st' hm
  unfold rstripA at hm
  split at hm
  · split at hm
    · rename_i hlt
      cases hm
      obtain ⟨v, u, rfl, r1, r2⟩ := two_of hl hΓ
      obtain ⟨t, rfl⟩ := rv_str r1
      obtain ⟨t', rfl⟩ := rv_str r2
      exact SC.rstripChars (fun t'' k => ⟨W, .refl _, Inv.toks I, .str _ _⟩) (sz1000 hlt)
    · cases hm
  · exact (fail_some hm).elim
noncomputable def mulA : AV → AV → AM AV
  | .dat (.str x), .dat (.int n) => fun st => if 1 < n ∧ n < 100 ∧ x.length < 9 ∧ 0 < x.length then some (.dat (.str ⟨(List.replicate n.toNat x.cps).foldl (· ++ ·) #[]⟩), st) else if n = 1 then some (.dat (.str x), st) else none
  | _, _ => AM.fail
end
end Mine

open PySem PySem.W PyProof.Rows PySem.Calls PySem.Spec
set_option Elab.async false
namespace Mine
section
variable {G : Gl} {C : Act}

noncomputable abbrev CompOk (scope : Scope) (xs names : List Str) : Prop := scope.kind = .function ∧ (∀ x ∈ scope.names, x.2 = .local → scope.names.lookup x.1 = some .local) ∧ (∀ y ∈ scope.names, y.2 ≠ .cell) ∧ (xs ++ names).Nodup
theorem comp_nd {xs names : List Str} (hv : C.vars.map (·.1) = names) (h : (xs ++ names).Nodup) : ((xs.map (·, (none : Option Addr)) ++ C.vars).map (·.1)).Nodup := by
  rw [List.map_append, List.map_map, hv, show ((fun p : Str × Option Addr => p.1) ∘ fun x : Str => (x, none)) = id from rfl, List.map_id]
  exact h

theorem nest_turn (elt t it t1 it1 : Expr) (ifs ifs1 : List Expr) (scope : Scope) (pos : Pos) (I acc : Addr) (env : Env) : compTurn (.ListComp elt [⟨t, it, ifs, 0⟩, ⟨t1, it1, ifs1, 0⟩] scope pos) 0 (.ref I) (.ref acc) env =
    turnT ⟨t, it, ifs, 0⟩ (nestT elt [⟨t, it, ifs, 0⟩, ⟨t1, it1, ifs1, 0⟩] scope pos 1 ⟨t1, it1, ifs1, 0⟩ (.ref acc) env) (again (.compLoop (.ListComp elt [⟨t, it, ifs, 0⟩, ⟨t1, it1, ifs1, 0⟩] scope pos) 0 (.ref I) (.ref acc) env)) (.ref I) env := by
  unfold turnT nestT
  simp only [bind_assoc, pure_bind]
  rfl

theorem ref_Comp1 {elt t it : Expr} {ifs : List Expr} {scope : Scope} {pos : Pos} {cl : List (Str × Addr)} {xs names : List Str} {pat : List Bool} {mi : AM (St → Option (List AV))} {ta : AV → AM Unit} {mt : AM Bool} {me : AM AV} {fin : List AV → AM AV}
    (fuel : Nat) (hC : C.Ok) (hv : C.vars.map (·.1) = names) (hpat : C.vars.map (·.2.isSome) = pat) (hok : CompOk scope xs names) (hs : ∀ x, foldedSetIterable it C.env x = pure x) (hclos : closureFor scope C.env = pure cl)
    (hfin : FinOk G C fin) (Ri : IterOk G C it mi)
    (Rin : ∀ L' oL, (compAct C xs scope cl L' oL).Ok → (∀ v av, Ref G (compAct C xs scope cl L' oL) true (assign t (compAct C xs scope cl L' oL).env v) RU (ta av) [(v, av)]) ∧
      Ref G (compAct C xs scope cl L' oL) true (testsT ifs (compAct C xs scope cl L' oL).env) RB mt ∧ Ref G (compAct C xs scope cl L' oL) true (eval elt (compAct C xs scope cl L' oL).env) RV me) :
    Ref G C true (eval (.ListComp elt [⟨t, it, ifs, 0⟩] scope pos) C.env) RV ((compA xs.length pat mi ta mt (emitA me) fuel).bind fin) :=
  ref_ListComp (inner := fun acc env => eval elt env >>= fun x => call (.builtin "list.append") [.ref acc, x] >>= fun _ => pure ()) rfl hs hclos hok.1 hok.2.1 hok.2.2.1 (fun _ _ _ => rfl) rfl fuel hfin Ri hC (comp_nd hv hok.2.2.2) hpat
    fun L' oL h => ⟨(Rin L' oL h).1, (Rin L' oL h).2.1, fun acc => cstep_emit (C := compAct C xs scope cl L' oL) (Rin L' oL h).2.2⟩

theorem ref_AssignComp1 {x : Str} {p apos : Pos} {elt t it : Expr} {ifs : List Expr} {scope : Scope} {pos : Pos} {cl : List (Str × Addr)} {xs names : List Str} {pat : List Bool} {mi : AM (St → Option (List AV))} {ta : AV → AM Unit} {mt : AM Bool} {me : AM AV} {fin : List AV → AM AV}
    {ms : AV → AM Unit} (fuel : Nat) (hC : C.Ok) (hsw : swapsWith (.ListComp elt [⟨t, it, ifs, 0⟩] scope pos) (some (.Name x p)) apos.line C.env = pure true) (hv : C.vars.map (·.1) = names) (hpat : C.vars.map (·.2.isSome) = pat) (hok : CompOk scope xs names)
    (hs : ∀ x, foldedSetIterable it C.env x = pure x) (hclos : closureFor scope C.env = pure cl) (hfin : FinOk G C fin) (Ri : IterOk G C it mi)
    (Rin : ∀ L' oL, (compAct C xs scope cl L' oL).Ok → (∀ v av, Ref G (compAct C xs scope cl L' oL) true (assign t (compAct C xs scope cl L' oL).env v) RU (ta av) [(v, av)]) ∧
      Ref G (compAct C xs scope cl L' oL) true (testsT ifs (compAct C xs scope cl L' oL).env) RB mt ∧ Ref G (compAct C xs scope cl L' oL) true (eval elt (compAct C xs scope cl L' oL).env) RV me)
    (Rst : ∀ v av, Ref G C true (storeName C.env x v) RU (ms av) [(v, av)]) :
    Ref G C true (exec (.Assign [.Name x p] (.ListComp elt [⟨t, it, ifs, 0⟩] scope pos) apos) C.env) RF ((compA xs.length pat mi ta mt (emitA me) fuel).bind fun l => (fin l).bind fun av => (ms av).bind fun _ => AM.pure .next) :=
  ref_AssignComp (inner := fun acc env => eval elt env >>= fun x => call (.builtin "list.append") [.ref acc, x] >>= fun _ => pure ()) hsw (fun _ => rfl) rfl hs hclos hok.1 hok.2.1 hok.2.2.1 (fun _ _ _ => rfl) fuel hfin Ri hC (comp_nd hv hok.2.2.2) hpat
    (fun L' oL h => ⟨(Rin L' oL h).1, (Rin L' oL h).2.1, fun acc => cstep_emit (C := compAct C xs scope cl L' oL) (Rin L' oL h).2.2⟩) Rst

theorem ref_Comp2 {elt t it t1 it1 : Expr} {ifs ifs1 : List Expr} {scope : Scope} {pos : Pos} {cl : List (Str × Addr)} {xs names : List Str} {pat : List Bool} {mi mi1 : AM (St → Option (List AV))} {ta ta1 : AV → AM Unit} {mt mt1 : AM Bool} {me : AM AV} {fin : List AV → AM AV}
    (fuel : Nat) (hC : C.Ok) (hv : C.vars.map (·.1) = names) (hpat : C.vars.map (·.2.isSome) = pat) (hok : CompOk scope xs names) (hs : ∀ x, foldedSetIterable it C.env x = pure x) (hs1 : ∀ env x, foldedSetIterable it1 env x = pure x) (hclos : closureFor scope C.env = pure cl)
    (hfin : FinOk G C fin) (Ri : IterOk G C it mi)
    (Rin : ∀ L' oL, (compAct C xs scope cl L' oL).Ok → (∀ v av, Ref G (compAct C xs scope cl L' oL) true (assign t (compAct C xs scope cl L' oL).env v) RU (ta av) [(v, av)]) ∧
      Ref G (compAct C xs scope cl L' oL) true (testsT ifs (compAct C xs scope cl L' oL).env) RB mt ∧ IterOk G (compAct C xs scope cl L' oL) it1 mi1 ∧
      (∀ v av, Ref G (compAct C xs scope cl L' oL) true (assign t1 (compAct C xs scope cl L' oL).env v) RU (ta1 av) [(v, av)]) ∧
      Ref G (compAct C xs scope cl L' oL) true (testsT ifs1 (compAct C xs scope cl L' oL).env) RB mt1 ∧ Ref G (compAct C xs scope cl L' oL) true (eval elt (compAct C xs scope cl L' oL).env) RV me) :
    Ref G C true (eval (.ListComp elt [⟨t, it, ifs, 0⟩, ⟨t1, it1, ifs1, 0⟩] scope pos) C.env) RV ((compA xs.length pat mi ta mt (nestA mi1 ta1 mt1 (emitA me) fuel) fuel).bind fin) :=
  ref_ListComp (inner := fun acc env => nestT elt [⟨t, it, ifs, 0⟩, ⟨t1, it1, ifs1, 0⟩] scope pos 1 ⟨t1, it1, ifs1, 0⟩ (.ref acc) env) rfl hs hclos hok.1 hok.2.1 hok.2.2.1 (fun _ _ _ => nest_turn ..) rfl fuel hfin Ri hC (comp_nd hv hok.2.2.2) hpat
    fun L' oL h => ⟨(Rin L' oL h).1, (Rin L' oL h).2.1, fun acc => cstep_nest (C := compAct C xs scope cl L' oL) rfl rfl (fun _ => rfl) (Rin L' oL h).2.2.1 (Rin L' oL h).2.2.2.1 (Rin L' oL h).2.2.2.2.1 (cstep_emit (Rin L' oL h).2.2.2.2.2) fuel (hs1 _)⟩

theorem ref_AssignComp2 {x : Str} {p apos : Pos} {elt t it t1 it1 : Expr} {ifs ifs1 : List Expr} {scope : Scope} {pos : Pos} {cl : List (Str × Addr)} {xs names : List Str} {pat : List Bool} {mi mi1 : AM (St → Option (List AV))} {ta ta1 : AV → AM Unit} {mt mt1 : AM Bool} {me : AM AV} {fin : List AV → AM AV}
    {ms : AV → AM Unit} (fuel : Nat) (hC : C.Ok) (hsw : swapsWith (.ListComp elt [⟨t, it, ifs, 0⟩, ⟨t1, it1, ifs1, 0⟩] scope pos) (some (.Name x p)) apos.line C.env = pure true) (hv : C.vars.map (·.1) = names) (hpat : C.vars.map (·.2.isSome) = pat) (hok : CompOk scope xs names)
    (hs : ∀ x, foldedSetIterable it C.env x = pure x) (hs1 : ∀ env x, foldedSetIterable it1 env x = pure x) (hclos : closureFor scope C.env = pure cl)
    (hfin : FinOk G C fin) (Ri : IterOk G C it mi)
    (Rin : ∀ L' oL, (compAct C xs scope cl L' oL).Ok → (∀ v av, Ref G (compAct C xs scope cl L' oL) true (assign t (compAct C xs scope cl L' oL).env v) RU (ta av) [(v, av)]) ∧
      Ref G (compAct C xs scope cl L' oL) true (testsT ifs (compAct C xs scope cl L' oL).env) RB mt ∧ IterOk G (compAct C xs scope cl L' oL) it1 mi1 ∧
      (∀ v av, Ref G (compAct C xs scope cl L' oL) true (assign t1 (compAct C xs scope cl L' oL).env v) RU (ta1 av) [(v, av)]) ∧
      Ref G (compAct C xs scope cl L' oL) true (testsT ifs1 (compAct C xs scope cl L' oL).env) RB mt1 ∧ Ref G (compAct C xs scope cl L' oL) true (eval elt (compAct C xs scope cl L' oL).env) RV me)
    (Rst : ∀ v av, Ref G C true (storeName C.env x v) RU (ms av) [(v, av)]) :
    Ref G C true (exec (.Assign [.Name x p] (.ListComp elt [⟨t, it, ifs, 0⟩, ⟨t1, it1, ifs1, 0⟩] scope pos) apos) C.env) RF ((compA xs.length pat mi ta mt (nestA mi1 ta1 mt1 (emitA me) fuel) fuel).bind fun l => (fin l).bind fun av => (ms av).bind fun _ => AM.pure .next) :=
  ref_AssignComp (inner := fun acc env => nestT elt [⟨t, it, ifs, 0⟩, ⟨t1, it1, ifs1, 0⟩] scope pos 1 ⟨t1, it1, ifs1, 0⟩ (.ref acc) env) hsw (fun _ => rfl) rfl hs hclos hok.1 hok.2.1 hok.2.2.1 (fun _ _ _ => nest_turn ..) fuel hfin Ri hC (comp_nd hv hok.2.2.2) hpat
    (fun L' oL h => ⟨(Rin L' oL h).1, (Rin L' oL h).2.1, fun acc => cstep_nest (C := compAct C xs scope cl L' oL) rfl rfl (fun _ => rfl) (Rin L' oL h).2.2.1 (Rin L' oL h).2.2.2.1 (Rin L' oL h).2.2.2.2.1 (cstep_emit (Rin L' oL h).2.2.2.2.2) fuel (hs1 _)⟩) Rst
end
end Mine

open PySem PySem.W PyProof.Rows PySem.Calls PySem.Spec
set_option Elab.async false
namespace Mine
set_option maxRecDepth 100000

theorem boot_len : bootBuiltins "len" = some (.builtin "len") := by kernel_rfl
theorem boot_range : bootBuiltins "range" = some (.type "range") := by kernel_rfl
theorem boot_sum : bootBuiltins "sum" = some (.builtin "sum") := by kernel_rfl
theorem boot_iter : bootBuiltins "iter" = some (.builtin "iter") := by kernel_rfl
theorem boot_set : bootBuiltins "set" = some (.type "set") := by kernel_rfl
theorem boot_list : bootBuiltins "list" = some (.type "list") := by kernel_rfl
theorem boot_tuple : bootBuiltins "tuple" = some (.type "tuple") := by kernel_rfl
theorem boot_type : bootBuiltins "type" = some (.type "type") := by kernel_rfl
theorem boot_str : bootBuiltins "str" = some (.type "str") := by kernel_rfl

section
variable {G : Gl} {C : Act} {hq : Bool}
/-- a builtin's name -/
structure BiName (G : Gl) (x : Str) (f : Value) : Prop where
  miss : G.mg x = none
  boot : bootBuiltins x = some f
  nn : x ≠ "__name__"
  nd : (x == ("__debug__" : Str)) = false
theorem BiName.nm {x : Str} {f : Value} (h : BiName G x f) (hG : G.Ok) (hC : C.Ok) (hk : C.env.kindOf x = some .globalImplicit) : Nm G C x f := nm_builtin hG hC h.miss h.boot h.nn hk h.nd
/-- the name of a builtin type read -/
theorem ref_typ (hG : G.Ok) (hC : C.Ok) {x : Str} {T : String} {pos : Pos} (h : BiName G x (.type T)) (hk : C.env.kindOf x = some .globalImplicit) : Ref G C hq (eval (.Name x pos) C.env) RV (AM.pure (.typ T)) := by
  intro kp pn W s st A hA I _ b st' hm
  obtain ⟨rfl, rfl⟩ := pure_some hm
  exact h.nm hG hC hk I ⟨W, .refl _, I, rfl⟩

/-- a function of the top -/
structure FnName (G : Gl) (x : Str) (F : FnS) : Prop where
  at' : ∃ fa fd, G.mg x = some (.ref fa) ∧ FnAt G F fa fd ∧ keepIn G.K (.ref fa) = true ∧ ∀ vs : List Value, vs.length = F.pars.length → bindArgs fd ⟨vs, []⟩ = pure (F.pars.zip vs)
  nd : (x == ("__debug__" : Str)) = false
  ok : F.Ok
theorem ref_CallF (hG : G.Ok) (hC : C.Ok) {x : Str} {p pos : Pos} {e : Expr} {rest : List Expr} {F : FnS} {ms : List (AM AV)} {mb : AM AF} {d dC : Nat} {xb : Bool} (h : FnName G x F) (hk : C.env.kindOf x = some .globalImplicit) (Rb : Body G F hq d mb xb) (hb0 : C.dep ≤ dC ∧ C.un ≤ 4 * dC) (hd : dC + 1 ≤ d) (hd6 : d ≤ 600)
    (Ra : Ref G C hq (spliced (backTo pos (starEach (e :: rest) C.env))) RL (listA ms))
    (he : starEach (e :: rest) C.env = (false, eval e C.env) :: starEach rest C.env) (hp : (backTo pos (starEach rest C.env)).any (·.1) = false) (hx : xb = true → C.gn = 0 := by intro h; cases h) :
    Ref G C hq (eval (.Call (.Name x p) (e :: rest) [] pos) C.env) RV ((listA ms).bind (callA F mb)) := by
  obtain ⟨fa, fd, h1, h2, h3, h4⟩ := h.at'
  exact ref_Call hG (nm_global hG hC h1 hk h.nd) (cw_K h3) Ra (fun vs avs hl => ref_fn hG h.ok h2 Rb hb0 hd hd6 h4 vs avs hl hx) he hp
theorem ref_CallF0 (hG : G.Ok) (hC : C.Ok) {x : Str} {p pos : Pos} {F : FnS} {mb : AM AF} {d dC : Nat} {xb : Bool} (h : FnName G x F) (hk : C.env.kindOf x = some .globalImplicit) (Rb : Body G F hq d mb xb) (hb0 : C.dep ≤ dC ∧ C.un ≤ 4 * dC) (hd : dC + 1 ≤ d) (hd6 : d ≤ 600) (hx : xb = true → C.gn = 0 := by intro h; cases h) :
    Ref G C hq (eval (.Call (.Name x p) [] [] pos) C.env) RV (callA F mb []) := by
  obtain ⟨fa, fd, h1, h2, h3, h4⟩ := h.at'
  exact ref_Call0 hG (nm_global hG hC h1 hk h.nd) (cw_K h3) (ref_fn hG h.ok h2 Rb hb0 hd hd6 h4 [] [] rfl hx)

theorem ref_global' (hG : G.Ok) (hC : C.Ok) {x : Str} {pos : Pos} {d : PyData} (hx : ∃ v, G.mg x = some v ∧ RD [] v d) (hk : C.env.kindOf x = some .globalImplicit) (hd : (x == ("__debug__" : Str)) = false) :
    Ref G C hq (eval (.Name x pos) C.env) RV (AM.pure (.dat d)) := by
  obtain ⟨v, h1, h2⟩ := hx
  exact ref_global hG hC h1 h2 hk hd
theorem ref_fail {α β : Type} {t : Sem α} {RR : WS → α → β → Prop} {Γ : List (Value × AV)} : Ref G C hq t RR AM.fail Γ := fun _ _ _ _ _ _ _ _ _ _ _ hm => (fail_some hm).elim
end
end Mine

open PySem PySem.W PyProof.Rows PySem.Calls PySem.Spec
set_option Elab.async false
namespace Mine
set_option maxRecDepth 100000

noncomputable def infoNames : List Str := ["node", "npredecessors", "successors"]
structure TopCls (G : Gl) : Prop where
  sa : findIn G.K (.ref cTop) "__setattr__" = some (some (.builtin "object.__setattr__"))
  po : plainOver G.K cTop = true
  hd : hasDictIn G.K cTop = true
  pg : plainGet G.K cTop "" = true
  nm : ∀ name ∈ attNames, findIn G.K (.ref cTop) name = some none ∧ takerIn G.K cTop name = some none
structure InfoCls (G : Gl) : Prop where
  sa : findIn G.K (.ref cInfo) "__setattr__" = some (some (.builtin "object.__setattr__"))
  po : plainOver G.K cInfo = true
  pg : plainGet G.K cInfo "" = true
  ic : isClsIn G.K cInfo = true
  slot : ∀ (i : Nat) (name : Str), infoNames[i]? = some name → ∃ p, findIn G.K (.ref cInfo) name = some (some (.ref p)) ∧ specialIn G.K (.ref p) "__get__" = some (some (.builtin "member_descriptor.__get__")) ∧
    takesIn G.K (.ref p) = some true ∧ slotIn G.K p cInfo = some i ∧ takerIn G.K cInfo name = some (some (.ref p)) ∧ typeIn G.K (.ref p) = some (.type "member_descriptor")

theorem rv_handed {W : WS} {v : Value} {a : AV} (h : RV W v a) : handedIn v = true := by
  cases a with
  | dat d => cases (show RD W.frz v d from h) <;> rfl
  | ref n => obtain ⟨a, _, rfl⟩ := h; rfl
  | bnd n => obtain ⟨a, b, _, rfl, _⟩ := h; rfl
  | rng n => obtain ⟨b, o, rfl, _⟩ := h; rfl
  | vals n => obtain ⟨a, b, _, rfl, _⟩ := h; rfl
  | typ t => obtain rfl : v = .type t := h; rfl
  | slc lo hi => obtain ⟨b, vl, vu, rfl, _⟩ := h; rfl
  | ext a => obtain rfl : v = .ref a := h; rfl

noncomputable def EntRel (W : WS) (e : DictEntry) (p : Str × AV) : Prop := (∃ t, e.key = .str p.1 t) ∧ RV W e.val p.2
theorem isStr_of {e : DictEntry} {n name : Str} {t : Tok} (h : e.key = .str n t) : e.key.isStr name = (n == name) := by rw [h]; rfl
theorem putL_rel {W : WS} {name : Str} {hsh : Int} {t : Tok} {v : Value} {a : AV} (hv : RV W v a) : ∀ {names : List Str} {l : List AV} {es : List DictEntry} {i : Nat}, names.Nodup → names[i]? = some name → i ≤ l.length → A2 (EntRel W) es (names.zip l) → l.length ≤ names.length →
    A2 (EntRel W) (putL name hsh (.str name t) v es) (names.zip (if i < l.length then l.set i a else l ++ [a]))
  | [], _, _, i, _, h, _, _, _ => by simp at h
  | n :: ns, [], es, i, hn, h, hi, hr, hl => by
    have : i = 0 := by simpa using hi
    subst this
    simp only [List.getElem?_cons_zero, Option.some.injEq] at h
    subst h
    simp only [List.zip_nil_right] at hr
    cases hr
    simp only [List.length_nil, Nat.lt_irrefl, if_false, List.nil_append, List.zip_cons_cons, List.zip_nil_right, putL]
    exact .cons ⟨⟨t, rfl⟩, hv⟩ .nil
  | n :: ns, b :: l, es, i, hn, h, hi, hr, hl => by
    rw [List.nodup_cons] at hn
    rw [List.zip_cons_cons] at hr
    cases hr with
    | cons h1 h2 =>
      rename_i e es
      obtain ⟨⟨u, hu⟩, hb⟩ := h1
      cases i with
      | zero =>
        simp only [List.getElem?_cons_zero, Option.some.injEq] at h
        subst h
        have : e.key.isStr n = true := by rw [isStr_of hu]; simp
        simp only [putL, this, if_true, List.length_cons, Nat.zero_lt_succ, List.set_cons_zero, List.zip_cons_cons]
        exact .cons ⟨⟨u, hu⟩, hv⟩ h2
      | succ i =>
        have hne : (n == name) = false := by
          rw [beq_eq_false_iff_ne]
          intro q; subst q
          exact hn.1 (List.mem_of_getElem? (by simpa using h))
        have : e.key.isStr name = false := by rw [isStr_of hu]; exact hne
        simp only [putL, this, Bool.false_eq_true, if_false]
        have ih := putL_rel (hsh := hsh) (t := t) hv (names := ns) (l := l) (es := es) (i := i) hn.2 (by simpa using h) (by simpa using hi) h2 (by simpa using hl)
        by_cases hlt : i < l.length
        · rw [if_pos (by simpa using hlt), List.set_cons_succ, List.zip_cons_cons]
          rw [if_pos hlt] at ih
          exact .cons ⟨⟨u, hu⟩, hb⟩ ih
        · rw [if_neg (by simpa using hlt), List.cons_append, List.zip_cons_cons]
          rw [if_neg hlt] at ih
          exact .cons ⟨⟨u, hu⟩, hb⟩ ih
theorem getL_rel {W : WS} {name : Str} {a : AV} : ∀ {names : List Str} {l : List AV} {es : List DictEntry} {i : Nat}, names.Nodup → names[i]? = some name → l[i]? = some a → A2 (EntRel W) es (names.zip l) → ∃ v, PySem.W.getL name es = some (some v) ∧ RV W v a
  | [], _, _, i, _, h, _, _ => by simp at h
  | n :: ns, [], es, i, hn, h, h', hr => by simp at h'
  | n :: ns, b :: l, es, i, hn, h, h', hr => by
    rw [List.nodup_cons] at hn
    rw [List.zip_cons_cons] at hr
    cases hr with
    | cons h1 h2 =>
      rename_i e es
      obtain ⟨⟨u, hu⟩, hb⟩ := h1
      unfold PySem.W.getL
      rw [List.find?_cons, isStr_of hu]
      cases i with
      | zero =>
        simp only [List.getElem?_cons_zero, Option.some.injEq] at h h'
        subst h h'
        simp only [beq_self_eq_true]
        exact ⟨_, rfl, hb⟩
      | succ i =>
        have hne : (n == name) = false := by
          rw [beq_eq_false_iff_ne]
          intro q; subst q
          exact hn.1 (List.mem_of_getElem? (by simpa using h))
        simp only [hne]
        obtain ⟨v, h3, h4⟩ := getL_rel (names := ns) (l := l) (es := es) (i := i) hn.2 (by simpa using h) (by simpa using h') h2
        refine ⟨v, ?_, h4⟩
        unfold PySem.W.getL at h3
        split at h3
        · rename_i e' he; rw [he]; exact h3
        · split at h3 <;> cases h3
theorem getL_none {W : WS} {name : Str} : ∀ {ps : List (Str × AV)} {es : List DictEntry}, A2 (EntRel W) es ps → (∀ p ∈ ps, p.1 ≠ name) → PySem.W.getL name es = some none := by
  intro ps es h hn
  have h1 : es.find? (·.key.isStr name) = none := by
    induction h with
    | nil => rfl
    | cons h1 h2 ih =>
      obtain ⟨⟨u, hu⟩, hb⟩ := h1
      rw [List.find?_cons, isStr_of hu, beq_eq_false_iff_ne.mpr (hn _ (.head _))]
      exact ih fun p hp => hn p (.tail _ hp)
  have h2 : es.any (·.refKey) = false := by
    clear h1
    induction h with
    | nil => rfl
    | cons h1 h2 ih =>
      obtain ⟨⟨u, hu⟩, hb⟩ := h1
      rw [List.any_cons, ih fun p hp => hn p (.tail _ hp)]
      unfold DictEntry.refKey
      rw [hu]; rfl
  unfold PySem.W.getL
  rw [h1, h2]; rfl

/-! all the objects but one -/
noncomputable def othersOf (h₀ h : Heap) (L d : Addr) : List (Addr × Obj) := (List.range h.objs.size).filterMap fun a => if a = d ∨ a = L ∨ (h₀.get? a).isSome = true then none else (h.get? a).map fun o => (a, o)
theorem mem_others {h₀ h : Heap} {L d a : Addr} {o : Obj} : (a, o) ∈ othersOf h₀ h L d ↔ h.get? a = some o ∧ a ≠ d ∧ a ≠ L ∧ h₀.get? a = none := by
  unfold othersOf
  rw [List.mem_filterMap]
  constructor
  · rintro ⟨b, hb, e⟩
    split at e
    · cases e
    · rename_i hn
      obtain ⟨o', ho, e'⟩ := Option.map_eq_some_iff.mp e
      cases e'
      exact ⟨ho, fun q => hn (.inl q), fun q => hn (.inr (.inl q)), by
        cases q : h₀.get? a with
        | none => rfl
        | some x => exact (hn (.inr (.inr (by rw [q]; rfl)))).elim⟩
  · rintro ⟨h1, h2, h3, h4⟩
    refine ⟨a, List.mem_range.mpr (Heap.lt_size h1), ?_⟩
    rw [if_neg (by rintro (q | q | q); exact h2 q; exact h3 q; rw [h4] at q; cases q), h1]
    rfl

section
variable {G : Gl} {C : Act} {hq : Bool}
theorem Inv.fr {kp pn : List (Addr × Obj)} {W : WS} {s : Shared} {st : St} (I : G.I C kp pn W s st) {m : Str → Option Value} (hn : s.heap.Ns C.L m) : Fr G.h₀ C.L s.heap m := ⟨hn, I.base, I.old _ (List.mem_append_left _ (.head _))⟩
/-- a tracked object turned, by a rule that tells the others one by one -/
theorem Inv.turnN {kp pn : List (Addr × Obj)} {W : WS} {s : Shared} {st : St} (I : G.I C kp pn W s st) {i : Nat} {a : Addr} {o' : Obj} {ao ao₀ : AO} (ha : W.sig[i]? = some a) (ha0 : st.heap[i]? = some ao₀) (hpn : ao₀.pinned = false)
    {m : Str → Option Value} (hl : Loc C W m st.loc) {h' : Heap} (F' : Fr G.h₀ C.L h' m) (N' : News G.h₀ C.L h' ((a, o') :: othersOf G.h₀ s.heap C.L a)) (hr : RO G.prog G.w W o' ao) (tk : Nat) :
    G.I C kp pn W { s with heap := h', toks := tk } ⟨st.loc, st.heap.set i ao⟩ := by
  have hm : a ∈ C.own ++ W.sig := List.mem_append_right _ (List.mem_of_getElem? ha)
  have hoL : a ≠ C.L := fun e => (List.nodup_append.mp I.apart).2.2 C.L (.head _) a (List.mem_of_getElem? ha) e.symm
  have hs : ∀ b o, b ≠ a → b ≠ C.L → s.heap.get? b = some o → h'.get? b = some o := fun b o hb hL e => by
    cases q : G.h₀.get? b with
    | some x =>
      have := I.base b x q
      rw [e] at this; cases this
      exact F'.keep b _ q
    | none => exact (N' (b, o) (.tail _ (mem_others.mpr ⟨e, hb, hL, q⟩))).1
  have ho' : h'.get? a = some o' := (N' (a, o') (.head _)).1
  have nL : ∀ {b : Addr}, b ∈ W.sig → b ≠ C.L := fun hb e => (List.nodup_append.mp I.apart).2.2 C.L (.head _) _ hb e.symm
  have sL := I.sep C.L (List.mem_append_left _ (.head _))
  refine ⟨F'.keep, ⟨m, F'.ns, hl⟩, ?_, fun p hp => hs _ _ ((I.sep a hm).1 p hp) (sL.1 p hp) (I.frz p hp), fun p hp => hs _ _ ((I.sep a hm).2.1 p hp) (sL.2.1 p hp) (I.kept p hp),
    fun p hp => let ⟨sl, h⟩ := I.ups p hp; ⟨sl, hs _ _ ((I.sep a hm).2.2 p hp) (sL.2.2 p hp) h⟩, I.apart, I.old, I.sep, I.fk, I.fu, I.upp, fun p hp => hs _ _ ((I.sepp p hp).2 i a ao₀ ha ha0 hpn) ((I.sepp p hp).1 _ (.head _)) (I.pin p hp), ?_, I.gens, I.os⟩
  · have nd := (List.nodup_append.mp I.apart).2.1
    refine I.trk.setIdx (fun j b ao' hj _ ne ⟨o, x1, x2⟩ => ⟨o, hs _ _ (nodup_get_ne nd hj ha ne) (nL (List.mem_of_getElem? hj)) x1, x2⟩) fun b c hb _ _ => ?_
    rw [ha] at hb; cases hb
    exact ⟨o', ho', hr⟩
  · intro p hp
    refine ⟨(I.sepp p hp).1, fun j b ao' hj ha' hp' => ?_⟩
    by_cases hji : j = i
    · subst hji
      rw [ha] at hj; cases hj
      exact (I.sepp p hp).2 j a ao₀ ha ha0 hpn
    · exact (I.sepp p hp).2 j b ao' hj (by rw [← ha']; exact (List.getElem?_set_ne (Ne.symm hji)).symm) hp'
theorem Inv.newsAt {kp pn : List (Addr × Obj)} {W : WS} {s : Shared} {st : St} (I : G.I C kp pn W s st) {i : Nat} {a : Addr} {o : Obj} (ha : W.sig[i]? = some a) (ho : s.heap.get? a = some o) : News G.h₀ C.L s.heap ((a, o) :: othersOf G.h₀ s.heap C.L a) := by
  have hm : a ∈ C.own ++ W.sig := List.mem_append_right _ (List.mem_of_getElem? ha)
  intro p hp
  rcases List.mem_cons.mp hp with rfl | hp
  · refine ⟨ho, fun e => (List.nodup_append.mp I.apart).2.2 C.L (.head _) a (List.mem_of_getElem? ha) e.symm, ?_⟩
    cases q : G.h₀.get? a with
    | none => rfl
    | some x => exact (old_ne (I.old a hm) q rfl).elim
  · obtain ⟨a', o'⟩ := p
    obtain ⟨h1, h2, h3, h4⟩ := mem_others.mp hp
    exact ⟨h1, h3, h4⟩

noncomputable def attGetA (name : Str) : AV → AM AV
  | .ref r => fun st => match st.heap[r]? with
    | some (.inst d) => match st.heap[d]? with
      | some (.atts l) => match attNames.findIdx? (· == name) with
        | some i => match l[i]? with
          | some a => some (a, st)
          | none => none
        | none => none
      | _ => none
    | some (.info l) => match infoNames.findIdx? (· == name) with
      | some i => match l[i]? with
        | some a => some (a, st)
        | none => none
      | none => none
    | _ => none
  | _ => AM.fail
theorem idx_get {names : List Str} {name : Str} {i : Nat} (h : names.findIdx? (· == name) = some i) : names[i]? = some name := by
  obtain ⟨h1, h2, _⟩ := List.findIdx?_eq_some_iff_getElem.mp h
  rw [List.getElem?_eq_getElem h1]
  simpa using h2
theorem att_nd : attNames.Nodup := by decide +kernel
theorem ref_getAttr (hG : G.Ok) (hT : TopCls G) (hI : InfoCls G) {name : Str} {v : Value} {av : AV} {b : Bool} : Ref G C hq (getAttr v name b) RV (attGetA name av) [(v, av)] := by
  intro kp pn W s st A hA I hΓ b st' hm
  have hr : RV W v av := hΓ _ (.head _)
  obtain ⟨m, hn, hl⟩ := I.ns
  unfold attGetA at hm
  split at hm
  · rename_i r
    obtain ⟨x, hx, rfl⟩ := hr
    split at hm
    · rename_i d hd
      split at hm
      · rename_i l hl'
        split at hm
        · rename_i i hi
          split at hm
          · rename_i a ha
            cases hm
            obtain ⟨x', hx', ox, hox, dx, hdx, rfl⟩ := I.trk.get hd
            rw [hx] at hx'; cases hx'
            obtain ⟨dx', hdx', od, hod, es, n, rfl, hlen, hes⟩ := I.trk.get hl'
            rw [hdx] at hdx'; cases hdx'
            have hi' := idx_get hi
            obtain ⟨u, hu, hru⟩ := getL_rel (W := W) att_nd hi' ha hes
            have hat := (hT.nm name (List.mem_of_getElem? hi')).1
            exact get_own (C := cTop) (es := es) (n := n) (attr := none) (I.fr hn) hG.X ⟨hox, rfl, rfl, hod⟩ hT.pg hT.hd hat rfl hu (rv_handed hru) ⟨W, .refl _, Inv.toks I, hru⟩
          · cases hm
        · cases hm
      · cases hm
    · rename_i l hl'
      split at hm
      · rename_i i hi
        split at hm
        · rename_i a ha
          cases hm
          obtain ⟨x', hx', ox, hox, dx, vs, rfl, hdx, hvs⟩ := I.trk.get hl'
          rw [hx] at hx'; cases hx'
          obtain ⟨p, h1, h2, h3, h4, _⟩ := hI.slot i name (idx_get hi)
          obtain ⟨u, hu, hru⟩ := hvs.get ha
          refine get_slot (C := cInfo) (od := emptyDict) (I.fr hn) hG.X ⟨hox, rfl, rfl, I.frz _ hdx⟩ hI.pg hI.ic h1 h2 h3 h4 (v := u) ?_ (rv_handed hru) ⟨W, .refl _, Inv.toks I, hru⟩
          rw [List.getElem?_toArray, List.getElem?_map, hu]; rfl
        · cases hm
      · cases hm
    · cases hm
  · exact (fail_some hm).elim
theorem ref_Attribute (hG : G.Ok) (hT : TopCls G) (hI : InfoCls G) {o : Expr} {attr : Str} {pos : Pos} {m : AM AV} (R : Ref G C hq (eval o C.env) RV m)
    (he : eval (.Attribute o attr pos) C.env = (do
      let o' ← eval o C.env
      standAt pos.atName
      let r ← holding [o'] (getAttr o' attr true)
      letTemporaryGo o o' r
      pure r)) : Ref G C hq (eval (.Attribute o attr pos) C.env) RV (m.bind (attGetA attr)) := by
  intro kp pn W s st A hA I _ b st' hm
  obtain ⟨a, st1, e1, e2⟩ := bind_some hm
  refine Attribute_any_ (R.use0 hA I e1 fun v s1 W1 h1 h2 h3 => ?_) he
  exact (ref_getAttr hG hT hI).use hA h2 (fun p hp => by rw [List.mem_singleton.mp hp]; exact h3) e2 fun u s2 W2 k1 k2 k3 => ⟨W2, h1.trans k1, k2, k3⟩

noncomputable def putI (l : List AV) (i : Nat) (a : AV) : List AV := if i < l.length then l.set i a else l ++ [a]
noncomputable def attSetA (name : Str) (o a : AV) : AM Unit := match o with
  | .ref r => fun st => match st.heap[r]? with
    | some (.inst d) => match st.heap[d]? with
      | some (.atts l) => match attNames.findIdx? (· == name) with
        | some i => if i ≤ l.length then some ((), ⟨st.loc, st.heap.set d (.atts (putI l i a))⟩) else none
        | none => none
      | _ => none
    | some (.info l) => match infoNames.findIdx? (· == name) with
      | some i => if i ≤ l.length then some ((), ⟨st.loc, st.heap.set r (.info (putI l i a))⟩) else none
      | none => none
    | _ => none
  | _ => AM.fail
theorem slots_put {vs : List Value} {v : Value} {i : Nat} (h : i ≤ vs.length) :
    ((vs.map some).toArray ++ Array.replicate (i + 1 - (vs.map some).toArray.size) none).setIfInBounds i (some v) = ((if i < vs.length then vs.set i v else vs ++ [v]).map some).toArray := by
  apply Array.toList_inj.mp
  rw [Array.toList_setIfInBounds, Array.toList_append, Array.toList_replicate, List.size_toArray, List.length_map]
  by_cases hlt : i < vs.length
  · rw [if_pos hlt, show i + 1 - vs.length = 0 from by omega]
    simp [List.map_set]
  · have : i = vs.length := by omega
    subst this
    rw [if_neg hlt, show vs.length + 1 - vs.length = 1 from by omega]
    simp [List.set_append]
theorem putI_rel {W : WS} {vs : List Value} {l : List AV} (h : RVs W vs l) {i : Nat} {v : Value} {a : AV} (hv : RV W v a) : RVs W (if i < vs.length then vs.set i v else vs ++ [v]) (putI l i a) := by
  unfold putI
  rw [h.length]
  split
  · exact h.set hv i
  · exact h.append (.cons hv .nil)
theorem attSetA_ok (hG : G.Ok) (hT : TopCls G) (hI : InfoCls G) {W : WS} {kp pn : List (Addr × Obj)} {s : Shared} {st st' : St} {A : Around} {u : Unit} {name : Str} {vo v : Value} {o a : AV} (I : G.I C kp pn W s st) (ro : RV W vo o) (rv : RV W v a) (hm : attSetA name o a st = some (u, st'))
    {Q : Unit → Shared → Prop} (hQ : ∀ s', G.I C kp pn W s' st' → Q () s') : wpAny G.M A (setAttr vo name v) Q (fun _ _ => False) s := by
  obtain ⟨m, hn, hl⟩ := I.ns
  unfold attSetA at hm
  split at hm
  · rename_i r
    obtain ⟨x, hx, rfl⟩ := ro
    split at hm
    · rename_i d hd
      split at hm
      · rename_i l hl'
        split at hm
        · rename_i i hi
          split at hm
          · rename_i hle
            cases hm
            obtain ⟨x', hx', ox, hox, dx, hdx, rfl⟩ := I.trk.get hd
            rw [hx] at hx'; cases hx'
            obtain ⟨dx', hdx', od, hod, es, n, rfl, hlen, hes⟩ := I.trk.get hl'
            rw [hdx] at hdx'; cases hdx'
            have hi' := idx_get hi
            have hmem := hT.nm name (List.mem_of_getElem? hi')
            have h4 : i < 4 := by
              have := (List.getElem?_eq_some_iff.mp hi').1
              exact this
            have hput := putL_rel (W := W) (hsh := PyData.keyHash G.w.params name) (t := s.toks + 1) rv att_nd hi' hle hes (by rw [show attNames.length = 4 from rfl]; exact hlen)
            have hgl : (PySem.W.getL name es).isSome = true := by
              by_cases hlt : i < l.length
              · obtain ⟨u, hu, _⟩ := getL_rel (W := W) att_nd hi' (List.getElem?_eq_getElem hlt) hes
                rw [hu]; rfl
              · rw [getL_none (W := W) hes (fun p hp e => ?_)]
                · rfl
                · obtain ⟨j, hj⟩ := List.mem_iff_getElem?.mp hp
                  rw [List.getElem?_zip_eq_some] at hj
                  have hjl := (List.getElem?_eq_some_iff.mp hj.2).1
                  exact nodup_get_ne att_nd hj.1 hi' (by omega) e
            have hlen' : (putI l i a).length ≤ 4 := by unfold putI; split <;> simp <;> omega
            refine set_dict (C := cTop) (es := es) (n := n) (I.fr hn) hG.X (I.newsAt hdx hod) ⟨hox, rfl, rfl, hod⟩ rfl hT.sa hT.po hmem.2 hT.hd hgl rfl (.head fun p hp => ?_) ?_ fun h' F' N' => ?_
            · obtain ⟨a', o'⟩ := p
              exact (mem_others.mp hp).2.1
            · have := hput.length
              rw [List.length_zip] at this
              rw [this]
              have : (putI l i a).length ≤ 4 := hlen'
              unfold putI at this
              omega
            · exact hQ _ (Inv.turnN (ao := .atts (putI l i a)) I hdx hl' rfl hl F' N' ⟨_, _, rfl, hlen', hput⟩ _)
          · cases hm
        · cases hm
      · cases hm
    · rename_i l hl'
      split at hm
      · rename_i i hi
        split at hm
        · rename_i hle
          cases hm
          obtain ⟨x', hx', ox, hox, dx, vs, rfl, hdx, hvs⟩ := I.trk.get hl'
          rw [hx] at hx'; cases hx'
          have hi' := idx_get hi
          obtain ⟨p, h1, h2, h3, h4, h5, h6⟩ := hI.slot i name hi'
          have h3' : i < 3 := (List.getElem?_eq_some_iff.mp hi').1
          refine set_slot (C := cInfo) (od := emptyDict) (ox' := { cls := .ref cInfo, dict := some dx, data := .plain, slots := ((if i < vs.length then vs.set i v else vs ++ [v]).map some).toArray }) (I.fr hn) hG.X (I.newsAt hx hox) ⟨hox, rfl, rfl, I.frz _ hdx⟩ hI.sa hI.po h5 h6 h4 (by omega) ?_ rfl (.head fun p hp => ?_) fun h' F' N' => ?_
          · rw [slots_put (by rw [hvs.length]; exact hle)]
          · obtain ⟨a', o'⟩ := p
            exact (mem_others.mp hp).2.1
          · exact hQ _ (Inv.turnN (ao := .info (putI l i a)) I hx hl' rfl hl F' N' ⟨dx, _, rfl, hdx, putI_rel hvs rv⟩ _)
        · cases hm
      · cases hm
    · cases hm
  · exact (fail_some hm).elim
end
end Mine

open PySem PySem.W PyProof.Rows PySem.Calls PySem.Spec
set_option Elab.async false
namespace Mine
set_option maxRecDepth 100000
section
variable {G : Gl} {C : Act} {hq : Bool}

/-! statements with attributes -/
theorem ref_AssignAttr (hG : G.Ok) (hT : TopCls G) (hI : InfoCls G) {o e : Expr} {attr : Str} {p pos : Pos} {me mo : AM AV} (Re : Ref G C hq (eval e C.env) RV me) (Ro : Ref G C hq (eval o C.env) RV mo)
    (hs : swapsWith e (some (.Attribute o attr p)) pos.line C.env = pure false) :
    Ref G C hq (exec (.Assign [.Attribute o attr p] e pos) C.env) RF (me.bind fun a => mo.bind fun b => (attSetA attr b a).bind fun _ => AM.pure .next) := by
  intro kp pn W s st A hA I _ b st' hm
  obtain ⟨a, st1, e1, e2⟩ := bind_some hm
  obtain ⟨c, st2, e3, e4⟩ := bind_some e2
  obtain ⟨_, st3, e5, e6⟩ := bind_some e4
  obtain ⟨rfl, rfl⟩ := pure_some e6
  refine plainObj_wpAny_Assign_Attribute (Re.use0 hA I e1 fun v s1 W1 h1 h2 h3 => Ro.use0 hA h2 e3 fun u s2 W2 k1 k2 k3 => ?_) hs
  exact attSetA_ok hG hT hI k2 k3 (h3.mono k1) e5 fun s' J => ⟨W2, h1.trans k1, J, trivial⟩
theorem ref_AugAttr (hG : G.Ok) (hT : TopCls G) (hI : InfoCls G) {o e : Expr} {attr : Str} {p pos : Pos} {op : Operator} {me mo : AM AV} {f : AV → AV → AM AV} (Ro : Ref G C hq (eval o C.env) RV mo) (Re : Ref G C hq (eval e C.env) RV me)
    (Rf : ∀ v1 a1 v2 a2, Ref G C hq (inplaceOp op v1 v2) RV (f a1 a2) [(v1, a1), (v2, a2)]) :
    Ref G C hq (exec (.AugAssign (.Attribute o attr p) op e pos) C.env) RF (mo.bind fun b => (attGetA attr b).bind fun old => me.bind fun a => (f old a).bind fun n => (attSetA attr b n).bind fun _ => AM.pure .next) := by
  intro kp pn W s st A hA I _ b st' hm
  obtain ⟨b, st1, e1, e2⟩ := bind_some hm
  obtain ⟨old, st2, e3, e4⟩ := bind_some e2
  obtain ⟨a, st3, e5, e6⟩ := bind_some e4
  obtain ⟨n, st4, e7, e8⟩ := bind_some e6
  obtain ⟨_, st5, e9, e10⟩ := bind_some e8
  obtain ⟨rfl, rfl⟩ := pure_some e10
  refine wpAny_AugAssign_AttributeAny (Ro.use0 hA I e1 fun v s1 W1 h1 h2 h3 => (ref_getAttr hG hT hI).use hA h2 (fun p hp => by rw [List.mem_singleton.mp hp]; exact h3) e3 fun u s2 W2 k1 k2 k3 => Re.use0 hA k2 e5 fun y s3 W3 j1 j2 j3 => ?_)
  refine (Rf u old y a).use hA j2 (fun p hp => ?_) e7 fun z s4 W4 i1 i2 i3 => ?_
  · rcases List.mem_cons.mp hp with rfl | hp
    · exact k3.mono j1
    · rw [List.mem_singleton.mp hp]; exact j3
  · exact attSetA_ok hG hT hI i2 (((h3.mono k1).mono j1).mono i1) i3 e9 fun s' J => ⟨W4, ((h1.trans k1).trans j1).trans i1, J, trivial⟩
theorem ref_NamedExpr {x : Str} {p pos : Pos} {e : Expr} {m : AM AV} {ms : AV → AM Unit} (R : Ref G C hq (eval e C.env) RV m) (Rs : ∀ v av, Ref G C hq (storeName C.env x v) RU (ms av) [(v, av)]) :
    Ref G C hq (eval (.NamedExpr (.Name x p) e pos) C.env) RV (m.bind fun a => (ms a).bind fun _ => AM.pure a) := by
  intro kp pn W s st A hA I _ b st' hm
  obtain ⟨a, st1, e1, e2⟩ := bind_some hm
  obtain ⟨_, st2, e3, e4⟩ := bind_some e2
  obtain ⟨rfl, rfl⟩ := pure_some e4
  refine wpAny_NamedExpr (R.use0 hA I e1 fun v s1 W1 h1 h2 h3 => wpAny_assign_Name ((Rs v _).use hA h2 (fun p hp => by rw [List.mem_singleton.mp hp]; exact h3) e3 fun _ s2 W2 k1 k2 _ => ⟨W2, h1.trans k1, k2, h3.mono k1⟩))
/-- d[k] = x = value -/
theorem ref_AssignSubName {o k e : Expr} {x : Str} {p px pos : Pos} {me mo mk : AM AV} {ms : AV → AM Unit} (Re : Ref G C hq (eval e C.env) RV me) (Ro : Ref G C hq (eval o C.env) RV mo) (Rk : Ref G C hq (eval k C.env) RV mk)
    (Rs : ∀ v av, Ref G C hq (storeName C.env x v) RU (ms av) [(v, av)]) (he : (assignEach [.Subscript o k p, .Name x px] C.env).map (·.2) = [assign (.Subscript o k p) C.env, assign (.Name x px) C.env])
    (hw : swappedStores [.Subscript o k p, .Name x px] e C.env = pure none) :
    Ref G C hq (exec (.Assign [.Subscript o k p, .Name x px] e pos) C.env) RF (me.bind fun a => mo.bind fun b => mk.bind fun c => (dputA b c a).bind fun _ => (ms a).bind fun _ => AM.pure .next) := by
  intro kp pn W s st A hA I _ b st' hm
  obtain ⟨a, st1, e1, e2⟩ := bind_some hm
  obtain ⟨b, st2, e3, e4⟩ := bind_some e2
  obtain ⟨c, st3, e5, e6⟩ := bind_some e4
  obtain ⟨_, st4, e7, e8⟩ := bind_some e6
  obtain ⟨_, st5, e9, e10⟩ := bind_some e8
  obtain ⟨rfl, rfl⟩ := pure_some e10
  refine wpAny_Assign_two (Re.use0 hA I e1 fun v s1 W1 h1 h2 h3 => ?_) he hw
  rw [assign_Subscript]
  refine wpAny_bind (wpAny_holding (Ro.use0 hA h2 e3 fun ov s2 W2 k1 k2 k3 => wpAny_bind (wpAny_holding (Rk.use0 hA k2 e5 fun iv s3 W3 j1 j2 j3 => ?_))))
  refine wpAny_bind (wpAny_standAt (wpAny_bind (wpAny_holding (dputA_ok j2 (k3.mono j1) j3 ((h3.mono k1).mono j1) e7 fun s4 J => wpAny_release ?_))))
  refine wpAny_assign_Name ((Rs v a).use hA J (fun p hp => by rw [List.mem_singleton.mp hp]; exact (h3.mono k1).mono j1) e9 fun _ s5 W5 i1 i2 _ => ⟨W5, ((h1.trans k1).trans j1).trans i1, i2, trivial⟩)

/-! tuples to names -/
theorem ref_AssignTuple {elts : List Expr} {k : Nat} {tp pos : Pos} {e : Expr} {me : AM AV} {ta : AV → AM Unit} (Re : Ref G C true (eval e C.env) RV me) (Rt : ∀ v av, Ref G C true (assign (.Tuple elts k tp) C.env v) RU (ta av) [(v, av)])
    (hs : swapsWithSole [.Tuple elts k tp] e pos.line C.env = pure false) (hw : swappedStores [.Tuple elts k tp] e C.env = pure none) :
    Ref G C true (exec (.Assign [.Tuple elts k tp] e pos) C.env) RF (me.bind fun a => (ta a).bind fun _ => AM.pure .next) := by
  intro kp pn W s st A hA I _ b st' hm
  obtain ⟨a, st1, e1, e2⟩ := bind_some hm
  obtain ⟨_, st2, e3, e4⟩ := bind_some e2
  obtain ⟨rfl, rfl⟩ := pure_some e4
  exact Assign_Tuple (Re.use0 hA I e1 fun v s1 W1 h1 h2 h3 => (Rt v a).use hA h2 (fun p hp => by rw [List.mem_singleton.mp hp]; exact h3) e3 fun _ s2 W2 k1 k2 _ => ⟨W2, h1.trans k1, k2, trivial⟩) hs hw
/-- two names at once, stored from behind -/
noncomputable def swapA (m1 m2 : AV → AM Unit) : AV → AM Unit
  | .dat (.tuple [a, b]) => (m2 (.dat b)).bind fun _ => m1 (.dat a)
  | _ => AM.fail
theorem ref_AssignSwap {elts : List Expr} {k : Nat} {tp pos : Pos} {e : Expr} {x y : Str} {me : AM AV} {m1 m2 : AV → AM Unit} (Re : Ref G C true (eval e C.env) RV me) (R1 : ∀ v av, Ref G C true (storeName C.env x v) RU (m1 av) [(v, av)])
    (R2 : ∀ v av, Ref G C true (storeName C.env y v) RU (m2 av) [(v, av)]) (hs : swapsWithSole [.Tuple elts k tp] e pos.line C.env = pure false) (hw : swappedStores [.Tuple elts k tp] e C.env = pure (some [x, y])) :
    Ref G C true (exec (.Assign [.Tuple elts k tp] e pos) C.env) RF (me.bind fun a => (swapA m1 m2 a).bind fun _ => AM.pure .next) := by
  intro kp pn W s st A hA I _ b st' hm
  obtain ⟨a, st1, e1, e2⟩ := bind_some hm
  obtain ⟨_, st2, e3, e4⟩ := bind_some e2
  obtain ⟨rfl, rfl⟩ := pure_some e4
  refine Assign_Tuple_swapped (names := [x, y]) (Re.use0 hA I e1 fun v s1 W1 h1 h2 h3 => ?_) hs hw
  unfold swapA at e3
  split at e3
  · rename_i da db
    obtain ⟨_, st3, e5, e6⟩ := bind_some e3
    obtain ⟨t, vs, n, rfl, hf, hd⟩ := rv_tuple h3
    have hlen := hd.length
    rw [Array.length_toList] at hlen
    have hlen : vs.size = [x, y].length := hlen
    rw [← hlen]
    refine unpackItems_tuple (hA.hd rfl) ⟨_, h2.frz _ hf, rfl, n, rfl⟩ fun h' he => ?_
    have I' : G.I C kp pn W1 { s1 with heap := h' } st1 := Inv.stepIt h2 (Fresh.new h2) he (Inv.base_lt h2)
    obtain ⟨va, vb, hvs, ra, rb⟩ : ∃ va vb, vs.toList = [va, vb] ∧ RD W1.frz va da ∧ RD W1.frz vb db := by
      cases hq : vs.toList with
      | nil => rw [hq] at hd; cases hd
      | cons va r =>
        rw [hq] at hd
        cases hd with
        | cons d1 d2 =>
          cases r with
          | nil => cases d2
          | cons vb r =>
            cases d2 with
            | cons d3 d4 =>
              cases d4
              exact ⟨va, vb, rfl, d1, d3⟩
    rw [hvs]
    show wpAny G.M A (assignInOrder [fun v => bindName C.env y v, fun v => bindName C.env x v] [vb, va]) _ _ _
    refine assignInOrder_cons (wpAny_bindName ((R2 vb (.dat db)).use hA I' (fun p hp => by rw [List.mem_singleton.mp hp]; exact rb) e5 fun _ s2 W2 k1 k2 _ => ?_))
    refine assignInOrder_cons (wpAny_bindName ((R1 va (.dat da)).use hA k2 (fun p hp => by rw [List.mem_singleton.mp hp]; exact RD.mono k1.frz ra) e6 fun _ s3 W3 j1 j2 _ => ?_))
    exact wpAny_pure ⟨W3, (h1.trans k1).trans j1, j2, trivial⟩
  · exact (fail_some e3).elim

/-! while -/
noncomputable def whileA (mt : AM Bool) (mb mo : AM AF) : Nat → AM AF
  | 0 => AM.fail
  | n + 1 => fun st => match mt st with
    | none => none
    | some (false, st1) => mo st1
    | some (true, st1) => match mb st1 with
      | none => none
      | some (.next, st2) => whileA mt mb mo n st2
      | some (.cont, st2) => whileA mt mb mo n st2
      | some (.brk, st2) => some (.next, st2)
      | some (.ret v, st2) => some (.ret v, st2)
theorem ref_While (fuel : Nat) {test : Expr} {body orelse : List Stmt} {pos : Pos} {mt : AM Bool} {mb mo : AM AF} (Rt : Ref G C hq (isTrue test C.env (eval test C.env)) RB mt) (Rb : Ref G C hq (execs body C.env) RF mb) (Ro : Ref G C hq (execs orelse C.env) RF mo) :
    Ref G C hq (exec (.While test body orelse pos) C.env) RF (whileA mt mb mo fuel) := by
  intro kp pn W s st A hA I _ b st' hm
  refine wpAny_While (codeAny_mono (codeAny_whileLoop (R := fun r s' => ∃ f W', r = .ok f ∧ W.le W' ∧ G.I C kp pn W' s' st' ∧ RF W' f b) (fun n s => ∃ W1 st1, whileA mt mb mo n st1 = some (b, st') ∧ G.I C kp pn W1 s st1 ∧ W.le W1) ?_ fuel ⟨W, st, hm, I, .refl _⟩) fun r s' ⟨f, W', e, h1, h2, h3⟩ => ?_)
  · rintro n s ⟨W1, st1, hm, I, hW⟩
    cases n with
    | zero => exact (fail_some hm).elim
    | succ n =>
      simp only [whileA] at hm
      split at hm
      · cases hm
      · rename_i st2 e1
        refine Rt.use0 hA I e1 fun t s1 W2 h1 h2 h3 => ?_
        obtain rfl := h3
        refine wpAny_mono (E := fun _ _ => False) (Ro.use0 hA h2 hm fun f s2 W3 k1 k2 k3 => ?_) (fun _ _ x => x) fun _ _ x => x.elim
        exact ⟨f, W3, rfl, (hW.trans h1).trans k1, k2, k3⟩
      · rename_i st2 e1
        refine Rt.use0 hA I e1 fun t s1 W2 h1 h2 h3 => ?_
        obtain rfl := h3
        split at hm
        · cases hm
        all_goals
          rename_i st3 e2
          refine wpAny_mono (E := fun _ _ => False) (Rb.use0 hA h2 e2 fun f s2 W3 k1 k2 k3 => ?_) (fun _ _ x => x) fun _ _ x => x.elim
          cases f <;> simp only [RF] at k3
        · exact ⟨n, Nat.lt_succ_self n, W3, st3, hm, k2, (hW.trans h1).trans k1⟩
        · exact ⟨n, Nat.lt_succ_self n, W3, st3, hm, k2, (hW.trans h1).trans k1⟩
        · cases hm; exact ⟨.next, W3, rfl, (hW.trans h1).trans k1, k2, trivial⟩
        · cases hm; exact ⟨.ret _, W3, rfl, (hW.trans h1).trans k1, k2, k3⟩
  · subst e; exact ⟨W', h1, h2, h3⟩

/-! calls with more than the plain arguments -/
theorem Inv.reAct {C' : Act} {kp pn : List (Addr × Obj)} {W : WS} {s : Shared} {st : St} (I : G.I C kp pn W s st) (h1 : C'.L = C.L) (h2 : C'.vars = C.vars) (h3 : C'.ups = C.ups) (h4 : C'.gn = C.gn) : G.I C' kp pn W s st := by
  obtain ⟨L, e, es, vs, d, u, up, gn⟩ := C
  obtain ⟨L', e', es', vs', d', u', up', gn'⟩ := C'
  cases h1; cases h2; cases h3; cases h4
  exact ⟨I.base, I.ns, I.trk, I.frz, I.kept, I.ups, I.apart, I.old, I.sep, I.fk, I.fu, I.upp, I.pin, I.sepp, I.gens, I.os⟩
theorem zip_rel' {W : WS} : ∀ {vs : List Value} {avs : List AV}, vs.length = avs.length → (∀ p ∈ vs.zip avs, RV W p.1 p.2) → RVs W vs avs
  | [], [], _, _ => .nil
  | [], _ :: _, h, _ => by simp at h
  | _ :: _, [], h, _ => by simp at h
  | v :: vs, a :: avs, h, k => .cons (k _ (.head _)) (zip_rel' (by simpa using h) fun p hp => k p (.tail _ hp))

/-- a function whose binder adds fixed values -/
theorem code_fnX (hG : G.Ok) {F : FnS} (hF : F.Ok) {fa : Addr} {fd : FuncData} (hf : FnAt G F fa fd) {mb : AM AF} {d dC : Nat} (Rb : Body G F hq d mb) (hb0 : C.dep ≤ dC ∧ C.un ≤ 4 * dC) (hd : dC + 1 ≤ d) (hd6 : d ≤ 600)
    {ex : List Value} {exa : List AV} (hex : ∀ W, RVs W ex exa) {vs : List Value} {avs : List AV} (hb : ∀ {A : Around} {s : Shared} {Q : List (Str × Value) → Shared → Prop} {E : Value → Shared → Prop}, G.K.In s.heap → Q (F.pars.zip (vs ++ ex)) s → wpAny G.M A (bindArgs fd ⟨vs, []⟩) Q E s)
    {kp pn : List (Addr × Obj)} {W : WS} {s : Shared} {st st' : St} {A : Around} (hA : AOk C hq A) (I : G.I C kp pn W s st) (hr : RVs W vs avs) {b : AV} (hm : callA F mb (avs ++ exa) st = some (b, st')) :
    codeAny G.M A (.call (.ref fa) ⟨vs, []⟩) (fun r s' => ∃ v W', r = .ok (.ret v) ∧ W.le W' ∧ G.I C kp pn W' s' st' ∧ RV W' v b) s := by
  obtain ⟨o, ho, hd'⟩ := hf.at'
  have hlen : vs.length + ex.length = F.pars.length := by
    unfold callA at hm
    split at hm
    · rename_i h
      rw [List.length_append] at h
      rw [hr.length, (hex W).length, h]
    · cases hm
  refine codeAny_call_function (o := o) (fd := fd) (Nat.lt_of_le_of_lt hA.dep ?_) (I.base _ _ (hG.X _ _ ho)) hd' (by rw [hf.scope]; exact hF.co) (by rw [hf.scope]; exact hF.gen) hf.body (hf.code.keeps I.base) ?_
  · have : recursionLimit = 1000 := rfl
    omega
  · refine hb (hG.X.keeps I.base) (wpAny_mono (enter_fn hG hF hf Rb hA I hb0 hd hd6 ?_ ?_ hm) (fun _ _ x => x) fun _ _ x => x.elim)
    · rw [List.map_fst_zip]; rw [List.length_append]; omega
    · rw [List.map_snd_zip (by rw [List.length_append]; omega)]; exact hr.append (hex W)
/-- a function that takes the rest as a tuple -/
noncomputable def callVA (F : FnS) (k : Nat) (mb : AM AF) (avs : List AV) : AM AV := match datsA (avs.drop k) with
  | some ds => if k ≤ avs.length ∧ ds.length < 1000 then callA F mb (avs.take k ++ [.dat (.tuple ds)]) else AM.fail
  | none => AM.fail
theorem code_fnV (hG : G.Ok) {F : FnS} (hF : F.Ok) {fa : Addr} {fd : FuncData} (hf : FnAt G F fa fd) {mb : AM AF} {d dC k : Nat} (Rb : Body G F hq d mb) (hb0 : C.dep ≤ dC ∧ C.un ≤ 4 * dC) (hd : dC + 1 ≤ d) (hd6 : d ≤ 600)
    (hb : ∀ vs : List Value, k ≤ vs.length → bindArgs fd ⟨vs, []⟩ = (newTuple (vs.drop k) >>= fun t => pure (F.pars.zip (vs.take k ++ [t])))) {vs : List Value} {avs : List AV}
    {kp pn : List (Addr × Obj)} {W : WS} {s : Shared} {st st' : St} {A : Around} (hA : AOk C hq A) (I : G.I C kp pn W s st) (hr : RVs W vs avs) {b : AV} (hm : callVA F k mb avs st = some (b, st')) :
    codeAny G.M A (.call (.ref fa) ⟨vs, []⟩) (fun r s' => ∃ v W', r = .ok (.ret v) ∧ W.le W' ∧ G.I C kp pn W' s' st' ∧ RV W' v b) s := by
  obtain ⟨o, ho, hd'⟩ := hf.at'
  unfold callVA at hm
  cases hds : datsA (avs.drop k) with
  | none => rw [hds] at hm; exact (fail_some hm).elim
  | some ds =>
    rw [hds] at hm
    dsimp only at hm
    by_cases hk : k ≤ avs.length ∧ ds.length < 1000
    · rw [if_pos hk] at hm
      have hdr := dats_of (hr.drop k) hds
      refine codeAny_call_function (o := o) (fd := fd) (Nat.lt_of_le_of_lt hA.dep ?_) (I.base _ _ (hG.X _ _ ho)) hd' (by rw [hf.scope]; exact hF.co) (by rw [hf.scope]; exact hF.gen) hf.body (hf.code.keeps I.base) ?_
      · have : recursionLimit = 1000 := rfl
        omega
      · rw [hb vs (by rw [hr.length]; exact hk.1)]
        refine wpAny_bind (wpAny_newTuple (wpAny_pure ?_) (by rw [hdr.length]; exact sz1000 hk.2))
        obtain ⟨I', le⟩ := Inv.push (s' := { s with heap := s.heap.push { cls := .type "tuple", data := .seq (vs.drop k).toArray } }) I { cls := .type "tuple", data := .seq (vs.drop k).toArray } rfl
        have hlen : (avs.take k ++ [AV.dat (.tuple ds)]).length = F.pars.length := by
          unfold callA at hm
          split at hm
          · rename_i h; exact h
          · cases hm
        have hr' : RVs ⟨W.sig, (s.heap.objs.size, { cls := .type "tuple", data := .seq (vs.drop k).toArray }) :: W.frz⟩ (vs.take k ++ [.ref s.heap.objs.size]) (avs.take k ++ [AV.dat (.tuple ds)]) :=
          (RVs.mono le (hr.take k)).append (.cons (.tuple (.head _) (by rw [List.toList_toArray]; exact RDs.mono le.frz hdr)) .nil)
        refine wpAny_mono (enter_fn hG hF hf Rb hA I' hb0 hd hd6 ?_ ?_ hm) (fun _ s2 x => ⟨x.1, codeAny_mono x.2 fun r s' ⟨v, W', q1, q2, q3⟩ => ⟨v, W', q1, le.trans q2, q3⟩⟩) fun _ _ x => x.elim
        · rw [List.map_fst_zip]; rw [hr'.length, hlen]; exact Nat.le_refl _
        · rw [List.map_snd_zip (by rw [hr'.length, hlen]; exact Nat.le_refl _)]; exact hr'
    · rw [if_neg hk] at hm; exact (fail_some hm).elim
end
end Mine

open PySem PySem.W PyProof.Rows PySem.Calls PySem.Spec
set_option Elab.async false
namespace Mine
set_option maxRecDepth 100000
section
variable {G : Gl} {C : Act} {hq : Bool}

/-! methods of the sorter -/
noncomputable def isTopA (av : AV) (st : St) : Bool := match av with
  | .ref r => match st.heap[r]? with
    | some (.inst d) => match st.heap[d]? with
      | some (.atts _) => true
      | _ => false
    | _ => false
  | _ => false
theorem isTopA_some {av : AV} {st : St} (h : isTopA av st = true) : ∃ r d l, av = .ref r ∧ st.heap[r]? = some (.inst d) ∧ st.heap[d]? = some (.atts l) := by
  unfold isTopA at h
  split at h
  · rename_i r
    split at h
    · rename_i d e
      split at h
      · rename_i l e'; exact ⟨r, d, l, rfl, e, e'⟩
      · cases h
    · cases h
  · cases h
structure TopM (G : Gl) (name : Str) (F : FnS) (fa : Addr) (fd : FuncData) : Prop where
  fnd : findIn G.K (.ref cTop) name = some (some (.ref fa))
  isf : isFn G.K (.ref fa) = true
  keep : keepIn G.K (.ref fa) = true
  at' : FnAt G F fa fd
  nn : name ∉ attNames
  ok : F.Ok
theorem mth_top (hG : G.Ok) (hT : TopCls G) {name : Str} {F : FnS} {fa : Addr} {fd : FuncData} (h : TopM G name F fa fd) : MthOk G C name (.ref fa) isTopA := by
  intro kp pn W s st A v av pl Q E I hr hok hQ
  obtain ⟨r, d, l, rfl, hd, hl⟩ := isTopA_some hok
  obtain ⟨x, hx, rfl⟩ := hr
  obtain ⟨m, hn, hloc⟩ := I.ns
  obtain ⟨x', hx', ox, hox, dx, hdx, rfl⟩ := I.trk.get hd
  rw [hx] at hx'; cases hx'
  obtain ⟨dx', hdx', od, hod, es, n, rfl, hlen, hes⟩ := I.trk.get hl
  rw [hdx] at hdx'; cases hdx'
  refine method_inst (C := cTop) (es := es) (n := n) (I.fr hn) hG.X ⟨hox, rfl, rfl, hod⟩ hT.pg h.fnd h.isf (getL_none (W := W) hes fun p hp e => ?_) (hQ s.toks)
  obtain ⟨n', a⟩ := p
  exact h.nn (e ▸ (List.of_mem_zip hp).1)
theorem ref_MT0 (hG : G.Ok) (hT : TopCls G) {o : Expr} {name : Str} {apos pos : Pos} {F : FnS} {mo : AM AV} {mb : AM AF} {d dC : Nat} {xb : Bool} (h : ∃ fa fd, TopM G name F fa fd ∧ ∀ vs : List Value, vs.length = F.pars.length → bindArgs fd ⟨vs, []⟩ = pure (F.pars.zip vs)) (Rb : Body G F hq d mb xb)
    (hb0 : C.dep ≤ dC ∧ C.un ≤ 4 * dC) (hd : dC + 1 ≤ d) (hd6 : d ≤ 600) (Ro : Ref G C hq (eval o C.env) RV mo) {pl : Sem Bool} (he' : eval (.Call (.Attribute o name apos) [] [] pos) C.env = (do
      let ov ← eval o C.env
      standAt apos.atName
      let (f, first) ← holding [ov] (getMethod ov name pl)
      callWith pos f first (backTo pos (starEach [] C.env)) [])) (hx : xb = true → C.gn = 0 := by intro h; cases h) : Ref G C hq (eval (.Call (.Attribute o name apos) [] [] pos) C.env) RV (methA mo isTopA [] (callA F mb)) := by
  obtain ⟨fa, fd, hm, hb⟩ := h
  exact ref_MCall0 hG Ro (mth_top hG hT hm) (cw_K hm.keep) (fun vs avs hl => ref_fn hG hm.ok hm.at' Rb hb0 hd hd6 hb vs avs hl hx) he'
theorem ref_MT (hG : G.Ok) (hT : TopCls G) {o : Expr} {name : Str} {apos pos : Pos} {e : Expr} {rest : List Expr} {F : FnS} {mo : AM AV} {ms : List (AM AV)} {mb : AM AF} {d dC : Nat} (h : ∃ fa fd, TopM G name F fa fd ∧ ∀ vs : List Value, vs.length = F.pars.length → bindArgs fd ⟨vs, []⟩ = pure (F.pars.zip vs)) (Rb : Body G F hq d mb)
    (hb0 : C.dep ≤ dC ∧ C.un ≤ 4 * dC) (hd : dC + 1 ≤ d) (hd6 : d ≤ 600) (Ro : Ref G C hq (eval o C.env) RV mo) (Ra : Ref G C hq (spliced (backTo pos (starEach (e :: rest) C.env))) RL (listA ms))
    (he : starEach (e :: rest) C.env = (false, eval e C.env) :: starEach rest C.env) (hp : (backTo pos (starEach rest C.env)).any (·.1) = false) {pl : Sem Bool} (he' : eval (.Call (.Attribute o name apos) (e :: rest) [] pos) C.env = (do
      let ov ← eval o C.env
      standAt apos.atName
      let (f, first) ← holding [ov] (getMethod ov name pl)
      callWith pos f first (backTo pos (starEach (e :: rest) C.env)) [])) : Ref G C hq (eval (.Call (.Attribute o name apos) (e :: rest) [] pos) C.env) RV (methA mo isTopA ms (callA F mb)) := by
  obtain ⟨fa, fd, hm, hb⟩ := h
  exact ref_MCall hG Ro (mth_top hG hT hm) (cw_K hm.keep) Ra (fun vs avs hl => ref_fn hG hm.ok hm.at' Rb hb0 hd hd6 hb vs avs hl) he hp he'
theorem ref_MTV (k : Nat) (hG : G.Ok) (hT : TopCls G) {o : Expr} {name : Str} {apos pos : Pos} {e : Expr} {rest : List Expr} {F : FnS} {mo : AM AV} {ms : List (AM AV)} {mb : AM AF} {d dC : Nat}
    (h : ∃ fa fd, TopM G name F fa fd ∧ ∀ vs : List Value, k ≤ vs.length → bindArgs fd ⟨vs, []⟩ = (newTuple (vs.drop k) >>= fun t => pure (F.pars.zip (vs.take k ++ [t])))) (Rb : Body G F hq d mb)
    (hb0 : C.dep ≤ dC ∧ C.un ≤ 4 * dC) (hd : dC + 1 ≤ d) (hd6 : d ≤ 600) (Ro : Ref G C hq (eval o C.env) RV mo) (Ra : Ref G C hq (spliced (backTo pos (starEach (e :: rest) C.env))) RL (listA ms))
    (he : starEach (e :: rest) C.env = (false, eval e C.env) :: starEach rest C.env) (hp : (backTo pos (starEach rest C.env)).any (·.1) = false) {pl : Sem Bool} (he' : eval (.Call (.Attribute o name apos) (e :: rest) [] pos) C.env = (do
      let ov ← eval o C.env
      standAt apos.atName
      let (f, first) ← holding [ov] (getMethod ov name pl)
      callWith pos f first (backTo pos (starEach (e :: rest) C.env)) [])) : Ref G C hq (eval (.Call (.Attribute o name apos) (e :: rest) [] pos) C.env) RV (methA mo isTopA ms (callVA F k mb)) := by
  obtain ⟨fa, fd, hm, hb⟩ := h
  refine ref_MCall hG Ro (mth_top hG hT hm) (cw_K hm.keep) Ra (fun vs avs hl => ?_) he hp he'
  intro kp pn W s st A hA I hΓ b st' hm'
  refine wpAny_call (codeAny_mono (code_fnV hG hm.ok hm.at' Rb hb0 hd hd6 hb hA I (zip_rel' hl hΓ) hm') fun r s' ⟨v, W', q, h1, h2, h3⟩ => ?_)
  subst q; exact ⟨W', h1, h2, h3⟩

theorem callA_len {F : FnS} {mb : AM AF} {avs : List AV} {st : St} {r : AV × St} (h : callA F mb avs st = some r) : avs.length = F.pars.length := by
  unfold callA at h
  split at h
  · rename_i e; exact e
  · cases h
/-! new objects of the two classes -/
noncomputable def upAct (C : Act) : Act := { C with dep := C.dep + 1, un := C.un + 4 }
theorem AOk.up {A : Around} (h : AOk C hq A) (c : Addr) (vs : List Value) : AOk (upAct C) hq (A.under (.builtin "type.__call__" ⟨.ref c :: vs, []⟩)) := by
  refine ⟨?_, ?_, ?_, h.hd, h.fo⟩
  · show pushEnvs [] A.frames = some C.envs
    rw [h.fr]; rfl
  · show A.depth + 1 ≤ C.dep + 1
    have := h.dep; omega
  · show A.units + _ ≤ C.un + 4
    have := h.un
    have : (Code.builtin "type.__call__" ⟨.ref c :: vs, []⟩).cUnits ≤ 4 := by
      rw [show (Code.builtin "type.__call__" ⟨.ref c :: vs, []⟩).cUnits = (Code.builtin "type.__call__" ⟨[], []⟩).cUnits from rfl]
      decide +kernel
    omega
structure ClsMk (G : Gl) (x : Str) (c : Addr) (F : FnS) (fI : Addr) (fd : FuncData) (n : Nat) (ex : List Value) : Prop where
  name : G.mg x = some (.ref c)
  nd : (x == ("__debug__" : Str)) = false
  keep : keepIn G.K (.ref c) = true
  mks : makesIn G.K c = true
  ini : findIn G.K (.ref c) "__init__" = some (some (.ref fI))
  ity : typeIn G.K (.ref fI) = some (.type "function")
  at' : FnAt G F fI fd
  ok : F.Ok
  bind : ∀ vs : List Value, vs.length = n → ∀ {A : Around} {s : Shared} {Q : List (Str × Value) → Shared → Prop} {E : Value → Shared → Prop}, G.K.In s.heap → Q (F.pars.zip (vs ++ ex)) s → wpAny G.M A (bindArgs fd ⟨vs, []⟩) Q E s
noncomputable def mkInfoA (F : FnS) (mb : AM AF) (avs : List AV) : AM AV := fun st => match callA F mb (.ref st.heap.length :: avs) ⟨st.loc, st.heap ++ [.info []]⟩ with
  | some (.dat .none, st') => some (.ref st.heap.length, st')
  | _ => none
noncomputable def mkTopA (F : FnS) (mb : AM AF) (avs : List AV) : AM AV := fun st => match callA F mb ((.ref (st.heap.length + 1) :: avs) ++ [.dat .none]) ⟨st.loc, st.heap ++ [.atts []] ++ [.inst st.heap.length]⟩ with
  | some (.dat .none, st') => some (.ref (st.heap.length + 1), st')
  | _ => none
theorem ref_mkInfo (hG : G.Ok) {x : Str} {F : FnS} {fI : Addr} {fd : FuncData} {n : Nat} (h : ClsMk G x cInfo F fI fd n []) {mb : AM AF} {d dC : Nat} (Rb : Body G F hq d mb) (hb0 : C.dep ≤ dC ∧ C.un ≤ 4 * dC) (hd : dC + 2 ≤ d) (hd6 : d ≤ 600)
    (hF : n = F.pars.length) (vs : List Value) (avs : List AV) (hl : vs.length = avs.length) : Ref G C hq (call (.ref cInfo) vs) RV (mkInfoA F mb avs) (vs.zip avs) := by
  intro kp pn W s st A hA I hΓ b st' hm
  unfold mkInfoA at hm
  split at hm
  · rename_i st1 hc
    cases hm
    have hn : avs.length + 1 = n := by
      have := callA_len hc
      rw [hF, ← this]; rfl
    have hr := zip_rel' hl hΓ
    have X := hG.X.keeps I.base
    refine wpAny_call ?_
    obtain ⟨hh, g, dr, t, os⟩ := s
    obtain ⟨I1, le1⟩ := Inv.push (s' := ⟨hh.push emptyDict, g, dr, t, os⟩) I emptyDict rfl
    obtain ⟨I2, le2⟩ := Inv.pushT (s' := ⟨(hh.push emptyDict).push (instObj cInfo hh.objs.size), g, dr, t, os⟩) I1 (instObj cInfo hh.objs.size) (.info []) rfl fun le => ⟨hh.objs.size, [], rfl, le.frz _ (.head _), .nil⟩
    have hsz : (hh.push emptyDict).objs.size = hh.objs.size + 1 := Heap.size_push ..
    refine make_core (makes_of X h.mks) (looks_findIn X h.ini) (fun self => bind_fn X self h.ity) (.inl rfl) ?_
    have J := I2.reAct (C' := upAct C) rfl rfl rfl rfl
    have hself : RV ⟨W.sig ++ [(hh.push emptyDict).objs.size], (hh.objs.size, emptyDict) :: W.frz⟩ (.ref (hh.objs.size + 1)) (.ref st.heap.length) := by
      refine ⟨(hh.push emptyDict).objs.size, ?_, by rw [hsz]⟩
      show (W.sig ++ _)[st.heap.length]? = _
      rw [← I.trk.length]; simp
    refine codeAny_mono (code_fnX (C := upAct C) hG h.ok h.at' Rb (dC := dC + 1) ⟨?_, ?_⟩ (by omega) hd6 (ex := []) (exa := []) (fun _ => .nil) (fun X' hQ => h.bind (.ref (hh.objs.size + 1) :: vs) (by simp [hl, hn]) X' hQ) (hA.up cInfo vs) J (.cons hself ((hr.mono le1).mono le2)) (b := .dat .none) (st' := st') (by rw [List.append_nil]; exact hc)) fun r s' ⟨v, W', q, h1, h2, h3⟩ => ?_
    · show C.dep + 1 ≤ dC + 1; omega
    · show C.un + 4 ≤ 4 * (dC + 1); omega
    · subst q
      obtain rfl := rv_none h3
      exact ⟨rfl, W', (le1.trans le2).trans h1, h2.reAct rfl rfl rfl rfl, hself.mono h1⟩
  · cases hm
theorem ref_mkTop (hG : G.Ok) {x : Str} {F : FnS} {fI : Addr} {fd : FuncData} {n : Nat} (h : ClsMk G x cTop F fI fd n [.none]) {mb : AM AF} {d dC : Nat} (Rb : Body G F hq d mb) (hb0 : C.dep ≤ dC ∧ C.un ≤ 4 * dC) (hd : dC + 2 ≤ d) (hd6 : d ≤ 600)
    (hF : n + 1 = F.pars.length) (vs : List Value) (avs : List AV) (hl : vs.length = avs.length) : Ref G C hq (call (.ref cTop) vs) RV (mkTopA F mb avs) (vs.zip avs) := by
  intro kp pn W s st A hA I hΓ b st' hm
  unfold mkTopA at hm
  split at hm
  · rename_i st1 hc
    cases hm
    have hn : avs.length + 1 = n := by
      have := callA_len hc
      rw [List.length_append, List.length_cons, List.length_singleton] at this
      omega
    have hr := zip_rel' hl hΓ
    have X := hG.X.keeps I.base
    refine wpAny_call ?_
    obtain ⟨hh, g, dr, t, os⟩ := s
    obtain ⟨I1, le1⟩ := Inv.pushT (s' := ⟨hh.push emptyDict, g, dr, t, os⟩) I emptyDict (.atts []) rfl fun le => ⟨[], _, rfl, Nat.zero_le _, by
      show A2 _ [] (attNames.zip [])
      rw [List.zip_nil_right]; exact .nil⟩
    have hsz : (hh.push emptyDict).objs.size = hh.objs.size + 1 := Heap.size_push ..
    have hlen := I.trk.length
    obtain ⟨I2, le2⟩ := Inv.pushT (s' := ⟨(hh.push emptyDict).push (instObj cTop hh.objs.size), g, dr, t, os⟩) I1 (instObj cTop hh.objs.size) (.inst st.heap.length) rfl fun le => ⟨hh.objs.size, by
      apply le.sig
      show (W.sig ++ [hh.objs.size])[st.heap.length]? = _
      rw [← hlen]; simp, rfl⟩
    refine make_core (makes_of X h.mks) (looks_findIn X h.ini) (fun self => bind_fn X self h.ity) (.inl rfl) ?_
    have J := I2.reAct (C' := upAct C) rfl rfl rfl rfl
    have hself : RV ⟨W.sig ++ [hh.objs.size] ++ [(hh.push emptyDict).objs.size], W.frz⟩ (.ref (hh.objs.size + 1)) (.ref (st.heap.length + 1)) := by
      refine ⟨(hh.push emptyDict).objs.size, ?_, by rw [hsz]⟩
      show ((W.sig ++ [hh.objs.size]) ++ _)[st.heap.length + 1]? = _
      rw [List.getElem?_append_right (by rw [List.length_append, hlen]; exact Nat.le_refl _), List.length_append, hlen]
      simp
    refine codeAny_mono (code_fnX (C := upAct C) hG h.ok h.at' Rb (dC := dC + 1) ⟨?_, ?_⟩ (by omega) hd6 (ex := [.none]) (exa := [.dat .none]) (fun _ => .cons .none .nil) (fun X' hQ => h.bind (.ref (hh.objs.size + 1) :: vs) (by simp [hl, hn]) X' hQ) (hA.up cTop vs) J (.cons hself ((hr.mono le1).mono le2)) (b := .dat .none) (st' := st') hc) fun r s' ⟨v, W', q, h1, h2, h3⟩ => ?_
    · show C.dep + 1 ≤ dC + 1; omega
    · show C.un + 4 ≤ 4 * (dC + 1); omega
    · subst q
      obtain rfl := rv_none h3
      exact ⟨rfl, W', (le1.trans le2).trans h1, h2.reAct rfl rfl rfl rfl, hself.mono h1⟩
  · cases hm
end
end Mine

open PySem PySem.W PyProof.Rows PySem.Calls PySem.Spec
set_option Elab.async false
namespace Mine
set_option maxRecDepth 100000
section
variable {G : Gl} {C : Act} {hq : Bool}
theorem ref_CallMkI (hG : G.Ok) (hC : C.Ok) {x : Str} {p pos : Pos} {e : Expr} {rest : List Expr} {F : FnS} {ms : List (AM AV)} {mb : AM AF} {d dC n : Nat} (h : ∃ fI fd, ClsMk G x cInfo F fI fd n []) (hF : n = F.pars.length) (hk : C.env.kindOf x = some .globalImplicit) (Rb : Body G F hq d mb) (hb0 : C.dep ≤ dC ∧ C.un ≤ 4 * dC) (hd : dC + 2 ≤ d) (hd6 : d ≤ 600)
    (Ra : Ref G C hq (spliced (backTo pos (starEach (e :: rest) C.env))) RL (listA ms))
    (he : starEach (e :: rest) C.env = (false, eval e C.env) :: starEach rest C.env) (hp : (backTo pos (starEach rest C.env)).any (·.1) = false) :
    Ref G C hq (eval (.Call (.Name x p) (e :: rest) [] pos) C.env) RV ((listA ms).bind (mkInfoA F mb)) := by
  obtain ⟨fI, fd, h⟩ := h
  exact ref_Call hG (nm_global hG hC h.name hk h.nd) (cw_K h.keep) Ra (fun vs avs hl => ref_mkInfo hG h Rb hb0 hd hd6 hF vs avs hl) he hp
theorem ref_CallMkT0 (hG : G.Ok) (hC : C.Ok) {x : Str} {p pos : Pos} {F : FnS} {mb : AM AF} {d dC n : Nat} (h : ∃ fI fd, ClsMk G x cTop F fI fd n [.none]) (hF : n + 1 = F.pars.length) (hk : C.env.kindOf x = some .globalImplicit) (Rb : Body G F hq d mb) (hb0 : C.dep ≤ dC ∧ C.un ≤ 4 * dC) (hd : dC + 2 ≤ d) (hd6 : d ≤ 600) :
    Ref G C hq (eval (.Call (.Name x p) [] [] pos) C.env) RV (mkTopA F mb []) := by
  obtain ⟨fI, fd, h⟩ := h
  exact ref_Call0 hG (nm_global hG hC h.name hk h.nd) (cw_K h.keep) (ref_mkTop hG h Rb hb0 hd hd6 hF [] [] rfl)

/-! the values of a dict -/
noncomputable def dvaluesA : List AV → AM AV
  | [.ref r] => fun st => match st.heap[r]? with
    | some (.dict _) => some (.vals r, st)
    | some (.pdict _) => some (.vals r, st)
    | _ => none
  | _ => AM.fail
theorem ref_dict_values (hG : G.Ok) (vs : List Value) (avs : List AV) (hl : vs.length = avs.length) : Ref G C hq (call (.builtin "dict.values") vs) RV (dvaluesA avs) (vs.zip avs) := by
  intro kp pn W s st A hA I hΓ b st' hm
  have key : ∀ {r : Nat} {l : List (Int × AV)}, avs = [.ref r] → (st.heap[r]? = some (.dict l) ∨ st.heap[r]? = some (.pdict l)) → b = .vals r → st' = st →
      wpAny G.M A (call (.builtin "dict.values") vs) (fun a s' => ∃ W', W.le W' ∧ G.I C kp pn W' s' st' ∧ RV W' a b) (fun _ _ => False) s := by
    intro r l e hd hb hst
    subst e hb hst
    obtain ⟨v, rfl, a, ha, rfl⟩ := one_of hl hΓ
    obtain ⟨kvs, hD, hr⟩ := dict_at I ha hd
    refine call_meetsIn F.slot_dict_values hD.mapOf.typeIs F.entry_dict_values (F.args_dict_values_1 _) (meets_dict_values (intKind G.prog G.w) a (sys_ne hG I ha)) ⟨⟨kvs, hD⟩, ?_⟩
    obtain ⟨I', le⟩ := Inv.push (s' := { s with heap := s.heap.push { cls := .type "dict_values", data := .fields #[.ref a] } }) I { cls := .type "dict_values", data := .fields #[.ref a] } rfl
    exact ⟨_, le, I', a, _, ha, rfl, .head _⟩
  unfold dvaluesA at hm
  split at hm
  · split at hm
    · rename_i l hl'; cases hm; exact key rfl (.inl hl') rfl rfl
    · rename_i l hl'; cases hm; exact key rfl (.inr hl') rfl rfl
    · cases hm
  · exact (fail_some hm).elim

theorem steps_vals {pn : List (Addr × Obj)} {W₀ : WS} {d it : Addr} {o₀ : Obj} {kvs : List (Int × Value)} {es : Array DictEntry} {ep : Nat} {l : List (Int × AV)} (hm : (d, o₀) ∈ pn) (hd : o₀.ExactDict) (hda : o₀.data = .dict es ep) (hk : KeysOf (intKind G.prog G.w) es)
    (hp : Pairs (intKind G.prog G.w) es.toList kvs) (hn : (kvs.map (·.1)).Nodup) (hr : A2 (fun kv p => kv.1 = p.1 ∧ RV W₀ kv.2 p.2) kvs l) :
    Steps G C pn W₀ it (constSrc (l.map (·.2))) (fun o i => o.cls = .type "dict_valueiterator" ∧ o.data = .fields #[.ref d, .int i 0, .int kvs.length 0, .int ep 0]) where
  item := by
    intro i kp W s st A o l' av Q hA hW I hl hav ho hP k
    cases hl
    rw [List.getElem?_map] at hav
    obtain ⟨p, hp', rfl⟩ := Option.map_eq_some_iff.mp hav
    obtain ⟨kv, hkv, _, hrv⟩ := hr.get hp'
    refine wpAny_pyNext_values_item (knd := intKind G.prog G.w) (i := i) (k := kv.1) (v := kv.2) (kvs := kvs) (ep := ep) ⟨o, ho, hP.1, hP.2⟩ ⟨o₀, es, I.pin _ hm, hd, hda, hk, hp, hn⟩ hkv fun h' ⟨o', x1, x2, x3⟩ hs => ?_
    exact k _ h' s.toks o' (hrv.mono hW) x1 ⟨x2, x3⟩ hs
  fin := by
    intro i kp W s st A o l' Q hA hW I hl hav ho hP k
    cases hl
    rw [List.getElem?_eq_none_iff, List.length_map] at hav
    exact wpAny_pyNext_values_end (knd := intKind G.prog G.w) (i := i) (kvs := kvs) (ep := ep) (hA.hd rfl) ⟨o, ho, hP.1, hP.2⟩ ⟨o₀, es, I.pin _ hm, hd, hda, hk, hp, hn⟩ (List.getElem?_eq_none_iff.mpr (by rw [hr.length]; exact hav)) k
  self := fun ho hP h => wpAny_pyIter_valiter ⟨_, ho, hP.1, hP.2⟩ h
  obj := fun o i h => ⟨_, _, h.1, h.2, by decide⟩

/-- a list of a dict's values, the dict held fast meanwhile -/
noncomputable def compVA (n : Nat) (pat : List Bool) (mi : AM AV) (ta : AV → AM Unit) (mt : AM Bool) (ma : List AV → AM (List AV)) (fuel : Nat) : AM (List AV) := mi.bind fun av => match av with
  | .vals r => fun st => match st.heap[r]? with
    | some (.dict l) => match ctA (constSrc (l.map (·.2))) ta mt ma fuel 0 [] ⟨List.replicate n none ++ maskLoc pat st.loc, st.heap.set r (.pdict l)⟩ with
      | some (l', st') => match st'.heap[r]? with
        | some (.pdict l2) => some (l', ⟨st.loc, st'.heap.set r (.dict l2)⟩)
        | _ => none
      | none => none
    | _ => none
  | _ => AM.fail

theorem Fresh.unpin {kp pn : List (Addr × Obj)} {W : WS} {a : Addr} {p : Addr × Obj} (F : Fresh C kp (p :: pn) W a) : Fresh C kp pn W a := ⟨F.own, F.frz, F.kp, F.ups, fun q hq => F.pn q (.tail _ hq)⟩
theorem ref_CompV {elt t it : Expr} {ifs : List Expr} {scope : Scope} {pos : Pos} {cl : List (Str × Addr)} {xs names : List Str} {pat : List Bool} {mi : AM AV} {ta : AV → AM Unit} {mt : AM Bool} {me : AM AV} {fin : List AV → AM AV}
    (fuel : Nat) (hG : G.Ok) (hC : C.Ok) (hv : C.vars.map (·.1) = names) (hpat : C.vars.map (·.2.isSome) = pat) (hok : CompOk scope xs names) (hs : ∀ x, foldedSetIterable it C.env x = pure x) (hclos : closureFor scope C.env = pure cl)
    (hfin : FinOk G C fin) (Ri : Ref G C true (eval it C.env) RV mi)
    (Rin : ∀ L' oL, (compAct C xs scope cl L' oL).Ok → (∀ v av, Ref G (compAct C xs scope cl L' oL) true (assign t (compAct C xs scope cl L' oL).env v) RU (ta av) [(v, av)]) ∧
      Ref G (compAct C xs scope cl L' oL) true (testsT ifs (compAct C xs scope cl L' oL).env) RB mt ∧ Ref G (compAct C xs scope cl L' oL) true (eval elt (compAct C xs scope cl L' oL).env) RV me) :
    Ref G C true (eval (.ListComp elt [⟨t, it, ifs, 0⟩] scope pos) C.env) RV ((compVA xs.length pat mi ta mt (emitA me) fuel).bind fin) := by
  intro kp pn W s st A hA I _ b st' hm
  obtain ⟨l', st1, e1, e2⟩ := bind_some hm
  obtain ⟨av, st2, e3, e4⟩ := bind_some e1
  split at e4
  · rename_i r
    split at e4
    · rename_i l hl
      split at e4
      · rename_i l'' st3 e5
        split at e4
        · rename_i l2 hl2
          cases e4
          show wpAny G.M A (comprehension (.ListComp elt [⟨t, it, ifs, 0⟩] scope pos) scope C.env (firstIterPos [⟨t, it, ifs, 0⟩] pos) (newList []) false (eval it C.env) none) _ _ s
          refine wpAny_comprehension_free (cl := cl) rfl hs hclos hok.1 hok.2.1 (Ri.use0 hA I e3 fun v s1 W1 h1 h2 h3 => ?_)
          obtain ⟨a, bb, ha, rfl, hb⟩ := h3
          obtain ⟨a', ha', o, ho, kvs, ⟨es, ep, hx, hda, hk, hp, hn⟩, hd⟩ := h2.trk.get hl
          rw [ha] at ha'; cases ha'
          have I1 := h2.pinIt hl ha ho
          refine wpAny_pyIter_values (knd := intKind G.prog G.w) (kvs := kvs) (ep := ep) ⟨_, h2.frz _ hb, rfl, rfl⟩ ⟨o, es, ho, hx, hda, hk, hp, hn⟩ ?_
          have I2 : G.I C kp ((a, o) :: pn) W1 { s1 with heap := s1.heap.push { cls := .type "dict_valueiterator", data := .fields #[.ref a, .int 0 0, .int kvs.length 0, .int ep 0] } } ⟨st2.loc, st2.heap.set r (.pdict l)⟩ := I1.keep fun b o e => Heap.get?_push_of_some _ e
          refine comp_core (inner := fun acc env => eval elt env >>= fun x => call (.builtin "list.append") [.ref acc, x] >>= fun _ => pure ()) rfl hok.1 hok.2.1 hok.2.2.1 (fun _ _ _ => rfl) hC (comp_nd hv hok.2.2.2) hpat
            (fun L' oL h => ⟨(Rin L' oL h).1, (Rin L' oL h).2.1, fun acc => cstep_emit (C := compAct C xs scope cl L' oL) (Rin L' oL h).2.2⟩) hA I2 (fun _ => steps_vals (.head _) hx hda hk hp hn hd) (Inv.base_lt h2) (Heap.get?_push_size _ rfl) ⟨rfl, rfl⟩ (Fresh.new I1) e5
            fun acc s' W' L' q1 q2 q3 q4 q5 q6 ⟨m, q7⟩ => ?_
          have hfree : ∀ p ∈ pn, p.1 ≠ a := fun p hp => (h2.sepp p hp).2 r a _ ha hl rfl
          have J := q2.unpinIt hl2 (q1.sig _ _ ha) hfree
          obtain ⟨W2, k1, k2, k3, k4⟩ := hfin J ⟨q3.at', q3.fresh.unpin, q3.old⟩ q4.unpin q5 e2
          exact ⟨m, q7, fun h' hs' => ⟨W2, (h1.trans q1).trans k1, Inv.stepIt (s' := { s' with heap := h' }) k2 k4 hs'.extBut q6, k3⟩⟩
        · cases e4
      · cases e4
    · cases e4
  · exact (fail_some e4).elim
end
end Mine

open PySem PySem.W PyProof.Rows PySem.Calls PySem.Spec
set_option Elab.async false
namespace Mine
set_option maxRecDepth 100000
section
variable {G : Gl} {C : Act} {hq : Bool}
noncomputable def negA : AV → AM AV
  | .dat (.int i) => AM.pure (.dat (.int (-i)))
  | _ => AM.fail
theorem ref_USub {e : Expr} {pos : Pos} {m : AM AV} (R : Ref G C hq (eval e C.env) RV m) : Ref G C hq (eval (.UnaryOp .USub e pos) C.env) RV (m.bind negA) := by
  intro kp pn W s st A hA I _ b st' hm
  obtain ⟨a, st1, e1, e2⟩ := bind_some hm
  refine wpAny_UnaryOp (R.use0 hA I e1 fun v s1 W1 h1 h2 h3 => ?_)
  unfold negA at e2
  split at e2
  · obtain ⟨rfl, rfl⟩ := pure_some e2
    obtain ⟨t, rfl⟩ := rv_int h3
    exact PyProof.Rows.neg_int ⟨W1, h1, Inv.toks h2, .int _ _⟩
  · exact (fail_some e2).elim
noncomputable def smulA : AV → AV → AM AV
  | .dat (.str x), .dat (.int n) => fun st => if x.length < 9 ∧ 0 ≤ n ∧ n < 100 then some (.dat (.str (Txt.mul x n)), st) else none
  | _, _ => AM.fail
theorem mul_ok {x : Str} {n : Int} (h1 : x.length < 9) (h2 : 0 ≤ n) (h3 : n < 100) : MulOk x n := by
  have hb : (x.length : Int) * n ≤ 9 * 100 := Int.mul_le_mul (by omega) (by omega) (by omega) (by omega)
  refine ⟨by simp; omega, fun hn _ hgt => ?_, fun hn _ => ?_⟩
  · have : (x.length : Int) ≤ (2 ^ 63 - 1) / n := (Int.le_ediv_iff_mul_le (by omega)).mpr (by omega)
    omega
  · have h4 : x.length * n.toNat ≤ 9 * 100 := Nat.mul_le_mul (by omega) (by omega)
    unfold Builtin.Str.tooLong
    rw [sizeLine_eq]
    simp
    omega
theorem ref_mul {v1 v2 : Value} {a1 a2 : AV} : Ref G C hq (binaryOp .Mult v1 v2) RV (smulA a1 a2) [(v1, a1), (v2, a2)] := by
  intro kp pn W s st A hA I hΓ b st' hm
  have r1 : RV W v1 a1 := hΓ _ (.head _)
  have r2 : RV W v2 a2 := hΓ _ (.tail _ (.head _))
  unfold smulA at hm
  split at hm
  · split at hm
    · rename_i hc
      cases hm
      obtain ⟨t, rfl⟩ := rv_str r1
      obtain ⟨u, rfl⟩ := rv_int r2
      exact SB.mul (mul_ok hc.1 hc.2.1 hc.2.2) fun t' k => ⟨W, .refl _, Inv.toks I, .str _ _⟩
    · cases hm
  · exact (fail_some hm).elim
end
end Mine

open PySem PySem.W PyProof.Rows PySem.Calls PySem.Spec
set_option Elab.async false
namespace Mine
set_option maxRecDepth 100000
section
variable {G : Gl} {C : Act} {hq : Bool}
/-- nothing that was there changes, told one by one -/
theorem Inv.keepN {kp pn : List (Addr × Obj)} {W : WS} {s : Shared} {st : St} (I : G.I C kp pn W s st) {m : Str → Option Value} (hl : Loc C W m st.loc) {h' : Heap} (F' : Fr G.h₀ C.L h' m) (N' : News G.h₀ C.L h' (othersOf G.h₀ s.heap C.L C.L)) (tk : Nat) :
    G.I C kp pn W { s with heap := h', toks := tk } st := by
  have hs : ∀ b o, b ≠ C.L → s.heap.get? b = some o → h'.get? b = some o := fun b o hL e => by
    cases q : G.h₀.get? b with
    | some x =>
      have := I.base b x q
      rw [e] at this; cases this
      exact F'.keep b _ q
    | none => exact (N' (b, o) (mem_others.mpr ⟨e, hL, hL, q⟩)).1
  have nL : ∀ {b : Addr}, b ∈ W.sig → b ≠ C.L := fun hb e => (List.nodup_append.mp I.apart).2.2 C.L (.head _) _ hb e.symm
  have sL := I.sep C.L (List.mem_append_left _ (.head _))
  exact ⟨F'.keep, ⟨m, F'.ns, hl⟩, I.trk.mono' fun a ha ao ⟨o, x1, x2⟩ => ⟨o, hs _ _ (nL ha) x1, x2⟩, fun p hp => hs _ _ (sL.1 p hp) (I.frz p hp), fun p hp => hs _ _ (sL.2.1 p hp) (I.kept p hp),
    fun p hp => let ⟨sl, h⟩ := I.ups p hp; ⟨sl, hs _ _ (sL.2.2 p hp) h⟩, I.apart, I.old, I.sep, I.fk, I.fu, I.upp, fun p hp => hs _ _ ((I.sepp p hp).1 _ (.head _)) (I.pin p hp), I.sepp, I.gens, I.os⟩
theorem Inv.newsAll {kp pn : List (Addr × Obj)} {W : WS} {s : Shared} {st : St} (_I : G.I C kp pn W s st) : News G.h₀ C.L s.heap (othersOf G.h₀ s.heap C.L C.L) := by
  rintro ⟨a', o'⟩ hp
  obtain ⟨h1, h2, h3, h4⟩ := mem_others.mp hp
  exact ⟨h1, h3, h4⟩
theorem ints_of {frz : List (Addr × Obj)} {vs : List Value} {ns : List Int} (h : IntsAre vs ns) : RDs frz vs (ns.map .int) := by
  induction h with
  | nil => exact .nil
  | cons n t _ ih => exact .cons (.int n t) ih
theorem ints_back {frz : List (Addr × Obj)} {vs : List Value} {ns : List Int} (h : RDs frz vs (ns.map .int)) : IntsAre vs ns := by
  induction vs generalizing ns with
  | nil =>
    cases ns with
    | nil => exact .nil
    | cons n ns => cases h
  | cons v vs ih =>
    cases ns with
    | nil => cases h
    | cons n ns =>
      cases h with
      | cons h1 h2 => cases h1; exact .cons _ _ (ih h2)

/-- the script: a list of numbers of the base heap -/
structure ScriptOk (G : Gl) (D : Addr) (ns : List Int) : Prop where
  is : ∃ vs : List Value, G.h₀.IsList D vs.toArray ∧ IntsAre vs ns
  len : ns.length ≤ 63
noncomputable def intOf : AV → Option Int
  | .dat (.int i) => some i
  | _ => none
noncomputable def pickA (ns : List Int) (a b c : AV) : AM AV := match intOf a, intOf b, intOf c with
  | some i, some j, some k => if k ≠ 0 ∧ (pickNums ns (some i) (some j) (some k)).length < 100 then AM.pure (.dat (.list ((pickNums ns (some i) (some j) (some k)).map .int))) else AM.fail
  | _, _, _ => AM.fail
theorem rv_intOf {W : WS} {v : Value} {a : AV} {i : Int} (h : RV W v a) (e : intOf a = some i) : ∃ t, v = .int i t := by
  unfold intOf at e
  split at e
  · cases e; exact rv_int h
  · cases e
theorem ref_ScriptSlice {D : Addr} {ns : List Int} (hS : ScriptOk G D ns) {v a b c : Expr} {p pos : Pos} {mv ma mb mc : AM AV} (Rv : Ref G C hq (eval v C.env) RV mv) (Ra : Ref G C hq (eval a C.env) RV ma) (Rb : Ref G C hq (eval b C.env) RV mb) (Rc : Ref G C hq (eval c C.env) RV mc) :
    Ref G C hq (eval (.Subscript v (.Slice (some a) (some b) (some c) p) pos) C.env) RV (mv.bind fun av => ma.bind fun x => mb.bind fun y => mc.bind fun z => match av with
      | .ext D' => if D' = D then pickA ns x y z else AM.fail
      | _ => AM.fail) := by
  intro kp pn W s st A hA I _ r st' hm
  obtain ⟨av, st1, e1, hm1⟩ := bind_some hm
  obtain ⟨x, st2, e2, hm2⟩ := bind_some hm1
  obtain ⟨y, st3, e3, hm3⟩ := bind_some hm2
  obtain ⟨z, st4, e4, hm4⟩ := bind_some hm3
  clear hm hm1 hm2 hm3
  have hm := hm4
  clear hm4
  refine Subscript_ (Rv.use0 hA I e1 fun vv s1 W1 h1 i1 r1 => wpAny_Slice (Ra.use0 hA i1 e2 fun va s2 W2 h2 i2 r2 => ?_))
  rw [evalPart_some]
  refine Rb.use0 hA i2 e3 fun vb s3 W3 h3 i3 r3 => ?_
  rw [evalPart_some]
  refine Rc.use0 hA i3 e4 fun vc s4 W4 h4 i4 r4 => ?_
  have r1 := ((r1.mono h2).mono h3).mono h4
  have r2 := (r2.mono h3).mono h4
  have r3 := r3.mono h4
  cases av with
  | ext D' =>
    dsimp only at hm
    by_cases hD : D' = D
    · rw [if_pos hD] at hm
      subst hD
      obtain rfl : vv = .ref D' := r1
      unfold pickA at hm
      cases hx : intOf x with
      | none => rw [hx] at hm; exact (fail_some hm).elim
      | some i =>
      cases hy : intOf y with
      | none => rw [hx, hy] at hm; exact (fail_some hm).elim
      | some j =>
      cases hz : intOf z with
      | none => rw [hx, hy, hz] at hm; exact (fail_some hm).elim
      | some k =>
      rw [hx, hy, hz] at hm
      dsimp only at hm
      by_cases hk : k ≠ 0 ∧ (pickNums ns (some i) (some j) (some k)).length < 100
      · rw [if_pos hk] at hm
        obtain ⟨rfl, rfl⟩ := pure_some hm
        obtain ⟨t1, rfl⟩ := rv_intOf r2 hx
        obtain ⟨t2, rfl⟩ := rv_intOf r3 hy
        obtain ⟨t3, rfl⟩ := rv_intOf r4 hz
        obtain ⟨vs, hl, hi⟩ := hS.is
        have hl4 : s4.heap.IsList D' vs.toArray := by
          obtain ⟨o, ho, hr⟩ := hl
          exact ⟨o, i4.base _ _ ho, hr⟩
        have hlp := hl4.push { cls := .type "slice", data := .fields #[.int i t1, .int j t2, .int k t3] }
        have I5 : G.I C kp pn W4 { s4 with heap := s4.heap.push { cls := .type "slice", data := .fields #[.int i t1, .int j t2, .int k t3] } } st' := Inv.keep i4 fun b o e => Heap.get?_push_of_some _ e
        have hsz : vs.toArray.size ≤ sizeLine := sz1000 (by rw [List.size_toArray, hi.length]; have := hS.len; omega)
        refine GetOk.tail ⟨_, _, hlp.typeIs, list_getitem_lookup, wpAny_getItem_list_slice hlp (Heap.IsSliceOf.new ..) (.int i t1) (.int j t2) (.int k t3) (by simpa using hk.1) ?_ hsz⟩
        obtain ⟨I6, le⟩ := Inv.push (s' := { s4 with heap := (s4.heap.push { cls := .type "slice", data := .fields #[.int i t1, .int j t2, .int k t3] }).push { cls := .type "list", data := .seq (slicePick vs.toArray (some i) (some j) (some k)) } }) I5 { cls := .type "list", data := .seq (slicePick vs.toArray (some i) (some j) (some k)) } rfl
        exact ⟨_, (((h1.trans h2).trans h3).trans h4).trans le, I6, .list (.head _) (ints_of (hi.pick _ _ _))⟩
      · rw [if_neg hk] at hm; exact (fail_some hm).elim
    · rw [if_neg hD] at hm; exact (fail_some hm).elim
  | _ => exact (fail_some hm).elim

noncomputable def intsA : List PyData → Option (List Int)
  | [] => some []
  | .int i :: r => match intsA r with
    | some l => some (i :: l)
    | none => none
  | _ :: _ => none
theorem intsA_map : ∀ {ds : List PyData} {ns : List Int}, intsA ds = some ns → ds = ns.map .int
  | [], ns, h => by cases h; rfl
  | d :: r, ns, h => by
    cases d with
    | int i =>
      simp only [intsA] at h
      split at h
      · rename_i l e; cases h; rw [intsA_map e]; rfl
      · cases h
    | _ => cases h
noncomputable def sumA : List AV → AM AV
  | [.dat (.list ds)] => match intsA ds with
    | some ns => AM.pure (.dat (.int ns.sum))
    | none => AM.fail
  | _ => AM.fail
theorem ref_sum (vs : List Value) (avs : List AV) (hl : vs.length = avs.length) : Ref G C true (call (.builtin "sum") vs) RV (sumA avs) (vs.zip avs) := by
  intro kp pn W s st A hA I hΓ b st' hm
  unfold sumA at hm
  split at hm
  · rename_i ds
    cases hd : intsA ds with
    | none => rw [hd] at hm; exact (fail_some hm).elim
    | some ns =>
      rw [hd] at hm
      obtain ⟨rfl, rfl⟩ := pure_some hm
      obtain ⟨v, rfl, r1⟩ := one_of hl hΓ
      obtain ⟨a, vs, n, rfl, h1, h2⟩ := rv_list r1
      obtain ⟨m, hn, hloc⟩ := I.ns
      rw [intsA_map hd] at h2
      refine LSm.sum_ints (I.fr hn) I.newsAll (hA.hd rfl) ⟨_, I.frz _ h1, rfl, n, by simp⟩ (ints_back h2) fun h' tk t' F' N' => ⟨W, .refl _, Inv.keepN I hloc F' N' tk, .int _ _⟩
  · exact (fail_some hm).elim
end
end Mine

open PySem PySem.W PyProof.Rows PySem.Calls PySem.Spec
set_option Elab.async false
namespace Mine
set_option maxRecDepth 100000
section
variable {prog : Program} {w : World} {A : Around} {E : Value → Shared → Prop} {s : Shared}
theorem pyNext_genQ {a : Addr} {g n : Nat} {gs : GenState} {P : Nat → Shared → Shared → Prop} {Y : Protocol} {Q : Option Value → Shared → Prop} (hh : A.handled = none)
    (hl : s.heap.NoLimit) (hroom : A.depth < recursionLimit) (hg : s.heap.IsGen a g) (hgs : s.gens[g]? = some gs)
    (hgo : gs.Goes (model prog w) A.in1 (fun n s₀ r s₁ => r = .ok (.ret .none) ∧ P n s₀ s₁) Y n (.send .none) (s.setGen g .running))
    (hY : ∀ v s₁ gs', gs'.bare = true → Y (n - 1) (s.setGen g .running) v s₁ (fun r' s'' => match n with
        | 0 => False
        | m + 1 => gs'.Goes (model prog w) A.in1 (fun n s₀ r s₁ => r = .ok (.ret .none) ∧ P n s₀ s₁) Y m r' s'') → Q (some v) (s₁.setGen g gs'))
    (hP : ∀ s₁, P n (s.setGen g .running) s₁ → ∀ h', (∀ b o, s₁.heap.get? b = some o → h'.get? b = some o) → Q none { s₁.setGen g .finished with heap := h' }) :
    wpAny (model prog w) A (pyNext (.ref a)) Q E s := by
  unfold pyNext
  refine wpAny_bind (wpAny_attempt (wpAny_callSpecial?_slot (name := Str.ofString "__next__") hg.typeIs slot_gen_next (wpAny_call_entry slot_gen_next hg.typeIs entry_gen_next ?_ (args_gen_next _))))
  show wpAny _ A.in1 (Builtin.Generator.genWake (.ref a) (.send .none)) _ _ s
  unfold Builtin.Generator.genWake
  refine wpAny_bind (wpAny_holding (wpAny_genNumber hg (wpAny_bind (wpAny_genState hgs ?_))))
  cases gs with
  | running => exact hgo.elim
  | finished => exact hgo.elim
  | _ =>
    refine wpAny_bind (wpAny_roomToWake hl hroom ?_)
    show wpAny _ A.in1 (.resume g (.send .none) [] _) _ _ s
    refine wpAny_resumeQ hgs hgo (fun x s₁ hx => ?_) (fun v s₁ gs' hb hv => ?_)
    · obtain ⟨rfl, hp⟩ := hx
      show wpAny _ A.in1 (newExc (.type "StopIteration") [] >>= _) _ _ _
      refine wpAny_bind ?_
      simp only [newExc, newTuple]
      refine wpAny_bind (wpAny_newObj_type ?_ (by size_fits))
      refine wpAny_bind (m := firstArgMember _ _) (wpAny_of_eq (a := Value.none) (by first | rfl | (simp only [firstArgMember]; rfl)) ?_)
      refine wpAny_newObj_type ?_ (by size_fits)
      simp only [raiseNew]
      refine wpAny_bind (wpAny_bind (wpAny_handled ?_))
      first | rw [show A.in1.handled = none from hh] | rw [hh]
      refine wpAny_throw ?_
      refine wpAny_bind (wpAny_isInstance (T := "StopIteration") (b := true) ⟨_, Heap.get?_push_size _ rfl, rfl⟩ isSubtype_stop ?_)
      exact wpAny_pure (hP s₁ hp _ fun b o hb => Heap.get?_push_of_some _ (Heap.get?_push_of_some _ hb))
    · exact wpAny_pure ⟨v, rfl, wpAny_pure (hY v s₁ gs' hb hv)⟩
end

noncomputable def strLoc (loc : List (Option AV)) : Bool := loc.all fun o => match o with
  | none => true
  | some (.dat (.str _)) => true
  | _ => false
noncomputable def allBut (h : Heap) (L : Addr) : List (Addr × Obj) := (List.range h.objs.size).filterMap fun a => if a = L then none else (h.get? a).map fun o => (a, o)
theorem mem_allBut {h : Heap} {L a : Addr} {o : Obj} : (a, o) ∈ allBut h L ↔ h.get? a = some o ∧ a ≠ L := by
  unfold allBut
  rw [List.mem_filterMap]
  constructor
  · rintro ⟨b, hb, e⟩
    split at e
    · cases e
    · rename_i hn
      obtain ⟨o', ho, e'⟩ := Option.map_eq_some_iff.mp e
      cases e'
      exact ⟨ho, hn⟩
  · rintro ⟨h1, h2⟩
    exact ⟨a, List.mem_range.mpr (Heap.lt_size h1), by rw [if_neg h2, h1]; rfl⟩

/-- what a sleeping generator knows: its own names, all texts -/
structure Sleeps (G : Gl) (C : Act) (s : Shared) (loc : List (Option AV)) : Prop where
  base : G.h₀.StaysIn s.heap
  str : strLoc loc = true
  ns : ∃ m, s.heap.Ns C.L m ∧ Loc C ⟨[], []⟩ m loc
section
variable {G : Gl} {C : Act}
theorem Sleeps.of {kp pn : List (Addr × Obj)} {W : WS} {s : Shared} {st : St} (I : G.I C kp pn W s st) (h : strLoc st.loc = true) : Sleeps G C s st.loc := by
  obtain ⟨m, hn, hl⟩ := I.ns
  refine ⟨I.base, h, m, hn, fun i x oc hv av ha => ?_⟩
  have hs := (List.all_eq_true.mp h) _ (List.mem_of_getElem? ha)
  have z := hl i x oc hv av ha
  split at hs
  · rename_i e; cases e
  · rename_i y e
    cases e
    cases oc with
    | none =>
      obtain ⟨v, hr, hm⟩ := z
      obtain ⟨t, rfl⟩ := rv_str hr
      exact ⟨_, .str _ _, hm⟩
    | some c => obtain ⟨r, e, _⟩ := z; cases e
  · cases hs
theorem Sleeps.agree {s s' : Shared} {loc : List (Option AV)} (F : Sleeps G C s loc) (h : ∀ b ∈ C.L :: List.range G.h₀.objs.size, ∀ o, s.heap.get? b = some o → s'.heap.get? b = some o) : Sleeps G C s' loc := by
  obtain ⟨b, st, m, ⟨o, es, ep, h1, h2⟩, hl⟩ := F
  exact ⟨fun a o e => h a (.tail _ (List.mem_range.mpr (Heap.lt_size e))) o (b a o e), st, m, ⟨o, es, ep, h _ (.head _) _ h1, h2⟩, hl⟩
theorem Sleeps.wake {s : Shared} {loc : List (Option AV)} (F : Sleeps G C s loc) (hL : G.h₀.objs.size ≤ C.L) (hu : C.ups = []) (hb : AllBare s.gens) (hg : C.gn ≤ s.gens.size) (ho : (s.os, s.drawn) = G.os) :
    G.I C (allBut s.heap C.L) [] ⟨[], []⟩ s ⟨loc, []⟩ := by
  have hown : ∀ a ∈ C.own ++ (⟨[], []⟩ : WS).sig, a = C.L := fun a ha => by simpa [Act.own] using ha
  exact {
    base := F.base
    ns := F.ns
    trk := .nil
    frz := fun _ h => nomatch h
    kept := fun p hp => (mem_allBut.mp (show (p.1, p.2) ∈ _ from hp)).1
    ups := fun p hp => by rw [hu] at hp; cases hp
    apart := by simp [Act.own]
    old := fun a ha => by rw [hown a ha]; exact hL
    sep := fun a ha => ⟨fun _ h => (nomatch h), fun p hp => by rw [hown a ha]; exact (mem_allBut.mp (show (p.1, p.2) ∈ _ from hp)).2, fun p hp => by rw [hu] at hp; cases hp⟩
    fk := fun _ h => nomatch h
    fu := fun _ h => nomatch h
    upp := fun p hp => by rw [hu] at hp; cases hp
    pin := fun _ h => nomatch h
    sepp := fun _ h => nomatch h
    gens := ⟨hb, hg⟩
    os := ho }
theorem since_of {W : WS} {s₀ s : Shared} {st : St} (I : G.I C (allBut s₀.heap C.L) [] W s st) : ∀ b o, b ≠ C.L → s₀.heap.get? b = some o → s.heap.get? b = some o := fun b o hb e => I.kept (b, o) (mem_allBut.mpr ⟨e, hb⟩)

noncomputable def genL (mt : AM Bool) (my : AM AV) (m3 : AM AF) : Nat → St → Option (List Str)
  | 0, _ => none
  | n + 1, st => match mt st with
    | some (false, _) => some []
    | some (true, st1) => match my st1 with
      | some (.dat (.str x), st2) => match m3 ⟨st2.loc, []⟩ with
        | some (.next, st3) => if strLoc st2.loc then (genL mt my m3 n st3).map (x :: ·) else none
        | _ => none
      | _ => none
    | none => none

noncomputable def GR (G : Gl) (C : Act) : GenEnd := fun n s₀ r s₁ => r = .ok (.ret .none) ∧ (n = 0 ∧ (∀ b o, b ≠ C.L → s₀.heap.get? b = some o → s₁.heap.get? b = some o) ∧ AllBare s₁.gens ∧ C.gn ≤ s₁.gens.size ∧ (s₁.os, s₁.drawn) = G.os)
noncomputable def GY (G : Gl) (C : Act) (ts : List Str) : Protocol := fun n s₀ v s₁ kap => (∃ x t, ts[ts.length - 1 - n]? = some x ∧ v = .str x t) ∧ (∀ b o, b ≠ C.L → s₀.heap.get? b = some o → s₁.heap.get? b = some o) ∧ AllBare s₁.gens ∧ C.gn ≤ s₁.gens.size ∧ (s₁.os, s₁.drawn) = G.os ∧ G.h₀.StaysIn s₁.heap ∧
  ∀ s'' : Shared, (∀ b ∈ C.L :: List.range G.h₀.objs.size, ∀ o, s₁.heap.get? b = some o → s''.heap.get? b = some o) → AllBare s''.gens → C.gn ≤ s''.gens.size → (s''.os, s''.drawn) = G.os → kap (.send .none) s''

theorem seg_gloop {t e : Expr} {S3 : Stmt} {yp p1 : Pos} {mt : AM Bool} {my : AM AV} {m3 : AM AF} (hL : G.h₀.objs.size ≤ C.L) (hu : C.ups = []) (hco : C.env.scope.isCoroutine = false) (hi : interactive C.env = false)
    (Rt : Ref G C true (isTrue t C.env (eval t C.env)) RB mt) (Ry : Ref G C true (eval e C.env) RV my) (R3 : Ref G C true (exec S3 C.env) RF m3)
    {A : Around} {fs : List Frame} (hA : AOk C true (A.over (.whileLoop t [.Expr (.Yield (some e) yp) p1, S3] [] C.env) fs)) (hfs : splitAtGen fs = none) (hfg : fs.any Frame.guarded = false) {ts : List Str}
    (fin : ∀ s₀ s, GR G C 0 s₀ (.ok (.ret .none)) s → Seg G.M A (GR G C) (GY G C ts) 0 s₀ (.whileLoop t [.Expr (.Yield (some e) yp) p1, S3] [] C.env) (.pure (.done .next)) fs s) :
    ∀ (k : Nat) (s₀ s : Shared) (W : WS) (st : St) (xs pre : List Str), genL mt my m3 k st = some xs → ts = pre ++ xs → G.I C (allBut s₀.heap C.L) [] W s st →
      Seg G.M A (GR G C) (GY G C ts) xs.length s₀ (.whileLoop t [.Expr (.Yield (some e) yp) p1, S3] [] C.env) (G.M.den (.whileLoop t [.Expr (.Yield (some e) yp) p1, S3] [] C.env)) fs s := by
  intro k
  induction k with
  | zero => intro s₀ s W st xs pre hm; cases hm
  | succ k ih =>
    intro s₀ s W st xs pre hm hts I
    simp only [genL] at hm
    split at hm
    · rename_i st1 e1
      cases hm
      refine seg_whileLoop (Rt.use0 hA I e1 fun b s1 W1 h1 h2 h3 => ?_)
      obtain rfl := h3
      rw [if_neg Bool.false_ne_true]
      refine seg_execs_nil ?_
      exact fin s₀ s1 ⟨rfl, rfl, since_of h2, h2.gens.1, h2.gens.2, h2.os⟩
    · rename_i st1 e1
      split at hm
      · rename_i x st2 e2
        split at hm
        · rename_i st3 e3
          split at hm
          · rename_i hstr
            obtain ⟨xs', e4, rfl⟩ := Option.map_eq_some_iff.mp hm
            refine seg_whileLoop (Rt.use0 hA I e1 fun b s1 W1 h1 h2 h3 => ?_)
            obtain rfl := h3
            rw [if_pos rfl]
            refine seg_execs_cons ?_
            rw [List.length_cons]
            refine seg_Expr_Yield hfs rfl hfg (Ry.use0 hA h2 e2 fun v s2 W2 k1 k2 k3 kap hk => ?_) hco hi
            obtain ⟨tk, rfl⟩ := rv_str k3
            refine ⟨⟨x, tk, ?_, rfl⟩, since_of k2, k2.gens.1, k2.gens.2, k2.os, k2.base, fun s'' ha hb hg ho => hk .none s'' ?_⟩
            · subst hts
              rw [List.length_append, List.length_cons, List.getElem?_append_right (by omega)]
              rw [show pre.length + (xs'.length + 1) - 1 - xs'.length - pre.length = 0 from by omega]
              rfl
            · have F := (Sleeps.of k2 hstr).agree ha
              have J := F.wake hL hu hb hg ho
              refine seg_execs_cons (seg_wrap (R3.use0 hA J e3 fun f s3 W3 j1 j2 j3 => ?_))
              cases f <;> simp only [RF] at j3
              refine seg_execs_nil (seg_again rfl ?_)
              exact ih s'' s3 W3 st3 xs' (pre ++ [x]) e4 (by rw [hts]; simp) j2
          · cases hm
        · cases hm
      · cases hm
    · cases hm
end
end Mine

open PySem PySem.W PyProof.Rows PySem.Calls PySem.Spec
set_option Elab.async false
namespace Mine
set_option maxRecDepth 100000
section
variable {G : Gl} {C : Act}

noncomputable def genF (m1 : AM AF) (mt : AM Bool) (my : AM AV) (m3 : AM AF) (fuel : Nat) (st : St) : Option (List Str) := match m1 st with
  | some (.next, st1) => genL mt my m3 fuel st1
  | _ => none

theorem seg_gfun {t e : Expr} {S1 S3 : Stmt} {yp p1 p2 : Pos} {m1 : AM AF} {mt : AM Bool} {my : AM AV} {m3 : AM AF} {fuel : Nat} {l : List Env} (hL : G.h₀.objs.size ≤ C.L) (hu : C.ups = []) (hco : C.env.scope.isCoroutine = false) (hi : interactive C.env = false)
    (R1 : Ref G C true (exec S1 C.env) RF m1) (Rt : Ref G C true (isTrue t C.env (eval t C.env)) RB mt) (Ry : Ref G C true (eval e C.env) RV my) (R3 : Ref G C true (exec S3 C.env) RF m3)
    {A : Around} (hh : A.handled = none) (hf : A.frames = some l) (hl : C.envs = C.env :: l) (hd : A.depth + 1 ≤ C.dep) (hun : A.units + 4 ≤ C.un) (hgn0 : C.gn ≠ 0) {ts : List Str} {s : Shared} {loc : List (Option AV)} (F : Sleeps G C s loc)
    (hb : AllBare s.gens) (hg : C.gn ≤ s.gens.size) (ho : (s.os, s.drawn) = G.os) (hm : genF m1 mt my m3 fuel ⟨loc, []⟩ = some ts) :
    Seg G.M A (GR G C) (GY G C ts) ts.length s (.func [S1, .While t [.Expr (.Yield (some e) yp) p1, S3] [] p2] C.env) (G.M.den (.func [S1, .While t [.Expr (.Yield (some e) yp) p1, S3] [] p2] C.env)) [] s := by
  have I := F.wake hL hu hb hg ho
  unfold genF at hm
  split at hm
  · rename_i st1 e1
    have hA1 : AOk C true (A.over (.func [S1, .While t [.Expr (.Yield (some e) yp) p1, S3] [] p2] C.env) []) := by
      refine ⟨?_, ?_, ?_, (fun _ => hh), fun h0 => (hgn0 h0).elim⟩
      · show pushEnvs [C.env] (pushEnvs [] A.frames) = some C.envs
        rw [hf, hl]; rfl
      · show A.depth + 0 + 1 ≤ C.dep; omega
      · show A.units + 0 + 3 ≤ C.un; omega
    refine seg_func (seg_execs_cons (seg_wrap (R1.use0 hA1 I e1 fun f s1 W1 h1 h2 h3 => ?_)))
    cases f <;> simp only [RF] at h3
    refine seg_execs_cons (seg_While fun p => ?_)
    refine seg_gloop hL hu hco hi Rt Ry R3 ?_ rfl rfl (fun s₀ s2 hr => ?_) fuel s s1 W1 st1 ts [] hm rfl h2
    · refine ⟨?_, ?_, ?_, (fun _ => hh), fun h0 => (hgn0 h0).elim⟩
      · show pushEnvs [] (pushEnvs [C.env] A.frames) = some C.envs
        rw [hf, hl]; rfl
      · show A.depth + 1 + 0 ≤ C.dep; omega
      · show A.units + _ + _ ≤ C.un
        have : unitsOf [((Code.func [S1, .While t [.Expr (.Yield (some e) yp) p1, S3] [] p2] C.env), p)] = 3 := rfl
        have h0 : (Code.whileLoop t [.Expr (.Yield (some e) yp) p1, S3] [] C.env).cUnits = 0 := rfl
        simp only [List.map] 
        show A.units + unitsOf [((Code.func [S1, .While t [.Expr (.Yield (some e) yp) p1, S3] [] p2] C.env), p)] + (Code.whileLoop t [.Expr (.Yield (some e) yp) p1, S3] [] C.env).cUnits ≤ C.un
        omega
    · refine seg_leaf (.ok .next) ?_
      exact seg_end (.ok (.ret .none)) hr
  · cases hm

/-- the generator's object and what it will give -/
noncomputable def GSt (G : Gl) (C : Act) (A : Around) (a : Addr) (g : Nat) (ts : List Str) (j : Nat) (s : Shared) : Prop :=
  s.heap.IsGen a g ∧ G.h₀.StaysIn s.heap ∧ AllBare s.gens ∧ C.gn ≤ s.gens.size ∧ (s.os, s.drawn) = G.os ∧ ∃ gs, s.gens[g]? = some gs ∧
    ∀ s'' : Shared, (∀ b ∈ C.L :: List.range G.h₀.objs.size, ∀ o, s.heap.get? b = some o → s''.heap.get? b = some o) → AllBare s''.gens → C.gn ≤ s''.gens.size → (s''.os, s''.drawn) = G.os →
      gs.Goes G.M A.in1 (GR G C) (GY G C ts) (ts.length - j) (.send .none) s''
theorem bare_set {s : Shared} {g : Nat} {x : GenState} (h : AllBare s.gens) (hx : x.bare = true) : AllBare (s.setGen g x).gens := by
  intro y hy
  obtain ⟨i, hi, e⟩ := Array.mem_iff_getElem.mp hy
  have h1 : (s.gens.setIfInBounds g x)[i]? = some y := by
    rw [Array.getElem?_eq_getElem (by simpa [Shared.setGen] using hi)]
    exact congrArg some e
  rw [Array.getElem?_setIfInBounds] at h1
  split at h1
  · split at h1
    · cases h1; exact hx
    · cases h1
  · exact h _ (Array.mem_of_getElem? h1)
theorem size_set {s : Shared} {g : Nat} {x : GenState} : (s.setGen g x).gens.size = s.gens.size := by simp [Shared.setGen]
theorem walks_gen (hG : G.Ok) {A : Around} {a : Addr} {g : Nat} {ts : List Str} (hh : A.handled = none) (hroom : A.depth < recursionLimit) (haL : a ≠ C.L) (hgn : C.gn = g + 1) :
    WalksS G.prog G.w A a (a :: C.L :: List.range G.h₀.objs.size) [C.L] (fun x y => AllBare x ∧ C.gn ≤ x.size → AllBare y ∧ C.gn ≤ y.size) ts.length (fun j v => ∃ x t, ts[j]? = some x ∧ v = .str x t) (GSt G C A a g ts) where
  sub := fun b hb => by rw [List.mem_singleton.mp hb]; simp
  grefl := fun _ h => h
  gtrans := fun _ _ _ h k x => k (h x)
  frame := by
    rintro j s h' tk ⟨⟨o, nm, qn, h1, h2⟩, h3, h4, h5, h6, gs, h7, h8⟩ _ hk
    exact ⟨⟨o, nm, qn, hk a (.head _) o h1, h2⟩, fun b o e => hk b (.tail _ (.tail _ (List.mem_range.mpr (Heap.lt_size e)))) o (h3 b o e), h4, h5, h6, gs, h7, fun s'' ha => h8 s'' fun b hb o e => ha b hb o (hk b (.tail _ hb) o e)⟩
  item := by
    rintro j s Q E hj ⟨hgen, hbase, hb, hg, ho, gs, hgs, hgo⟩ hQ
    obtain ⟨m, hm⟩ : ∃ m, ts.length - j = m + 1 := ⟨ts.length - j - 1, by omega⟩
    rw [hm] at hgo
    refine wpAny_with_toks (Nat.le_refl s.toks) ?_
    refine pyNext_genQ (n := m + 1) (Y := GY G C ts) (P := fun n s₀ s₁ => n = 0 ∧ (∀ b o, b ≠ C.L → s₀.heap.get? b = some o → s₁.heap.get? b = some o) ∧ AllBare s₁.gens ∧ C.gn ≤ s₁.gens.size ∧ (s₁.os, s₁.drawn) = G.os) hh (hG.lim.keeps hbase) hroom hgen hgs
      (hgo _ (fun _ _ _ e => e) (bare_set hb rfl) (by rw [size_set]; exact hg) ho) (fun v s₁ gs' hbare hv => ?_) (fun s₁ hp h' hk => ?_)
    · obtain ⟨⟨x, t, hx, rfl⟩, hk₁, hb₁, hg₁, ho₁, hbase₁, hkap⟩ := hv
      intro htk
      have hidx : ts.length - 1 - (m + 1 - 1) = j := by omega
      rw [hidx] at hx
      obtain ⟨o, nm, qn, hga, hgr⟩ := hgen
      refine hQ _ _ ⟨x, t, hx, rfl⟩ ⟨⟨o, nm, qn, hk₁ a o haL hga, hgr⟩, hbase₁, bare_set hb₁ hbare, by rw [size_set]; exact hg₁, ho₁, gs', ?_, fun s'' ha hb'' hg'' ho'' => ?_⟩ ⟨fun b o hb e => hk₁ b o (fun q => hb (by rw [q]; simp)) e, fun _ => ⟨bare_set hb₁ hbare, by rw [size_set]; exact hg₁⟩, ?_, ?_, htk⟩
      · simp only [Shared.setGen]
        rw [Array.getElem?_setIfInBounds, if_pos rfl, if_pos (by omega)]
      · have e : ts.length - (j + 1) = m := by omega
        rw [e]
        exact hkap s'' ha hb'' hg'' ho''
      · exact (Prod.mk.inj (ho₁.trans ho.symm)).2
      · exact (Prod.mk.inj (ho₁.trans ho.symm)).1
    · exact absurd hp.1 (Nat.succ_ne_zero m)
  done := by
    rintro s Q E ⟨hgen, hbase, hb, hg, ho, gs, hgs, hgo⟩ hQ
    rw [Nat.sub_self] at hgo
    refine wpAny_with_toks (Nat.le_refl s.toks) ?_
    refine pyNext_genQ (n := 0) (Y := GY G C ts) (P := fun n s₀ s₁ => n = 0 ∧ (∀ b o, b ≠ C.L → s₀.heap.get? b = some o → s₁.heap.get? b = some o) ∧ AllBare s₁.gens ∧ C.gn ≤ s₁.gens.size ∧ (s₁.os, s₁.drawn) = G.os) hh (hG.lim.keeps hbase) hroom hgen hgs
      (hgo _ (fun _ _ _ e => e) (bare_set hb rfl) (by rw [size_set]; exact hg) ho) (fun v s₁ gs' hbare hv => ?_) (fun s₁ hp h' hk => ?_)
    · obtain ⟨_, _, hb₁, hg₁, ho₁, _, hkap⟩ := hv
      exact (hkap s₁ (fun _ _ _ e => e) hb₁ hg₁ ho₁).elim
    · obtain ⟨_, hk₁, hb₁, hg₁, ho₁⟩ := hp
      intro htk
      exact hQ _ ⟨fun b o hb e => hk b o (hk₁ b o (fun q => hb (by rw [q]; simp)) e), fun _ => ⟨bare_set hb₁ rfl, by rw [size_set]; exact hg₁⟩, (Prod.mk.inj (ho₁.trans ho.symm)).2, (Prod.mk.inj (ho₁.trans ho.symm)).1, htk⟩
  self := fun _ _ _ _ st hQ => wpAny_pyIter_gen st.1 hQ

/-- nothing that was there changes; generators may come -/
theorem Inv.keepG {kp pn : List (Addr × Obj)} {W : WS} {s s' : Shared} {st : St} (I : G.I C kp pn W s st) (hk : ∀ b o, s.heap.get? b = some o → s'.heap.get? b = some o) (hb : AllBare s'.gens) (hg : C.gn ≤ s'.gens.size) (ho : (s'.os, s'.drawn) = (s.os, s.drawn)) : G.I C kp pn W s' st :=
  ⟨fun b o e => hk b o (I.base b o e), (let ⟨m, hn, l⟩ := I.ns; ⟨m, hn.keeps hk, l⟩), I.trk.mono fun _ _ ⟨o, h, r⟩ => ⟨o, hk _ _ h, r⟩, fun p hp => hk _ _ (I.frz p hp), fun p hp => hk _ _ (I.kept p hp), fun p hp => (let ⟨sl, h⟩ := I.ups p hp; ⟨sl, hk _ _ h⟩),
    I.apart, I.old, I.sep, I.fk, I.fu, I.upp, fun p hp => hk _ _ (I.pin p hp), I.sepp, ⟨hb, hg⟩, ho.trans I.os⟩

structure GenName (G : Gl) (x : Str) (F : FnS) : Prop where
  at' : ∃ fa fd, G.mg x = some (.ref fa) ∧ FnAt G F fa fd ∧ keepIn G.K (.ref fa) = true ∧ ∀ vs : List Value, vs.length = F.pars.length → bindArgs fd ⟨vs, []⟩ = pure (F.pars.zip vs)
  nd : (x == ("__debug__" : Str)) = false
  kind : F.scope.kind = .function
  co : F.scope.isCoroutine = false
  gen : F.scope.isGenerator = true
  loc : ∀ y ∈ F.pars, F.scope.names.lookup y = some .local
  nds : (F.vars.map (·.1)).Nodup

noncomputable def listGenA (m1 : AM AF) (mt : AM Bool) (my : AM AV) (m3 : AM AF) (fuel : Nat) : AV → AM AV
  | .dat (.str y) => match genF m1 mt my m3 fuel ⟨[some (.dat (.str y)), none], []⟩ with
    | some ts => if ts.length < 1000 then AM.pure (.dat (.list (ts.map .str))) else AM.fail
    | none => AM.fail
  | _ => AM.fail
theorem strs_of {frz : List (Addr × Obj)} {vs : List Value} {ts : List Str} (hl : vs.length = ts.length) (h : ∀ (j : Nat) (v : Value), vs[j]? = some v → ∃ (x : Str) (t : Tok), ts[j]? = some x ∧ v = .str x t) : RDs frz vs (ts.map .str) := by
  induction vs generalizing ts with
  | nil => cases ts with
    | nil => exact .nil
    | cons => simp at hl
  | cons v vs ih => cases ts with
    | nil => simp at hl
    | cons y ts =>
      obtain ⟨x, t, hx, rfl⟩ := h 0 v rfl
      simp at hx
      subst hx
      exact .cons (.str _ _) (ih (by simpa using hl) fun j v hv => by simpa using h (j + 1) v (by simpa using hv))

theorem ref_listGen (fuel : Nat) (hG : G.Ok) (hC : C.Ok) {x : Str} {F : FnS} {t ye e : Expr} {S1 S3 : Stmt} {yp p1 p2 p p' pos pos' : Pos} {y0 y1 : Str} {m1 : AM AF} {mt : AM Bool} {my me : AM AV} {m3 : AM AF} {d dC : Nat}
    (hl : BiName G "list" (.type "list")) (hlk : C.env.kindOf "list" = some .globalImplicit) (hn : GenName G x F) (hk : C.env.kindOf x = some .globalImplicit) (hbody : F.body = [S1, .While t [.Expr (.Yield (some ye) yp) p1, S3] [] p2]) (hni : ∀ env : Env, env.scope = F.scope → interactive env = false) (hpar : F.pars = [y0]) (hrest : F.rest = [(y1, none)])
    (hb0 : C.dep ≤ dC ∧ C.un ≤ 4 * dC) (hd : dC + 2 ≤ d) (hd6 : d ≤ 600)
    (Rg : ∀ L q f c envs dep un gn, (actOf F L q f c envs dep un [] gn).Ok → dep ≤ d → un ≤ 4 * d → Ref G (actOf F L q f c envs dep un [] gn) true (exec S1 (actOf F L q f c envs dep un [] gn).env) RF m1 ∧
      Ref G (actOf F L q f c envs dep un [] gn) true (isTrue t (actOf F L q f c envs dep un [] gn).env (eval t (actOf F L q f c envs dep un [] gn).env)) RB mt ∧
      Ref G (actOf F L q f c envs dep un [] gn) true (eval ye (actOf F L q f c envs dep un [] gn).env) RV my ∧ Ref G (actOf F L q f c envs dep un [] gn) true (exec S3 (actOf F L q f c envs dep un [] gn).env) RF m3)
    (Re : Ref G C true (eval e C.env) RV me)
    (h1 : starEach [.Call (.Name x p') [e] [] pos'] C.env = (false, eval (.Call (.Name x p') [e] [] pos') C.env) :: starEach [] C.env) (h2 : starEach [e] C.env = (false, eval e C.env) :: starEach [] C.env) :
    Ref G C true (eval (.Call (.Name "list" p) [.Call (.Name x p') [e] [] pos'] [] pos) C.env) RV (me.bind (listGenA m1 mt my m3 fuel)) := by
  intro kp pn W s st A hA I _ b st' hm
  obtain ⟨av, st1, e1, e2⟩ := bind_some hm
  obtain ⟨fa, fd, g1, g2, g3, g4⟩ := hn.at'
  refine Call_Name rfl (hl.nm hG hC hlk I ?_)
  refine cw_type.one (G := G) hG.X h1 rfl (wpAny_items_cons ?_ h1)
  refine Call_Name rfl (nm_global hG hC g1 hk hn.nd I ?_)
  refine (cw_K g3).one hG.X h2 rfl (wpAny_items_cons (Re.use0 hA I e1 fun v s1 W1 k1 I1 k3 => wpAny_items_nil ⟨hG.X.keeps I1.base, ?_⟩) h2)
  unfold listGenA at e2
  split at e2
  · rename_i y
    cases hgf : genF m1 mt my m3 fuel ⟨[some (.dat (.str y)), none], []⟩ with
    | none => rw [hgf] at e2; exact (fail_some e2).elim
    | some ts =>
      rw [hgf] at e2
      dsimp only at e2
      by_cases hlt : ts.length < 1000
      · rw [if_pos hlt] at e2
        obtain ⟨rfl, rfl⟩ := pure_some e2
        obtain ⟨tk, rfl⟩ := rv_str k3
        obtain ⟨o, ho, hd'⟩ := g2.at'
        have hroom : A.depth < recursionLimit := by
          have h0 : recursionLimit = 1000 := rfl
          have := hA.dep
          omega
        show wpAny G.M A (call (.ref fa) [.str y tk]) _ _ s1
        refine wpAny_call (codeAny_call_generator (o := o) (fd := fd) hroom (I1.base _ _ (hG.X _ _ ho)) hd' (by rw [g2.scope]; exact hn.co) (by rw [g2.scope]; exact hn.gen) g2.body (g2.code.keeps I1.base) ?_)
        rw [g4 [.str y tk] (by rw [hpar]; rfl), hpar, g2.scope, g2.clo]
        refine wpAny_pure (wpAny_newFunctionEnv_cells hn.kind (fun q hq => .inl (hn.loc _ (by rw [hpar]; rw [List.mem_singleton.mp hq]; exact .head _))) fun env henv s2 xc => ?_)
        have hk2 := xc.toInCall.keep
        obtain ⟨h₂, tk2, hs2⟩ := xc.toInCall.same
        refine ⟨(hG.lim.keeps I1.base).keeps hk2, ?_⟩
        have henv' : env = newEnv F.scope s1.heap.objs.size mainGlobals (cellsFrom (s1.heap.objs.size + 1) F.scope.names []) (fd.qualname ++ ".<locals>.") (some fa) fd.code none builtinsNs := by rw [henv, g2.glo, g2.bui]
        have hsc : env.scope = F.scope := by rw [henv']; rfl
        have hlo : env.locals = s1.heap.objs.size := by rw [henv']; rfl
        have hgen2 : s2.gens = s1.gens := by rw [hs2]
        have hos2 : (s2.os, s2.drawn) = (s1.os, s1.drawn) := by rw [hs2]
        generalize hga : s2.heap.objs.size = a
        have hL2 : s1.heap.objs.size < a := by rw [← hga]; have := xc.toInCall.ns.lt; rw [hlo] at this; exact this
        generalize hs5 : ({ s2 with gens := s2.gens.push (.fresh (.func F.body env)), toks := s2.toks + 1 + 1, heap := s2.heap.push { cls := .type "generator", data := .fields #[.int s2.gens.size 0, .str fd.name s2.toks, .str fd.qualname (s2.toks + 1)] } } : Shared) = s5
        have hh5 : s5.heap = s2.heap.push { cls := .type "generator", data := .fields #[.int s2.gens.size 0, .str fd.name s2.toks, .str fd.qualname (s2.toks + 1)] } := by rw [← hs5]
        have hg5 : s5.gens = s1.gens.push (.fresh (.func F.body env)) := by rw [← hs5, ← hgen2]
        have ho5 : (s5.os, s5.drawn) = (s1.os, s1.drawn) := by rw [← hs5]; exact hos2
        have hk5 : ∀ b o, s2.heap.get? b = some o → s5.heap.get? b = some o := fun b o e => by rw [hh5]; exact Heap.get?_push_of_some _ e
        have hsz5 : s5.heap.objs.size = a + 1 := by rw [hh5, Heap.size_push, hga]
        have hbare5 : AllBare s5.gens := by rw [hg5]; exact I1.gens.1.push rfl
        have hgsz : s5.gens.size = s1.gens.size + 1 := by rw [hg5, Array.size_push]
        refine wpAny_items_nil ⟨hG.X.keeps fun b o e => hk5 b o (hk2 b o (I1.base b o e)), ?_⟩
        -- the generator's frame
        have hCg : (actOf F s1.heap.objs.size (fd.qualname ++ ".<locals>.") (some fa) fd.code (env :: C.envs) (C.dep + 1) (C.un + 8) [] (s1.gens.size + 1)).Ok :=
          ⟨rfl, hn.kind, rfl, rfl, by
            show ((F.varsAt _).map (·.1)).Nodup
            unfold FnS.varsAt
            rw [List.map_map]; exact hn.nds, by show C.un + 8 ≤ 5000; omega, by show C.dep + 1 ≤ 600; omega⟩
        obtain ⟨R1, Rt, Ry, R3⟩ := Rg s1.heap.objs.size (fd.qualname ++ ".<locals>.") (some fa) fd.code (env :: C.envs) (C.dep + 1) (C.un + 8) (s1.gens.size + 1) hCg (by omega) (by omega)
        subst henv'
        have hbase5 : G.h₀.StaysIn s5.heap := fun b o e => hk5 b o (hk2 b o (I1.base b o e))
        have hLb : G.h₀.objs.size ≤ s1.heap.objs.size := I1.base_lt
        have FS : Sleeps G (actOf F s1.heap.objs.size (fd.qualname ++ ".<locals>.") (some fa) fd.code (newEnv F.scope s1.heap.objs.size mainGlobals (cellsFrom (s1.heap.objs.size + 1) F.scope.names []) (fd.qualname ++ ".<locals>.") (some fa) fd.code none builtinsNs :: C.envs) (C.dep + 1) (C.un + 8) [] (s1.gens.size + 1)) s5 [some (.dat (.str y)), none] := by
          refine ⟨hbase5, rfl, _, xc.toInCall.ns.keeps hk5, fun i x oc hv av ha => ?_⟩
          obtain ⟨k, hi, rfl⟩ := varsAt_get hv
          unfold FnS.vars at hi
          rw [hpar, hrest] at hi
          match i, hi, ha with
          | 0, hi, ha =>
            cases hi
            cases ha
            refine ⟨.str y tk, .str _ _, bindL_get (i := 0) (by simp) (fun q hq => ?_) rfl⟩
            rw [List.mem_singleton.mp (show q ∈ [(y0, Value.str y tk)] from hq)]
            exact hn.loc _ (by rw [hpar]; exact .head _)
          | 1, hi, ha => cases ha
          | n + 2, hi, ha => simp at ha
        have hst : GSt G (actOf F s1.heap.objs.size (fd.qualname ++ ".<locals>.") (some fa) fd.code (newEnv F.scope s1.heap.objs.size mainGlobals (cellsFrom (s1.heap.objs.size + 1) F.scope.names []) (fd.qualname ++ ".<locals>.") (some fa) fd.code none builtinsNs :: C.envs) (C.dep + 1) (C.un + 8) [] (s1.gens.size + 1)) A.in1.in1 a s1.gens.size ts 0 s5 := by
          have hget0 : s5.gens[s1.gens.size]? = some (.fresh (.func F.body (newEnv F.scope s1.heap.objs.size mainGlobals (cellsFrom (s1.heap.objs.size + 1) F.scope.names []) (fd.qualname ++ ".<locals>.") (some fa) fd.code none builtinsNs))) := by rw [hg5]; exact Array.getElem?_push_size
          refine ⟨⟨_, _, _, by rw [hh5, ← hga]; exact Heap.get?_push_size _ rfl, rfl, by rw [hgen2], rfl⟩, hbase5, hbare5, by rw [hgsz]; exact Nat.le_refl _, ho5.trans I1.os, _, hget0, fun s'' ha hb hg ho => ⟨rfl, ?_⟩⟩
          rw [hbody]
          have hun := hA.un
          have hdp := hA.dep
          exact seg_gfun (l := C.envs) hLb rfl hn.co (hni _ rfl) R1 Rt Ry R3 (A := A.in1.in1.in1) (hA.hd rfl) hA.fr rfl (by show A.depth + 1 ≤ C.dep + 1; omega) (by show A.units + 1 + 1 + 1 + 4 ≤ C.un + 8; omega) (Nat.succ_ne_zero _) (FS.agree ha) hb hg ho hgf
        refine call_list_gen (walks_gen hG (A := A.in1.in1) (hA.hd rfl) hroom (Nat.ne_of_gt hL2) rfl) (fun i s st => st.1.typeIs) hst (fun b hb => ?_) (.head _) (fun s' acc' c' hm' hget hit => ?_) (sz1000 hlt)
        · rw [hsz5]
          rcases List.mem_cons.mp hb with rfl | hb
          · exact Nat.lt_succ_self _
          · rcases List.mem_cons.mp hb with rfl | hb
            · exact Nat.lt_succ_of_lt hL2
            · have := List.mem_range.mp hb
              exact Nat.lt_succ_of_lt (Nat.lt_trans (Nat.lt_of_lt_of_le this hLb) hL2)
        · have hkeep : ∀ b o, s1.heap.get? b = some o → s'.heap.get? b = some o := fun b o e => by
            have hlt' := Heap.lt_size e
            refine hm'.heap b o (fun hmem => ?_) (Heap.get?_push_of_some _ (hk5 b o (hk2 b o e)))
            rcases List.mem_cons.mp hmem with q | q
            · rw [q, hsz5] at hlt'
              exact absurd hlt' (Nat.not_lt.mpr (Nat.le_of_lt (Nat.lt_succ_of_lt hL2)))
            · rw [List.mem_singleton.mp q] at hlt'
              exact Nat.lt_irrefl _ hlt'
          have hgn := hm'.gens ⟨hbare5, by rw [hgsz]; exact Nat.le_refl _⟩
          have hos' : (s'.os, s'.drawn) = (s1.os, s1.drawn) := by rw [hm'.os, hm'.drawn]; exact ho5
          have I' : G.I C kp pn W1 s' st' := I1.keepG hkeep hgn.1 (Nat.le_trans I1.gens.2 (Nat.le_trans (Nat.le_succ _) hgn.2)) hos'
          have hnl : ∀ b : Addr, b < s1.heap.objs.size → s5.heap.objs.size ≠ b := fun b hb e => by rw [hsz5] at e; exact ne3 hb (Nat.le_of_lt (Nat.lt_succ_of_lt hL2)) e.symm
          obtain ⟨I2, le⟩ := I'.freeze hget (fun b hb => hnl b (I1.own_lt b hb)) (fun q hq => hnl _ (I1.kept_lt q hq)) (fun q hq => hnl _ (I1.ups_lt q hq))
          refine ⟨_, k1.trans le, I2, .list (.head _) (strs_of (by rw [Array.length_toList]; exact hit.1) fun j v hv => hit.2 j v (by rw [← Array.getElem?_toList]; exact hv))⟩
      · rw [if_neg hlt] at e2; exact (fail_some e2).elim
  · exact (fail_some e2).elim
end
end Mine

open PySem PySem.W PyProof.Rows PySem.Calls PySem.Spec
set_option Elab.async false
namespace Mine
set_option maxRecDepth 100000
noncomputable def frA (C : Act) : List Addr := C.L :: C.ups.map (·.1)
section
variable {G : Gl} {C : Act} {hq : Bool}
theorem mem_frA {C : Act} {a : Addr} (h : a = C.L ∨ ∃ p ∈ C.ups, p.1 = a) : a ∈ frA C := by
  rcases h with rfl | ⟨p, hp, rfl⟩
  · exact .head _
  · exact .tail _ (List.mem_map_of_mem hp)
theorem frame_obj {kp pn : List (Addr × Obj)} {W : WS} {s : Shared} {st : St} (I : G.I C kp pn W s st) {a : Addr} (h : a ∈ frA C) : ∃ o es ep, s.heap.get? a = some o ∧ o.data = .dict es ep := by
  rcases List.mem_cons.mp h with rfl | h
  · obtain ⟨m, ⟨o, es, ep, h1, h2, _⟩, _⟩ := I.ns
    exact ⟨o, es, ep, h1, h2⟩
  · obtain ⟨p, hp, rfl⟩ := List.mem_map.mp h
    obtain ⟨sl, h1⟩ := I.ups p hp
    obtain ⟨_, ⟨es, ep, h2⟩, _⟩ := I.upp p hp
    exact ⟨_, es, ep, h1, h2⟩
/-- the stack's frames stand, hidden in the base -/
theorem funFr {A : Around} (hA : AOk C hq A) (h0 : C.gn = 0) {kp pn : List (Addr × Obj)} {W : WS} {s : Shared} {st : St} (I : G.I C kp pn W s st) {B : Heap} (hB : ∀ a ∈ frA C, B.get? a = none) : s.heap.FunFrames B C.envs := by
  have key : ∀ l : List Env, (∀ e ∈ l, e ∈ C.envs) → s.heap.FunFrames B l := by
    intro l
    induction l with
    | nil => intro _; trivial
    | cons e l ih =>
      intro h
      obtain ⟨h1, L, h2, h3⟩ := hA.fo h0 e (h e (.head _))
      have hm : L ∈ frA C := mem_frA h3
      obtain ⟨o, es, ep, h4, h5⟩ := frame_obj I hm
      exact ⟨h1, ⟨L, o, h2, hB L hm, h4, fun vs q => by rw [h5] at q; cases q⟩, ih fun x hx => h x (.tail _ hx)⟩
  exact key _ fun _ h => h
/-- after a flight: the frames up to slots, all else kept -/
theorem Inv.flown {kp pn : List (Addr × Obj)} {W : WS} {s : Shared} {st : St} (I : G.I C kp pn W s st) {h' : Heap} (hk : ∀ b o, b ∉ frA C → s.heap.get? b = some o → h'.get? b = some o) (hu : s.heap.UpToSlots h') (tk : Nat) :
    G.I C kp pn W { s with heap := h', toks := tk } st := by
  have nf : ∀ {b : Addr}, b ≠ C.L → (∀ p ∈ C.ups, p.1 ≠ b) → b ∉ frA C := fun h1 h2 hm => by
    rcases List.mem_cons.mp hm with q | q
    · exact h1 q
    · obtain ⟨p, hp, e⟩ := List.mem_map.mp q
      exact h2 p hp e
  have oldn : ∀ {b : Addr} {o : Obj}, G.h₀.get? b = some o → b ∉ frA C := fun e => nf (old_ne (I.old _ (List.mem_append_left _ (.head _))) e) fun p hp q => old_ne (I.upp p hp).1 e q.symm
  have sL := I.sep C.L (List.mem_append_left _ (.head _))
  refine ⟨fun b o e => hk b o (oldn e) (I.base b o e), ?_, I.trk.mono' fun a ha ao ⟨o, x1, x2⟩ => ⟨o, hk _ _ (nf (fun e => (List.nodup_append.mp I.apart).2.2 C.L (.head _) a ha e.symm) (I.sep a (List.mem_append_right _ ha)).2.2) x1, x2⟩,
    fun p hp => hk _ _ (nf (sL.1 p hp) fun q hq => (I.fu p hp q hq).symm) (I.frz p hp), fun p hp => hk _ _ (nf (sL.2.1 p hp) fun q hq => ((I.upp q hq).2.2.1 p hp).symm) (I.kept p hp), fun p hp => ?_, I.apart, I.old, I.sep, I.fk, I.fu, I.upp,
    fun p hp => hk _ _ (nf ((I.sepp p hp).1 _ (.head _)) fun q hq => ((I.upp q hq).2.2.2 p hp).symm) (I.pin p hp), I.sepp, I.gens, I.os⟩
  · obtain ⟨m, hn, hl⟩ := I.ns
    exact ⟨m, hu.ns hn, hl⟩
  · obtain ⟨sl, h⟩ := I.ups p hp
    obtain ⟨_, ⟨es, ep, h2⟩, _⟩ := I.upp p hp
    obtain ⟨sl', h3⟩ := hu _ _ h fun vs q => by
      have : p.2.data = .fields vs := q
      rw [h2] at this; cases this
    exact ⟨sl', h3⟩

/-- an exception in flight, seen from the frame C -/
noncomputable def Fly (G : Gl) (C : Act) (kp pn : List (Addr × Obj)) (W : WS) (s : Shared) (st : St) (e : Addr) (cls : Value) : Prop :=
  ∃ B a0, Heap.FlyingW B C.envs e cls a0 s.heap ∧ ∀ h'' tk, B.StaysIn h'' → s.heap.UpToSlots h'' → G.I C kp pn W { s with heap := h'', toks := tk } st
theorem Fly.inv {kp pn : List (Addr × Obj)} {W : WS} {s : Shared} {st : St} {e : Addr} {cls : Value} (F : Fly G C kp pn W s st e cls) : G.I C kp pn W s st := by
  obtain ⟨B, a0, h1, h2⟩ := F
  exact h2 s.heap s.toks h1.1 (.refl _)

/-- out of the callee's frame -/
theorem Fly.leave {F : FnS} {env : Env} {L : Addr} {oL : Obj} {es : Array DictEntry} {ep : Nat} {m : Str → Option Value} {kp pn : List (Addr × Obj)} {W W' : WS} {s s' : Shared} {st st' : St} {e : Addr} {cls : Value} {A : Around} {Q : Unit → Shared → Prop} {E : Value → Shared → Prop}
    (I : G.I C kp pn W s st) (h2 : oL.data = .dict es ep) (h3 : StrKeys es) (h4 : ∀ n, nsFind es n = m n) (hl : Loc C W m st.loc) (hW : W.le W') (hA : AOk (calleeAct F C env L oL) hq A) (hf : env.frame = some L)
    (Y : Fly G (calleeAct F C env L oL) kp pn W' s' st' e cls) (hQ : ∀ h', Fly G C kp pn W' { s' with heap := h' } ⟨st.loc, st'.heap⟩ e cls → Q () { s' with heap := h' }) : wpAny G.M A (leaving env (.ref e)) Q E s' := by
  obtain ⟨B, a0, hfl, hI⟩ := Y
  refine wpAny_leaves_onW (outer := C.envs) hA.fr hf hfl fun h' hfl' hu => hQ h' ⟨B, a0, hfl', fun h'' tk hs hu' => ?_⟩
  exact Inv.leave (C' := calleeAct F C env L oL) I h2 h3 h4 hl hW rfl rfl (hI h'' tk hs (hu.trans hu'))
end
end Mine

open PySem PySem.W PyProof.Rows PySem.Calls PySem.Spec
set_option Elab.async false
namespace Mine
set_option maxRecDepth 100000
section
variable {G : Gl} {C : Act} {hq : Bool}
/-- an exception raised in C's frame, on its way: new, come from a callee, or noted -/
noncomputable def Way (G : Gl) (C : Act) (kp pn : List (Addr × Obj)) (W : WS) (s : Shared) (st : St) (e : Addr) (cls : Value) : Prop :=
  ∃ B a0, B.StaysIn s.heap ∧ B.get? e = none ∧ s.heap.FunFrames B C.envs ∧
    ((∃ oe vs, s.heap.get? e = some oe ∧ oe.cls = cls ∧ oe.data = .fields vs ∧ vs[1]? = some .none ∧ vs[0]? = some a0) ∨ s.heap.TracedW B e cls a0 ∨ s.heap.TracedAtW B e cls a0 (rawInt C.L)) ∧
    ∀ h'' tk, B.StaysIn h'' → s.heap.UpToSlots h'' → G.I C kp pn W { s with heap := h'', toks := tk } st
noncomputable def Held (G : Gl) (C : Act) (kp pn : List (Addr × Obj)) (W : WS) (s : Shared) (st : St) (e : Addr) (cls : Value) : Prop :=
  ∃ B a0, Heap.HeldW B C.envs e cls a0 C.L s.heap ∧ ∀ h'' tk, B.StaysIn h'' → s.heap.UpToSlots h'' → G.I C kp pn W { s with heap := h'', toks := tk } st
theorem Held.way {kp pn : List (Addr × Obj)} {W : WS} {s : Shared} {st : St} {e : Addr} {cls : Value} (F : Held G C kp pn W s st e cls) : Way G C kp pn W s st e cls := by
  obtain ⟨B, a0, ⟨h1, h2, h3, h4⟩, h5⟩ := F
  exact ⟨B, a0, h1, h2, h3, .inr (.inr h4), h5⟩
theorem Fly.way {kp pn : List (Addr × Obj)} {W : WS} {s : Shared} {st : St} {e : Addr} {cls : Value} (F : Fly G C kp pn W s st e cls) : Way G C kp pn W s st e cls := by
  obtain ⟨B, a0, ⟨h1, h2, h3, h4⟩, h5⟩ := F
  exact ⟨B, a0, h1, h2, h3, .inr (.inl h4), h5⟩
/-- a new one -/
theorem Way.new {A : Around} (hA : AOk C hq A) (h0 : C.gn = 0) {kp pn : List (Addr × Obj)} {W : WS} {s : Shared} {st : St} (I : G.I C kp pn W s st) {h' : Heap} {e : Addr} {oe : Obj} {vs : Array Value} {a0 : Value}
    (hk : ∀ b o, s.heap.get? b = some o → h'.get? b = some o) (hn : s.heap.get? e = none) (he : h'.get? e = some oe) (hd : oe.data = .fields vs) (h1 : vs[1]? = some .none) (h2 : vs[0]? = some a0) : Way G C kp pn W { s with heap := h' } st e oe.cls := by
  have st0 : (hideAll s.heap (frA C)).StaysIn h' := fun b o q => hk b o (of_hideAll _ q)
  have nn : ∀ {b : Addr}, s.heap.get? b = none → (hideAll s.heap (frA C)).get? b = none := fun {b} q => by
    cases hq : (hideAll s.heap (frA C)).get? b with
    | none => rfl
    | some o => rw [of_hideAll _ hq] at q; cases q
  have J : G.I C kp pn W { s with heap := h' } st := I.keep hk
  refine ⟨hideAll s.heap (frA C), a0, st0, nn hn, funFr hA h0 J fun a ha => hideAll_none _ ha, .inl ⟨_, _, he, rfl, hd, h1, h2⟩, fun h'' tk k1 k2 => ?_⟩
  exact Inv.flown I (fun b o hb q => k1 b o (hideAll_get _ q hb)) ((Heap.UpToSlots.of_keeps hk).trans k2) tk
theorem Way.note {A : Around} (hA : AOk C hq A) {o : List Env} (ho : C.envs = C.env :: o) (hf : C.env.frame = some C.L) {kp pn : List (Addr × Obj)} {W : WS} {s : Shared} {st : St} {e : Addr} {cls : Value}
    (F : Way G C kp pn W s st e cls) {Q : Unit → Shared → Prop} {E : Value → Shared → Prop} (hQ : ∀ h', Held G C kp pn W { s with heap := h' } st e cls → Q () { s with heap := h' }) : wpAny G.M A (noteFrame (.ref e) C.env) Q E s := by
  obtain ⟨B, a0, h1, h2, h3, h4, h5⟩ := F
  have hfr : A.frames = some (C.env :: o) := by rw [hA.fr, ho]
  have fin : ∀ h', Heap.NotedW B (C.env :: o) e cls a0 (rawInt C.L) s.heap h' → Held G C kp pn W { s with heap := h' } st e cls := fun h' ⟨k1, k2, k3, k4⟩ =>
    ⟨B, a0, ⟨k1, h2, ho ▸ k2, k3⟩, fun h'' tk q1 q2 => h5 h'' tk q1 (Heap.UpToSlots.trans k4 q2)⟩
  rcases h4 with ⟨oe, vs, x1, rfl, x3, x4, x5⟩ | h4 | h4
  · unfold noteFrame
    simp only [hf]
    refine wpAny_bind (wpAny_field x1 x3 x4 ?_)
    rw [if_neg (by decide)]
    exact wpAny_entryW hfr (ho ▸ h3) hf x1 h1 h2 x3 (Array.getElem?_eq_some_iff.mp x4).1 x5 fun h' hn => hQ h' (fin h' hn)
  · exact wpAny_noteFrame_onW hfr (ho ▸ h3) hf h4 h1 h2 fun h' hn => hQ h' (fin h' hn)
  · refine wpAny_noteFrame_againW hf h4 ?_
    exact hQ s.heap ⟨B, a0, ⟨h1, h2, h3, h4⟩, h5⟩
/-- back from a code of the frame -/
theorem Held.back {A : Around} {env : Env} (hf : env.frame = some C.L) {kp pn : List (Addr × Obj)} {W : WS} {s : Shared} {st : St} {e : Addr} {cls : Value}
    (F : Held G C kp pn W s st e cls) {E : Value → Shared → Prop} (hE : ∀ h', Held G C kp pn W { s with heap := h' } st e cls → E (.ref e) { s with heap := h' }) : cameBackBy G.M A env E (.ref e) s := by
  obtain ⟨B, a0, ⟨h1, h2, h3, oe, vs, T, oT, ts, he, ⟨hc, h0⟩, hd, hT1, hnT, hTe, hT, hdT, hts⟩, h5⟩ := F
  have hsz3 : 3 < ts.size := (Array.getElem?_eq_some_iff.mp hts).1
  have other : ∀ b, b ≠ T → (s.heap.update T (Obj.mapFields (·.setIfInBounds 3 (rawInt C.L)))).get? b = s.heap.get? b := fun b hb => Heap.get?_update_other _ _ (Ne.symm hb)
  have noRecord : ∀ b o, s.heap.get? b = some o → (∀ vs, o.data ≠ .fields vs) → b ≠ T := fun b o hb hnf q => by
    rw [q, hT] at hb; injection hb with hb; subst hb; exact hnf ts hdT
  have upt : s.heap.UpToSlots (s.heap.update T (Obj.mapFields (·.setIfInBounds 3 (rawInt C.L)))) := fun b o hb hn => ⟨o.slots, (other b (noRecord b o hb hn)).trans hb⟩
  unfold cameBackBy setFlight
  refine wpAny_bind (wpAny_field he hd hT1 ?_)
  rw [if_neg (by simp)]
  refine wpAny_bind (wpAny_field he hd hT1 ?_)
  rw [if_pos (show (Value.ref T != Value.none) = true from by simp)]
  rw [hf]
  refine wpAny_setField hT hdT hsz3 (hE _ ⟨B, a0, ⟨fun b o hbo => (other b fun q => by rw [q, hnT] at hbo; cases hbo).trans (h1 b o hbo), h2, h3.of_keeps fun b o hb hnf => ⟨o, (other b (noRecord b o hb hnf)).trans hb, rfl⟩, ?_⟩, fun h'' tk q1 q2 => h5 h'' tk q1 (upt.trans q2)⟩)
  exact ⟨oe, vs, T, _, _, (other e (Ne.symm hTe)).trans he, ⟨hc, h0⟩, hd, hT1, hnT, hTe, Heap.get?_update_self _ hT (Obj.isFreed_of_fields (Obj.data_mapFields hdT _)), Obj.data_mapFields hdT _, by simp [hsz3]⟩
/-- caught -/
theorem Held.land {A : Around} {kp pn : List (Addr × Obj)} {W : WS} {s : Shared} {st : St} {e : Addr} {cls : Value}
    (F : Held G C kp pn W s st e cls) {Q : Unit → Shared → Prop} {E : Value → Shared → Prop} (hQ : ∀ h', Fly G C kp pn W { s with heap := h' } st e cls → Q () { s with heap := h' }) : wpAny G.M A (setFlight (.ref e) none) Q E s := by
  obtain ⟨B, a0, h1, h5⟩ := F
  exact wpAny_landsW h1 fun h' k1 k2 => hQ h' ⟨B, a0, k1, fun h'' tk q1 q2 => h5 h'' tk q1 (k2.trans q2)⟩
theorem Fly.type {kp pn : List (Addr × Obj)} {W : WS} {s : Shared} {st : St} {e : Addr} {X : String} (F : Fly G C kp pn W s st e (.type X)) : s.TypeIs (.ref e) X := by
  obtain ⟨B, a0, h1, _⟩ := F
  obtain ⟨ob, h2, h3⟩ := h1.there
  exact ⟨ob, h2, h3⟩
/-- any way out of the callee's frame -/
theorem Way.leave {F : FnS} {env : Env} {L : Addr} {oL : Obj} {es : Array DictEntry} {ep : Nat} {m : Str → Option Value} {kp pn : List (Addr × Obj)} {W W' : WS} {s s' : Shared} {st st' : St} {e : Addr} {cls : Value} {A : Around} {Q : Unit → Shared → Prop} {E : Value → Shared → Prop}
    (I : G.I C kp pn W s st) (h2 : oL.data = .dict es ep) (h3 : StrKeys es) (h4 : ∀ n, nsFind es n = m n) (hl : Loc C W m st.loc) (hW : W.le W') (hA : AOk (calleeAct F C env L oL) hq A) (hf : env.frame = some L)
    (Y : Way G (calleeAct F C env L oL) kp pn W' s' st' e cls) (hQ : ∀ h', Fly G C kp pn W' { s' with heap := h' } ⟨st.loc, st'.heap⟩ e cls → Q () { s' with heap := h' }) : wpAny G.M A (leaving env (.ref e)) Q E s' := by
  obtain ⟨B, a0, k1, k2, k3, k4, hI⟩ := Y
  have fin : ∀ h', Heap.FlyingW B C.envs e cls a0 h' → s'.heap.UpToSlots h' → Q () { s' with heap := h' } := fun h' f1 f2 => hQ h' ⟨B, a0, f1, fun h'' tk hs hu' =>
    Inv.leave (C' := calleeAct F C env L oL) I h2 h3 h4 hl hW rfl rfl (hI h'' tk hs (f2.trans hu'))⟩
  rcases k4 with ⟨oe, vs, x1, rfl, x3, x4, x5⟩ | k4 | k4
  · refine wpAny_leaving_firstW (outer := C.envs) hA.fr k3 hf x1 k1 k2 x3 x4 x5 fun h' hL => ?_
    obtain ⟨q1, ⟨_, _, q2⟩, q3, q4⟩ := hL
    exact fin h' ⟨q1, k2, q2, q3⟩ q4
  · exact wpAny_leaves_onW (outer := C.envs) hA.fr hf ⟨k1, k2, k3, k4⟩ fin
  · unfold leaving
    refine wpAny_bind (wpAny_noteFrame_againW hf k4 ?_)
    refine wpAny_landsW (L := L) (l := env :: C.envs) ⟨k1, k2, k3, k4⟩ fun h' hfl hu => ?_
    obtain ⟨q1, q2, ⟨_, _, q3⟩, q4⟩ := hfl
    exact fin h' ⟨q1, q2, q3, q4⟩ hu
end
end Mine

open PySem PySem.W PyProof.Rows PySem.Calls PySem.Spec
set_option Elab.async false
namespace Mine
set_option maxRecDepth 100000
/-- ends with an exception of the class, in a state that mx tells -/
noncomputable def RefX (G : Gl) (C : Act) {α : Type} (t : Sem α) (cls : Value) (mx : AM Unit) (Γ : List (Value × AV) := []) : Prop :=
  ∀ kp pn W s st A, AOk C true A → G.I C kp pn W s st → (∀ p ∈ Γ, RV W p.1 p.2) → ∀ u st', mx st = some (u, st') →
    wpAny G.M A t (fun _ _ => False) (fun x s' => ∃ e W', x = .ref e ∧ W.le W' ∧ Way G C kp pn W' s' st' e cls) s
section
variable {G : Gl} {C : Act} {α : Type} {cls : Value}
theorem x_fail {t : Sem α} : RefX G C t cls AM.fail := fun _ _ _ _ _ _ _ _ _ _ _ h => (fail_some h).elim
theorem x_seq {st₁ : Stmt} {rest : List Stmt} {m1 : AM AF} {mx : AM Unit} (R1 : Ref G C true (exec st₁ C.env) RF m1) (R2 : RefX G C (execs rest C.env) cls mx) :
    RefX G C (execs (st₁ :: rest) C.env) cls (m1.bind fun f => match f with | .next => mx | _ => AM.fail) := by
  intro kp pn W s st A hA I _ u st' hm
  obtain ⟨f, st1, e1, e2⟩ := bind_some hm
  refine wpAny_execs_cons (R1.use0 hA I e1 fun g s' W' h1 h2 h3 => ?_)
  cases f <;> cases g <;> simp only [RF] at h3 <;> first | exact (fail_some e2).elim | skip
  exact wpAny_mono (R2 kp pn W' s' st1 A hA h2 (fun _ h => nomatch h) u st' e2) (fun _ _ x => x.elim) fun x s'' ⟨e, W'', k1, k2, k3⟩ => ⟨e, W'', k1, h1.trans k2, k3⟩
theorem x_one {st₁ : Stmt} {rest : List Stmt} {mx : AM Unit} (R : RefX G C (exec st₁ C.env) cls mx) : RefX G C (execs (st₁ :: rest) C.env) cls mx := by
  intro kp pn W s st A hA I hΓ u st' hm
  exact wpAny_execs_cons (wpAny_mono (R kp pn W s st A hA I hΓ u st' hm) (fun _ _ x => x.elim) fun _ _ x => x)
theorem x_If {test : Expr} {body orelse : List Stmt} {pos : Pos} {mt : AM Bool} {m1 m2 : AM Unit} (Rt : Ref G C true (isTrue test C.env (eval test C.env)) RB mt) (R1 : RefX G C (execs body C.env) cls m1) (R2 : RefX G C (execs orelse C.env) cls m2) :
    RefX G C (exec (.If test body orelse pos) C.env) cls (iteA mt m1 m2) := by
  intro kp pn W s st A hA I _ u st' hm
  obtain ⟨t, st1, e1, e2⟩ := bind_some hm
  refine wpAny_If (Rt.use0 hA I e1 fun a s' W' h1 h2 h3 => ?_)
  obtain rfl : a = t := h3
  cases a with
  | true => exact wpAny_mono (R1 kp pn W' s' st1 A hA h2 (fun _ h => nomatch h) u st' e2) (fun _ _ x => x.elim) fun x s'' ⟨e, W'', k1, k2, k3⟩ => ⟨e, W'', k1, h1.trans k2, k3⟩
  | false => exact wpAny_mono (R2 kp pn W' s' st1 A hA h2 (fun _ h => nomatch h) u st' e2) (fun _ _ x => x.elim) fun x s'' ⟨e, W'', k1, k2, k3⟩ => ⟨e, W'', k1, h1.trans k2, k3⟩
theorem Way.map {kp kp' pn : List (Addr × Obj)} {W : WS} {s : Shared} {st : St} {e : Addr} (F : Way G C kp pn W s st e cls) (f : ∀ s', G.I C kp pn W s' st → G.I C kp' pn W s' st) : Way G C kp' pn W s st e cls := by
  obtain ⟨B, a0, h1, h2, h3, h4, h5⟩ := F
  exact ⟨B, a0, h1, h2, h3, h4, fun h tk k1 k2 => f _ (h5 h tk k1 k2)⟩
/-- the first turn raises -/
noncomputable def forXA (src : St → Option (List AV)) (ta : AV → AM Unit) (mx : AM Unit) : AM Unit := fun st => match src st with
  | some (av :: _) => ((ta av).bind fun _ => mx) st
  | _ => none
theorem x_For {tgt iter : Expr} {body : List Stmt} {pos : Pos} {mi : AM (St → Option (List AV))} {ta : AV → AM Unit} {mx : AM Unit} (ho : ∃ o, C.envs = C.env :: o) (hf : C.env.frame = some C.L) (Ri : IterOk G C iter mi)
    (Rt : ∀ v av, Ref G C true (assign tgt C.env v) RU (ta av) [(v, av)]) (Rb : RefX G C (execs body C.env) cls mx)
    (hs : ∀ x, foldedSetIterable iter C.env x = pure x) : RefX G C (exec (.For tgt iter body [] pos) C.env) cls (mi.bind fun src => forXA src ta mx) := by
  intro kp pn W s st A hA I _ u st' hm
  obtain ⟨src, st1, e1, e2⟩ := bind_some hm
  obtain ⟨o, ho⟩ := ho
  refine wpAny_For (wpAny_mono (Ri kp pn W s st A hA I src st1 e1 _ fun it s' W' P ob h1 h2 h3 h4 h5 h6 h7 => ?_) (fun x s1 h => wpAny_mono h (fun _ _ x => x) fun _ _ x => x.elim) fun _ _ x => x.elim) hs
  refine codeAny_loop' rfl (fun _ s'' => s'' = s') (fun n s'' hs' => ?_) 0 rfl
  subst hs'
  show wpAny _ _ ((forTurn tgt (.ref it) body [] C.env).onRaise (fun x => do noteFrame x C.env; theTreesLotGoes x)) _ _ s''
  refine wpAny_noted ?_
  simp only [forTurn]
  unfold forXA at e2
  split at e2
  · rename_i av l hl
    obtain ⟨_, st2, e3, e4⟩ := bind_some e2
    refine wpAny_bind (wpAny_standAt (wpAny_bind (wpAny_onRaise (wpAny_mono (Steps.item (h3 C) 0 kp W' s'' st1 A ob (av :: l) av _ hA (.refl _) h2 hl rfl h5 h6 fun v h' tk o' hr ho' hP' hsm => ?_) (fun _ _ x => x) fun _ _ x => x.elim))))
    have I1 : G.I C kp pn W' { s'' with heap := h', toks := tk } st1 := Inv.stepIt h2 h7 hsm.extBut h4
    obtain ⟨t', vs', hc', hd', hn'⟩ := (h3 C).obj o' _ hP'
    refine wpAny_bind (letOwned_quiet ho' hc' hd' hn' ?_)
    have I2 := I1.hold h7 ho'
    refine wpAny_bind ((Rt v av).use hA I2 (fun p hp => by rw [List.mem_singleton.mp hp]; exact hr) e3 fun _ s2 W2 k1 k2 _ => ?_)
    refine wpAny_bind (wpAny_mono (Rb _ pn W2 s2 st2 A hA k2 (fun _ h => nomatch h) u st' e4) (fun _ _ x => x.elim) fun x s3 ⟨e, W3, q1, q2, q3⟩ => ?_)
    subst q1
    refine (Way.map q3 fun s' I => (I.unhold h7).1).note hA ho hf fun h'' H => ?_
    exact H.back hf fun h3' H' => ⟨e, W3, rfl, (h1.trans k1).trans q2, H'.way⟩
  · cases e2
end
end Mine

open PySem PySem.W PyProof.Rows PySem.Calls PySem.Spec
set_option Elab.async false
namespace Mine
set_option maxRecDepth 100000
/-- the body ends with an exception -/
noncomputable def BodyX (G : Gl) (F : FnS) (d : Nat) (cls : Value) (mx : AM Unit) : Prop := ∀ L q f c envs dep un ups gn, (gn = 0 ∧ ∃ o, envs = (actOf F L q f c envs dep un ups gn).env :: o) → (actOf F L q f c envs dep un ups gn).Ok → dep ≤ d → un ≤ 4 * d →
  RefX G (actOf F L q f c envs dep un ups gn) (execs F.body (actOf F L q f c envs dep un ups gn).env) cls mx
noncomputable def callXA (F : FnS) (mx : AM Unit) (args : List AV) : AM Unit := fun st => if args.length = F.pars.length then
    match mx ⟨args.map some ++ restLoc F.rest st.heap.length, st.heap ++ F.ks.map fun _ => .cell none⟩ with
    | some (_, st') => some ((), ⟨st.loc, st'.heap⟩)
    | none => none
  else none
/-- ends with an exception that has come from a callee -/
noncomputable def RefY (G : Gl) (C : Act) {α : Type} (t : Sem α) (cls : Value) (mx : AM Unit) (Γ : List (Value × AV) := []) : Prop :=
  ∀ kp pn W s st A, AOk C true A → G.I C kp pn W s st → (∀ p ∈ Γ, RV W p.1 p.2) → ∀ u st', mx st = some (u, st') →
    wpAny G.M A t (fun _ _ => False) (fun x s' => ∃ e W', x = .ref e ∧ W.le W' ∧ Fly G C kp pn W' s' st' e cls) s
section
variable {G : Gl} {C : Act} {α : Type} {cls : Value}
theorem RefY.x {t : Sem α} {mx : AM Unit} {Γ : List (Value × AV)} (R : RefY G C t cls mx Γ) : RefX G C t cls mx Γ := fun kp pn W s st A hA I hΓ u st' hm =>
  wpAny_mono (R kp pn W s st A hA I hΓ u st' hm) (fun _ _ x => x) fun x s' ⟨e, W', h1, h2, h3⟩ => ⟨e, W', h1, h2, h3.way⟩
theorem enter_fnX (hG : G.Ok) {F : FnS} (hF : F.Ok) {fa : Addr} {fd : FuncData} (hf : FnAt G F fa fd) {mx : AM Unit} {d dC : Nat} (Rb : BodyX G F d cls mx)
    {kp pn : List (Addr × Obj)} {W : WS} {s : Shared} {st st' : St} {A : Around} (hA : AOk C true A) (I : G.I C kp pn W s st) (hb0 : C.dep ≤ dC ∧ C.un ≤ 4 * dC) (hd : dC + 1 ≤ d) (hd6 : d ≤ 600)
    {binds : List (Str × Value)} {avs : List AV} (hn : binds.map (·.1) = F.pars) (hr : RVs W (binds.map (·.2)) avs) {u : Unit} (hm : callXA F mx avs st = some (u, st')) (hx : C.gn = 0) :
    wpAny G.M A.in1 (newFunctionEnv fd.scope fd.globals fd.closure binds (fd.qualname ++ ".<locals>.") (some fa) fd.code none fd.builtins)
      (fun env s₂ => s₂.heap.NoLimit ∧ codeAny G.M A (.func F.body env) (fun r s' => ∃ e W', r = .error (.ref e) ∧ W.le W' ∧ Fly G C kp pn W' s' st' e cls) s₂) (fun _ _ => False) s := by
  refine enter_gen hG hF hf hA I hb0 hd hd6 hn hr fun env oL es ep m s₂ W₁ he' e2 e3 e4 hl le hlim hact h5 h6 hA' J => ⟨hlim, codeAny_func ?_⟩
  have hRb : RefX G (calleeAct F C env s.heap.objs.size oL) (execs F.body env) cls mx := by
    have e := calleeAct_eq (C := C) (oL := oL) he'
    have := Rb s.heap.objs.size (fd.qualname ++ ".<locals>.") (some fa) fd.code (env :: C.envs) (C.dep + 1) (C.un + 4) ((C.L, oL) :: C.ups) C.gn ⟨hx, C.envs, by rw [he']; rfl⟩ (e ▸ hact) h5 h6
    rw [← e] at this
    exact this
  unfold callXA at hm
  have hlen : avs.length = F.pars.length := by rw [← hn, List.length_map, ← hr.length, List.length_map]
  rw [if_pos hlen] at hm
  split at hm
  · rename_i st1 hb
    cases hm
    refine wpAny_mono (hRb kp pn W₁ s₂ _ _ hA' J (fun _ h => nomatch h) _ _ hb) (fun _ _ x => x.elim) fun x s' ⟨e, W', h1, h2, h3⟩ => ?_
    subst h1
    exact Way.leave I e2 e3 e4 hl (le.trans h2) hA' (by rw [he']; rfl) h3 fun h' H => ⟨e, W', rfl, le.trans h2, H⟩
  · cases hm
end
end Mine

open PySem PySem.W PyProof.Rows PySem.Calls PySem.Spec
set_option Elab.async false
namespace Mine
set_option maxRecDepth 100000
section
variable {G : Gl} {C : Act} {α : Type} {cls : Value}
noncomputable def callVXA (F : FnS) (k : Nat) (mx : AM Unit) (avs : List AV) : AM Unit := match datsA (avs.drop k) with
  | some ds => if k ≤ avs.length ∧ ds.length < 1000 then callXA F mx (avs.take k ++ [.dat (.tuple ds)]) else AM.fail
  | none => AM.fail
theorem callXA_len {F : FnS} {mx : AM Unit} {avs : List AV} {st : St} {r : Unit × St} (h : callXA F mx avs st = some r) : avs.length = F.pars.length := by
  unfold callXA at h
  split at h
  · rename_i e; exact e
  · cases h
theorem code_fnVX (hG : G.Ok) {F : FnS} (hF : F.Ok) {fa : Addr} {fd : FuncData} (hf : FnAt G F fa fd) {mx : AM Unit} {d dC k : Nat} (Rb : BodyX G F d cls mx) (hb0 : C.dep ≤ dC ∧ C.un ≤ 4 * dC) (hd : dC + 1 ≤ d) (hd6 : d ≤ 600)
    (hb : ∀ vs : List Value, k ≤ vs.length → bindArgs fd ⟨vs, []⟩ = (newTuple (vs.drop k) >>= fun t => pure (F.pars.zip (vs.take k ++ [t])))) {vs : List Value} {avs : List AV}
    {kp pn : List (Addr × Obj)} {W : WS} {s : Shared} {st st' : St} {A : Around} (hA : AOk C true A) (I : G.I C kp pn W s st) (hr : RVs W vs avs) {u : Unit} (hm : callVXA F k mx avs st = some (u, st')) (hx : C.gn = 0) :
    codeAny G.M A (.call (.ref fa) ⟨vs, []⟩) (fun r s' => ∃ e W', r = .error (.ref e) ∧ W.le W' ∧ Fly G C kp pn W' s' st' e cls) s := by
  obtain ⟨o, ho, hd'⟩ := hf.at'
  unfold callVXA at hm
  cases hds : datsA (avs.drop k) with
  | none => rw [hds] at hm; exact (fail_some hm).elim
  | some ds =>
    rw [hds] at hm
    dsimp only at hm
    by_cases hk : k ≤ avs.length ∧ ds.length < 1000
    · rw [if_pos hk] at hm
      have hdr := dats_of (hr.drop k) hds
      refine codeAny_call_function (o := o) (fd := fd) (Nat.lt_of_le_of_lt hA.dep ?_) (I.base _ _ (hG.X _ _ ho)) hd' (by rw [hf.scope]; exact hF.co) (by rw [hf.scope]; exact hF.gen) hf.body (hf.code.keeps I.base) ?_
      · have : recursionLimit = 1000 := rfl
        omega
      · rw [hb vs (by rw [hr.length]; exact hk.1)]
        refine wpAny_bind (wpAny_newTuple (wpAny_pure ?_) (by rw [hdr.length]; exact sz1000 hk.2))
        obtain ⟨I', le⟩ := Inv.push (s' := { s with heap := s.heap.push { cls := .type "tuple", data := .seq (vs.drop k).toArray } }) I { cls := .type "tuple", data := .seq (vs.drop k).toArray } rfl
        have hlen := callXA_len hm
        have hr' : RVs ⟨W.sig, (s.heap.objs.size, { cls := .type "tuple", data := .seq (vs.drop k).toArray }) :: W.frz⟩ (vs.take k ++ [.ref s.heap.objs.size]) (avs.take k ++ [AV.dat (.tuple ds)]) :=
          (RVs.mono le (hr.take k)).append (.cons (.tuple (.head _) (by rw [List.toList_toArray]; exact RDs.mono le.frz hdr)) .nil)
        refine wpAny_mono (enter_fnX hG hF hf Rb hA I' hb0 hd hd6 ?_ ?_ hm hx) (fun _ s2 x => ⟨x.1, codeAny_mono x.2 fun r s' ⟨v, W', q1, q2, q3⟩ => ⟨v, W', q1, le.trans q2, q3⟩⟩) fun _ _ x => x.elim
        · rw [List.map_fst_zip]; rw [hr'.length, hlen]; exact Nat.le_refl _
        · rw [List.map_snd_zip (by rw [hr'.length, hlen]; exact Nat.le_refl _)]; exact hr'
    · rw [if_neg hk] at hm; exact (fail_some hm).elim
theorem ref_fnY (hG : G.Ok) {F : FnS} (hF : F.Ok) {fa : Addr} {fd : FuncData} (hf : FnAt G F fa fd) {mx : AM Unit} {d dC : Nat} (Rb : BodyX G F d cls mx) (hb0 : C.dep ≤ dC ∧ C.un ≤ 4 * dC) (hd : dC + 1 ≤ d) (hd6 : d ≤ 600)
    (hb : ∀ vs : List Value, vs.length = F.pars.length → bindArgs fd ⟨vs, []⟩ = pure (F.pars.zip vs)) (hx : C.gn = 0) (vs : List Value) (avs : List AV) (hl : vs.length = avs.length) : RefY G C (call (.ref fa) vs) cls (callXA F mx avs) (vs.zip avs) := by
  intro kp pn W s st A hA I hΓ u st' hm
  obtain ⟨o, ho, hd'⟩ := hf.at'
  have hlen : vs.length = F.pars.length := by rw [hl, callXA_len hm]
  have hr : RVs W vs avs := zip_rel' hl hΓ
  refine wpAny_call (codeAny_mono (R := fun r s' => ∃ e W', r = .error (.ref e) ∧ W.le W' ∧ Fly G C kp pn W' s' st' e cls) ?_ fun r s' ⟨e, W', q, h1, h2⟩ => ?_)
  · refine codeAny_call_function (o := o) (fd := fd) (Nat.lt_of_le_of_lt hA.dep ?_) (I.base _ _ (hG.X _ _ ho)) hd' (by rw [hf.scope]; exact hF.co) (by rw [hf.scope]; exact hF.gen) hf.body (hf.code.keeps I.base) ?_
    · have : recursionLimit = 1000 := rfl
      omega
    · rw [hb vs hlen]
      refine wpAny_pure (wpAny_mono (enter_fnX hG hF hf Rb hA I hb0 hd hd6 ?_ ?_ hm hx) (fun _ _ x => x) fun _ _ x => x.elim)
      · rw [List.map_fst_zip]; omega
      · rw [List.map_snd_zip (by omega)]; exact hr
  · subst q; exact ⟨e, W', rfl, h1, h2⟩
theorem ref_fnVY (hG : G.Ok) {F : FnS} (hF : F.Ok) {fa : Addr} {fd : FuncData} (hf : FnAt G F fa fd) {mx : AM Unit} {d dC k : Nat} (Rb : BodyX G F d cls mx) (hb0 : C.dep ≤ dC ∧ C.un ≤ 4 * dC) (hd : dC + 1 ≤ d) (hd6 : d ≤ 600)
    (hb : ∀ vs : List Value, k ≤ vs.length → bindArgs fd ⟨vs, []⟩ = (newTuple (vs.drop k) >>= fun t => pure (F.pars.zip (vs.take k ++ [t])))) (hx : C.gn = 0) (vs : List Value) (avs : List AV) (hl : vs.length = avs.length) : RefY G C (call (.ref fa) vs) cls (callVXA F k mx avs) (vs.zip avs) := by
  intro kp pn W s st A hA I hΓ u st' hm
  refine wpAny_call (codeAny_mono (code_fnVX hG hF hf Rb hb0 hd hd6 hb hA I (zip_rel' hl hΓ) hm hx) fun r s' ⟨e, W', q, h1, h2⟩ => ?_)
  subst q; exact ⟨e, W', rfl, h1, h2⟩
noncomputable def methXA (mo : AM AV) (ok : AV → St → Bool) (ms : List (AM AV)) (fm : List AV → AM Unit) : AM Unit := mo.bind fun av => (guardA ok av).bind fun _ => (listA ms).bind fun avs => fm (av :: avs)
theorem y_MCall (hG : G.Ok) {o : Expr} {name : Str} {apos pos : Pos} {e : Expr} {rest : List Expr} {f : Value} {mo : AM AV} {ok : AV → St → Bool} {ms : List (AM AV)} {fm : List AV → AM Unit} (Ro : Ref G C true (eval o C.env) RV mo) (Rm : MthOk G C name f ok) (hw : CW G f)
    (Ra : Ref G C true (spliced (backTo pos (starEach (e :: rest) C.env))) RL (listA ms)) (Rc : ∀ vs avs, vs.length = avs.length → RefY G C (call f vs) cls (fm avs) (vs.zip avs))
    (he : starEach (e :: rest) C.env = (false, eval e C.env) :: starEach rest C.env) (hp : (backTo pos (starEach rest C.env)).any (·.1) = false)
    {pl : Sem Bool} (he' : eval (.Call (.Attribute o name apos) (e :: rest) [] pos) C.env = (do
      let ov ← eval o C.env
      standAt apos.atName
      let (f, first) ← holding [ov] (getMethod ov name pl)
      callWith pos f first (backTo pos (starEach (e :: rest) C.env)) [])) : RefY G C (eval (.Call (.Attribute o name apos) (e :: rest) [] pos) C.env) cls (methXA mo ok ms fm) := by
  intro kp pn W s st A hA I _ u st' hm
  obtain ⟨av, st1, e1, e2⟩ := bind_some hm
  obtain ⟨_, st2, e3, e4⟩ := bind_some e2
  obtain ⟨hok, rfl⟩ := guard_some e3
  obtain ⟨l, st3, e5, e6⟩ := bind_some e4
  refine MethodCall_ (Ro.use0 hA I e1 fun v s1 W1 h1 h2 h3 => Rm h2 h3 hok fun tk => ?_) he'
  refine hw.one hG.X he hp (Ra.use0 hA h2.toks e5 fun vs s3 W3 j1 j2 j3 => ⟨hG.X.keeps j2.base, ?_⟩)
  refine wpAny_mono (Rc (v :: vs) (av :: l) (by simp [j3.length]) kp pn W3 s3 st3 A hA j2 (fun p hp => ?_) u st' e6) (fun _ _ x => x.elim) fun x s2 ⟨e, W2, k1, k2, k3⟩ => ⟨e, W2, k1, (h1.trans j1).trans k2, k3⟩
  rcases List.mem_cons.mp hp with rfl | hp
  · exact h3.mono j1
  · exact ref_Call.zip_rel j3 p hp
theorem y_MCall0 (hG : G.Ok) {o : Expr} {name : Str} {apos pos : Pos} {f : Value} {mo : AM AV} {ok : AV → St → Bool} {fm : List AV → AM Unit} (Ro : Ref G C true (eval o C.env) RV mo) (Rm : MthOk G C name f ok) (hw : CW G f)
    (Rc : ∀ vs avs, vs.length = avs.length → RefY G C (call f vs) cls (fm avs) (vs.zip avs))
    {pl : Sem Bool} (he' : eval (.Call (.Attribute o name apos) [] [] pos) C.env = (do
      let ov ← eval o C.env
      standAt apos.atName
      let (f, first) ← holding [ov] (getMethod ov name pl)
      callWith pos f first (backTo pos (starEach [] C.env)) [])) : RefY G C (eval (.Call (.Attribute o name apos) [] [] pos) C.env) cls (methXA mo ok [] fm) := by
  intro kp pn W s st A hA I _ u st' hm
  obtain ⟨av, st1, e1, e2⟩ := bind_some hm
  obtain ⟨_, st2, e3, e4⟩ := bind_some e2
  obtain ⟨hok, rfl⟩ := guard_some e3
  obtain ⟨l, st3, e5, e6⟩ := bind_some e4
  obtain ⟨rfl, rfl⟩ := pure_some e5
  refine MethodCall_ (Ro.use0 hA I e1 fun v s1 W1 h1 h2 h3 => Rm h2 h3 hok fun tk => ?_) he'
  refine hw.zero (hG.X.keeps h2.base) ?_
  refine wpAny_mono (Rc [v] [av] rfl kp pn W1 _ _ A hA h2.toks (fun p hp => ?_) u st' e6) (fun _ _ x => x.elim) fun x s2 ⟨e, W2, k1, k2, k3⟩ => ⟨e, W2, k1, h1.trans k2, k3⟩
  rw [List.mem_singleton.mp hp]; exact h3
theorem y_Expr {e : Expr} {pos : Pos} {mx : AM Unit} (R : RefY G C (eval e C.env) cls mx) (hi : interactive C.env = false) (hs : swapsWith e none pos.line C.env = pure false) :
    RefY G C (exec (.Expr e pos) C.env) cls mx := by
  intro kp pn W s st A hA I hΓ u st' hm
  rw [exec_Expr C.env _ pos hi hs]
  exact wpAny_bind (wpAny_standAt (wpAny_bind (wpAny_mono (R kp pn W s st A hA I hΓ u st' hm) (fun _ _ x => x.elim) fun _ _ x => x)))
theorem y_one {st₁ : Stmt} {rest : List Stmt} {mx : AM Unit} (R : RefY G C (exec st₁ C.env) cls mx) : RefY G C (execs (st₁ :: rest) C.env) cls mx := by
  intro kp pn W s st A hA I hΓ u st' hm
  exact wpAny_execs_cons (wpAny_mono (R kp pn W s st A hA I hΓ u st' hm) (fun _ _ x => x.elim) fun _ _ x => x)
end
end Mine

open PySem PySem.W PyProof.Rows PySem.Calls PySem.Spec
set_option Elab.async false
namespace Mine
set_option maxRecDepth 100000
section
variable {G : Gl} {C : Act} {α : Type} {cls : Value}
theorem Fly.land {A : Around} {kp pn : List (Addr × Obj)} {W : WS} {s : Shared} {st : St} {e : Addr} {cls : Value}
    (F : Fly G C kp pn W s st e cls) {Q : Unit → Shared → Prop} {E : Value → Shared → Prop} (hQ : ∀ h', Fly G C kp pn W { s with heap := h' } st e cls → Q () { s with heap := h' }) : wpAny G.M A (setFlight (.ref e) none) Q E s := by
  obtain ⟨B, a0, ⟨f1, f2, f3, f4⟩, h5⟩ := F
  exact wpAny_setFlight_noneW f1 f3 f4.at fun h' k1 k2 k3 k4 => hQ h' ⟨B, a0, ⟨k1, f2, k2, k3⟩, fun h'' tk q1 q2 => h5 h'' tk q1 (Heap.UpToSlots.trans (fun b o hb hn => ⟨o.slots, k4 b o hb hn⟩) q2)⟩
noncomputable def tryA (m : AM AF) (mx : AM Unit) (mh : AM AF) : AM AF := fun st => match m st with
  | some r => some r
  | none => (mx.bind fun _ => mh) st
theorem ref_Try {body : List Stmt} {x : Str} {p pos1 pos : Pos} {X T : String} {b₀ : Stmt} {suite : List Stmt} {m mh : AM AF} {mx : AM Unit} (ho : ∃ o, C.envs = C.env :: o) (hf : C.env.frame = some C.L)
    (hexc : isSubtype (.type T) (.type "BaseException") = pure true) (hnt : isSubtype (.type ((Manifest.find? T).elim "type" fun x => x.metatype)) (.type "tuple") = pure false)
    (hsub : isSubtype (.type X) (.type T) = pure true) (Rn : Ref G C true (execs body C.env) RF m) (Rx : RefX G C (execs body C.env) (.type X) mx) (hN : Nm G C x (.type T)) (Rh : Ref G C false (execs (b₀ :: suite) C.env) RF mh) :
    Ref G C true (exec (.Try body [.ExceptHandler (some (.Name x p)) none (b₀ :: suite) pos1] [] [] pos) C.env) RF (tryA m mx mh) := by
  intro kp pn W s st A hA I _ b st' hm
  obtain ⟨o, ho⟩ := ho
  unfold tryA at hm
  refine wpAny_Try_except ?_
  split at hm
  · rename_i r hr
    cases hm
    refine Rn.use0 hA I hr fun f s' W' h1 h2 h3 => ?_
    cases f with
    | next => exact wpAny_execs_nil ⟨W', h1, h2, h3⟩
    | brk => exact ⟨W', h1, h2, h3⟩
    | cont => exact ⟨W', h1, h2, h3⟩
    | ret v => exact ⟨W', h1, h2, h3⟩
  · obtain ⟨u, st1, e1, e2⟩ := bind_some hm
    refine wpAny_mono (Rx kp pn W s st A hA I (fun _ h => nomatch h) u st1 e1) (fun _ _ x => x.elim) fun v s' ⟨e, W', h1, h2, h3⟩ => ?_
    subst h1
    refine h3.note hA ho hf fun h' H => H.land fun h'' Y => wpAny_handleBy_builtin hexc hnt hsub (hN Y.inv ⟨rfl, Y.type, ?_⟩)
    rw [if_pos rfl]
    refine Y.land fun h3' Z => ?_
    refine Rh.use0 (A := A.mark (some (.ref e))) ⟨hA.fr, hA.dep, hA.un, (fun h => nomatch h), hA.fo⟩ Z.inv e2 fun f s'' W'' k1 k2 k3 => ⟨W'', h2.trans k1, k2, k3⟩
end
end Mine

open PySem PySem.W PyProof.Rows PySem.Calls PySem.Spec
set_option Elab.async false
namespace Mine
set_option maxRecDepth 100000
section
variable {G : Gl} {C : Act} {α : Type} {cls : Value}
/-- raise X(args) of a built-in class -/
theorem x_Raise (hG : G.Ok) {x : Str} {p pos pos2 : Pos} {e : Expr} {X N I : String} (hc : ExcClass X N I) (h0 : C.gn = 0) (hN : Nm G C x (.type X)) {m : AM Unit}
    (Ra : Ref G C true (spliced (backTo pos (starEach [e] C.env))) (fun _ vs _ => vs.length = 1) m)
    (he : starEach [e] C.env = (false, eval e C.env) :: starEach [] C.env) (hp : (backTo pos (starEach [] C.env)).any (·.1) = false) :
    RefX G C (exec (.Raise (some (.Call (.Name x p) [e] [] pos)) none pos2) C.env) (.type X) m := by
  intro kp pn W s st A hA I _ u st' hm
  refine Raise_new (hA.hd rfl) (Call_Name rfl (hN I ?_))
  refine (cw_type (G := G)).one hG.X he hp (Ra.use0 hA I hm fun vs s1 W1 h1 h2 h3 => ⟨hG.X.keeps h2.base, ?_⟩)
  refine call_exc_raise hc (fun h' a hx => ?_) (by rw [List.nil_append, h3]; exact sz1000 (by decide))
  obtain ⟨ob, t, k1, k2, k3⟩ := hx.there
  exact ⟨a, W1, rfl, h1, k2 ▸ Way.new hA h0 h2 hx.keeps hx.new k1 k3 rfl rfl⟩
end
end Mine

open PySem PySem.W PyProof.Rows PySem.Calls PySem.Spec
set_option Elab.async false
namespace Mine
set_option maxRecDepth 100000
section
variable {G : Gl} {C : Act} {hq : Bool}
theorem w_one {pos : Pos} {e : Expr} {m : AM Unit} (R : Ref G C hq (eval e C.env) (fun _ _ _ => True) m) (he : starEach [e] C.env = (false, eval e C.env) :: starEach [] C.env) :
    Ref G C hq (spliced (backTo pos (starEach [e] C.env))) (fun _ vs _ => vs.length = 1) m := by
  intro kp pn W s st A hA I _ b st' hm
  refine wpAny_items_cons (R.use0 hA I hm fun v s1 W1 h1 h2 h3 => wpAny_items_nil ⟨W1, h1, h2, rfl⟩) he
noncomputable def smallA (a b : Str) : AV → AM Unit
  | .dat (.int i) => fun st => if i.natAbs.log2 < 1920 ∧ (Str.empty ++ a).length < 1000 ∧ (toString i : Str).length < 1000 ∧ (Str.empty ++ a ++ (toString i : Str)).length < 1000 ∧ (Str.empty ++ a ++ (toString i : Str) ++ b).length < 1000 then some ((), st) else none
  | _ => AM.fail
theorem w_JoinedStr {a b : Str} {k1 k2 : Nat} {p1 p2 p3 pos : Pos} {e : Expr} {mn : AM AV} (Rn : Ref G C hq (eval e C.env) RV mn) :
    Ref G C hq (eval (.JoinedStr [.Constant (.str a) k1 p1, .FormattedValue e 114 none p2, .Constant (.str b) k2 p3] pos) C.env) (fun _ _ _ => True) (mn.bind (smallA a b)) := by
  intro kp pn W s st A hA I _ u st' hm
  obtain ⟨av, st1, e1, e2⟩ := bind_some hm
  unfold smallA at e2
  split at e2
  · rename_i i
    split at e2
    · rename_i hi
      obtain ⟨i1, i2, i3, i4, i5⟩ := hi
      cases e2
      refine wpAny_JoinedStr (wpAny_Constant_str ⟨a, _, rfl, sz1000 i2, ?_⟩)
      refine wpAny_FormattedValue_repr (Rn.use0 hA I.toks e1 fun v s1 W1 h1 h2 h3 => ?_)
      cases h3 with
      | int _ t =>
        refine pyReprObj_int i1 ?_
        refine wpAny_formatField_str ?_ ?_ (sz1000 i3)
        · exact ⟨_, _, rfl, sz1000 i4, wpAny_Constant_str ⟨b, _, rfl, sz1000 i5, sz1000 i5, W1, h1, h2.toks, trivial⟩⟩
        · exact ⟨_, _, rfl, sz1000 i4, wpAny_Constant_str ⟨b, _, rfl, sz1000 i5, sz1000 i5, W1, h1, h2.toks, trivial⟩⟩
    · cases e2
  · exact (fail_some e2).elim
end
end Mine

open PySem PySem.W PyProof.Rows PySem.Calls PySem.Spec
set_option Elab.async false
namespace Mine
set_option maxRecDepth 100000
section
variable {G : Gl} {C : Act} {cls : Value}
theorem y_MTV (k : Nat) (hG : G.Ok) (hT : TopCls G) (hx : C.gn = 0) {o : Expr} {name : Str} {apos pos : Pos} {e : Expr} {rest : List Expr} {F : FnS} {mo : AM AV} {ms : List (AM AV)} {mb : AM Unit} {d dC : Nat}
    (h : ∃ fa fd, TopM G name F fa fd ∧ ∀ vs : List Value, k ≤ vs.length → bindArgs fd ⟨vs, []⟩ = (newTuple (vs.drop k) >>= fun t => pure (F.pars.zip (vs.take k ++ [t])))) (Rb : BodyX G F d cls mb)
    (hb0 : C.dep ≤ dC ∧ C.un ≤ 4 * dC) (hd : dC + 1 ≤ d) (hd6 : d ≤ 600) (Ro : Ref G C true (eval o C.env) RV mo) (Ra : Ref G C true (spliced (backTo pos (starEach (e :: rest) C.env))) RL (listA ms))
    (he : starEach (e :: rest) C.env = (false, eval e C.env) :: starEach rest C.env) (hp : (backTo pos (starEach rest C.env)).any (·.1) = false) {pl : Sem Bool} (he' : eval (.Call (.Attribute o name apos) (e :: rest) [] pos) C.env = (do
      let ov ← eval o C.env
      standAt apos.atName
      let (f, first) ← holding [ov] (getMethod ov name pl)
      callWith pos f first (backTo pos (starEach (e :: rest) C.env)) [])) : RefY G C (eval (.Call (.Attribute o name apos) (e :: rest) [] pos) C.env) cls (methXA mo isTopA ms (callVXA F k mb)) := by
  obtain ⟨fa, fd, hm, hb⟩ := h
  exact y_MCall hG Ro (mth_top hG hT hm) (cw_K hm.keep) Ra (fun vs avs hl => ref_fnVY hG hm.ok hm.at' Rb hb0 hd hd6 hb hx vs avs hl) he hp he'
theorem y_MT0 (hG : G.Ok) (hT : TopCls G) (hx : C.gn = 0) {o : Expr} {name : Str} {apos pos : Pos} {F : FnS} {mo : AM AV} {mb : AM Unit} {d dC : Nat} (h : ∃ fa fd, TopM G name F fa fd ∧ ∀ vs : List Value, vs.length = F.pars.length → bindArgs fd ⟨vs, []⟩ = pure (F.pars.zip vs)) (Rb : BodyX G F d cls mb)
    (hb0 : C.dep ≤ dC ∧ C.un ≤ 4 * dC) (hd : dC + 1 ≤ d) (hd6 : d ≤ 600) (Ro : Ref G C true (eval o C.env) RV mo) {pl : Sem Bool} (he' : eval (.Call (.Attribute o name apos) [] [] pos) C.env = (do
      let ov ← eval o C.env
      standAt apos.atName
      let (f, first) ← holding [ov] (getMethod ov name pl)
      callWith pos f first (backTo pos (starEach [] C.env)) [])) : RefY G C (eval (.Call (.Attribute o name apos) [] [] pos) C.env) cls (methXA mo isTopA [] (callXA F mb)) := by
  obtain ⟨fa, fd, hm, hb⟩ := h
  exact y_MCall0 hG Ro (mth_top hG hT hm) (cw_K hm.keep) (fun vs avs hl => ref_fnY hG hm.ok hm.at' Rb hb0 hd hd6 hb hx vs avs hl) he'
end
end Mine

open PySem PySem.W PyProof.Rows PySem.Calls PySem.Spec
set_option Elab.async false
namespace Mine
set_option maxRecDepth 100000
set_option maxHeartbeats 1000000
namespace LI
theorem slot_ga : Slot "list_iterator" "__getattribute__" "object.__getattribute__" :=
  .of (owner := "object") (n := "__getattribute__") (by rw [typeLookup_type, builtinLookup_eq_fast]; kernel_rfl) (by decide +kernel) (by decide +kernel) (by decide +kernel)
    (by first | exact .inl (by decide +kernel) | exact .inr (by decide +kernel)) (by rw [isSubtype_type]; kernel_rfl)
theorem lk_next : typeLookup (.type "list_iterator") "__next__" = pure (some (.builtin "list_iterator.__next__")) := by rw [typeLookup_type, builtinLookup_eq_fast]; kernel_rfl
theorem ty_next : typeOf (.builtin "list_iterator.__next__") = pure (.type "wrapper_descriptor") := by show builtinType _ = _; rw [builtinType_eq_fast]; kernel_rfl
theorem slot_get : Slot "wrapper_descriptor" "__get__" "wrapper_descriptor.__get__" :=
  .of (owner := "wrapper_descriptor") (n := "__get__") (by rw [typeLookup_type, builtinLookup_eq_fast]; kernel_rfl) (by decide +kernel) (by decide +kernel) (by decide +kernel)
    (by first | exact .inl (by decide +kernel) | exact .inr (by decide +kernel)) (by rw [isSubtype_type]; kernel_rfl)
theorem no_set : typeLookup (.type "wrapper_descriptor") "__set__" = pure none := by rw [typeLookup_type, builtinLookup_eq_fast]; kernel_rfl
theorem no_delete : typeLookup (.type "wrapper_descriptor") "__delete__" = pure none := by rw [typeLookup_type, builtinLookup_eq_fast]; kernel_rfl
theorem entry_get : entryFor table "wrapper_descriptor.__get__" = some Builtin.«wrapper_descriptor.__get__» := entryFor_of_tree (by kernel_rfl)
theorem args_get (a b c : Value) : argsOk "wrapper_descriptor.__get__" ⟨[a, b, c], []⟩ := by unfold argsOk; kernel_rfl
theorem sub_owner : isSubtype (.type "list_iterator") (.type (".".intercalate ("list_iterator.__next__".cutAt '.').dropLast)) = pure true := by
  have e0 : "list_iterator.__next__".cutAt '.' = ["list_iterator", "__next__"] := by first | rfl | decide +kernel
  rw [e0, show (".".intercalate (["list_iterator", "__next__"] : List String).dropLast) = "list_iterator" from by decide +kernel, isSubtype_type]; kernel_rfl
end LI
section
variable {prog : Program} {w : World} {A : Around} {E : Value → Shared → Prop}
theorem li_get {h : Heap} {g : Array GenState} {d : Drawn} {t : Nat} {os : OsState} {a l : Addr} {i : Nat} {R : Result → Shared → Prop} (hx : h.get? a = some { cls := .type "list_iterator", data := .fields #[.ref l, .int i 0] })
    (hq : R (.ok (.ret (.ref h.objs.size))) ⟨h.push (wrapO a), g, d, t, os⟩) :
    codeAny (model prog w) A (.call (.builtin "wrapper_descriptor.__get__") ⟨[.builtin "list_iterator.__next__", .ref a, .type "list_iterator"], []⟩) R ⟨h, g, d, t, os⟩ := by
  have hT : ∀ tk', (⟨h, g, d, tk', os⟩ : Shared).TypeIs (.ref a) "list_iterator" := fun _ => ⟨_, hx, rfl⟩
  have hT5 : (⟨h, g, d, t, os⟩ : Shared).TypeIs (.builtin "list_iterator.__next__") "wrapper_descriptor" := LI.ty_next
  have f1 := LI.sub_owner
  refine codeAny_call_builtin LI.slot_get.plain LI.entry_get (LI.slot_get.check _ _ _ _ _ _ _ _ hT5 (LI.args_get _ _ _) ?_)
  repeat (any_goals (first | assumption | exact hT _ | wp_step))
theorem li_entry {h : Heap} {g : Array GenState} {d : Drawn} {t : Nat} {os : OsState} {a l : Addr} {i : Nat} {tk : Tok} {Q : Fin → Shared → Prop} (hx : h.get? a = some { cls := .type "list_iterator", data := .fields #[.ref l, .int i 0] })
    (hq : Q (.done (.ret (.ref h.objs.size))) ⟨h.push (wrapO a), g, d, t, os⟩) : wpAny (model prog w) A (Builtin.«object.__getattribute__» ⟨[.ref a, .str "__next__" tk], []⟩) Q E ⟨h, g, d, t, os⟩ := by
  have hT : ∀ tk', (⟨h, g, d, tk', os⟩ : Shared).TypeIs (.ref a) "list_iterator" := fun _ => ⟨_, hx, rfl⟩
  have f4 := LI.lk_next
  have f5 := LI.ty_next
  have f6 := LI.slot_get.lookup
  have f7 := LI.no_set
  have f8 := LI.no_delete
  repeat (any_goals (first | assumption | exact hT _ | wp_step))
  refine li_get hx ?_
  repeat (any_goals (first | assumption | exact hT _ | wp_step))
theorem li_getattr {h : Heap} {g : Array GenState} {d : Drawn} {t : Nat} {os : OsState} {a l : Addr} {i : Nat} {Q : Value → Shared → Prop} (hx : h.get? a = some { cls := .type "list_iterator", data := .fields #[.ref l, .int i 0] })
    (hq : Q (.ref h.objs.size) ⟨h.push (wrapO a), g, d, t + 1, os⟩) : wpAny (model prog w) A (getAttr (.ref a) "__next__" true) Q E ⟨h, g, d, t, os⟩ := by
  have hT : ∀ tk', (⟨h, g, d, tk', os⟩ : Shared).TypeIs (.ref a) "list_iterator" := fun _ => ⟨_, hx, rfl⟩
  have f3 := LI.slot_ga.lookup
  have f4 := LI.slot_ga.bind (.ref a)
  unfold getAttr getAttrBy
  repeat (any_goals (first | assumption | exact hT _ | wp_step))
  refine codeAny_call_builtin LI.slot_ga.plain F.entry_object_getattribute (LI.slot_ga.check _ _ _ _ _ _ _ _ (hT (t + 1)) (F.args_object_getattribute_2 _ _) (li_entry hx ?_))
  repeat (any_goals (first | assumption | exact hT _ | wp_step))
end
end Mine

open PySem PySem.W PyProof.Rows PySem.Calls PySem.Spec
set_option Elab.async false
namespace Mine
set_option maxRecDepth 100000
theorem li_bound_ok (a : Addr) : checkBoundCall "list_iterator.__next__" ⟨[.ref a], []⟩ = pure () := by first | kernel_rfl | rfl
section
variable {prog : Program} {w : World} {A : Around} {E : Value → Shared → Prop} {s : Shared}
theorem call_wrap {b it : Addr} {Q : Value → Shared → Prop} (hb : s.heap.get? b = some (wrapO it))
    (h : wpAny (model prog w) A.in1 (Builtin.«list_iterator.__next__» ⟨[.ref it], []⟩) (fun fin s' => match fin with | .done (.ret v) => Q v s' | _ => False) E s) : wpAny (model prog w) A (call (.ref b) []) Q E s := by
  refine wpAny_call (codeAny_of_tree ?_)
  show wpAny _ A.in1 (callAny (.ref b) ⟨[], []⟩) _ _ s
  simp only [callAny]
  refine wpAny_bind (wpAny_load hb ?_)
  simp only [wrapO, show (Value.type "method-wrapper" == Value.type "method" || Value.type "method-wrapper" == Value.type "builtin_function_or_method" || Value.type "method-wrapper" == Value.type "method-wrapper") = true by decide, if_true]
  refine KFB.if_so (by decide) ?_
  refine wpAny_bind (wpAny_of_eq (a := ()) (li_bound_ok it) ?_)
  refine wpAny_bind (wpAny_pure (wpAny_pure ⟨Code.quiet_builtin _ (by decide +kernel), codeAny_builtin entry_listiter_next ?_⟩))
  rw [Around.under_plainId (by decide +kernel)]
  refine wpAny_mono h (fun fin s' h' => ?_) fun _ _ x => x
  cases fin with
  | done f => cases f <;> first | exact h' | exact h'.elim
  | again c => exact h'.elim
theorem callWith_wrap {pos : Pos} {b it : Addr} {env : Env} {Q : Value → Shared → Prop} (hb : s.heap.get? b = some (wrapO it)) (h : wpAny (model prog w) A (call (.ref b) []) Q E s) :
    wpAny (model prog w) A (callWith pos (.ref b) [] (backTo pos (starEach [] env)) []) Q E s := by
  unfold callWith
  refine wpAny_bind (wpAny_holding (evalArgs_nil3 (wpAny_bind (wpAny_standAt ?_))))
  simp only [List.any_nil, Bool.or_false]
  refine wpAny_bind (m := keeperOf (.ref b)) ?_
  unfold keeperOf
  refine wpAny_bind (wpAny_load hb ?_)
  simp only [wrapO, show (Value.type "method-wrapper" != Value.type "method") = true by decide, show (Value.type "method-wrapper" == Value.type "builtin_function_or_method" || Value.type "method-wrapper" == Value.type "method-wrapper") = true by decide, if_true]
  refine wpAny_pure ?_
  exact wpAny_bind (wpAny_mono h (fun r s₂ hr => wpAny_bind (wpAny_holding (wpAny_point (wpAny_pure hr)))) fun _ _ x => x)
theorem li_item {it l : Addr} {i : Nat} {items : Array Value} {x : Value} {Q : Value → Shared → Prop} (ho : s.heap.get? it = some (listItO l i)) (hl : s.heap.IsList l items) (hx : items[i]? = some x)
    (hQ : Q x { s with heap := s.heap.update it (Obj.mapFields (·.setIfInBounds 1 (rawInt (i + 1)))) }) : wpAny (model prog w) A (Builtin.«list_iterator.__next__» ⟨[.ref it], []⟩) (fun fin s' => match fin with | .done (.ret v) => Q v s' | _ => False) E s := by
  obtain ⟨ol, hol, _, nl, hdl⟩ := hl
  show wpAny _ _ (field (.ref it) 0 >>= _) _ _ s
  refine wpAny_bind (wpAny_field ho rfl (x := .ref l) rfl ?_)
  show wpAny _ _ (if (Value.ref l == Value.none) = true then _ else _) _ _ s
  rw [if_neg (show ¬ ((Value.ref l == Value.none) = true) from Bool.false_ne_true)]
  show wpAny _ _ (field (.ref it) 1 >>= _) _ _ s
  refine wpAny_bind (wpAny_field ho rfl (x := .int i 0) rfl ?_)
  show wpAny _ _ (seqItems? (.ref l) >>= _) _ _ s
  refine wpAny_bind (wpAny_seqItems hol hdl ?_)
  simp only [Int.toNat_natCast, hx]
  exact wpAny_bind (wpAny_setField ho rfl (by simp) (wpAny_pure hQ))
theorem li_end {it l : Addr} {i : Nat} {items : Array Value} {Q : Fin → Shared → Prop} (hh : A.handled = none) (ho : s.heap.get? it = some (listItO l i)) (hl : s.heap.IsList l items) (hx : items[i]? = none)
    (hQ : ∀ (hm h' : Heap) e oe vs a0, (∀ b o, b ≠ it → s.heap.get? b = some o → hm.get? b = some o) → (∃ oi, hm.get? it = some oi) → (∀ b o, hm.get? b = some o → h'.get? b = some o) → hm.get? e = none → h'.get? e = some oe → oe.cls = .type "StopIteration" → oe.data = .fields vs → vs[1]? = some .none → vs[0]? = some a0 → E (.ref e) { s with heap := h' }) :
    wpAny (model prog w) A (Builtin.«list_iterator.__next__» ⟨[.ref it], []⟩) Q E s := by
  obtain ⟨ol, hol, _, nl, hdl⟩ := hl
  show wpAny _ _ (field (.ref it) 0 >>= _) _ _ s
  refine wpAny_bind (wpAny_field ho rfl (x := .ref l) rfl ?_)
  show wpAny _ _ (if (Value.ref l == Value.none) = true then _ else _) _ _ s
  rw [if_neg (show ¬ ((Value.ref l == Value.none) = true) from Bool.false_ne_true)]
  show wpAny _ _ (field (.ref it) 1 >>= _) _ _ s
  refine wpAny_bind (wpAny_field ho rfl (x := .int i 0) rfl ?_)
  show wpAny _ _ (seqItems? (.ref l) >>= _) _ _ s
  refine wpAny_bind (wpAny_seqItems hol hdl ?_)
  simp only [Int.toNat_natCast, hx]
  refine wpAny_bind (wpAny_rule (wpAny_bind (wpAny_setField ho rfl (by simp) ?_)))
  show wpAny _ _ (newExc (.type "StopIteration") [] >>= _) _ _ _
  refine wpAny_bind ?_
  simp only [newExc, newTuple]
  refine wpAny_bind (wpAny_newObj_type ?_ (by size_fits))
  refine wpAny_bind (m := firstArgMember _ _) (wpAny_of_eq (a := Value.none) (by first | rfl | (simp only [firstArgMember]; rfl)) ?_)
  refine wpAny_newObj_type ?_ (by size_fits)
  simp only [raiseNew]
  refine wpAny_bind (wpAny_handled ?_)
  rw [hh]
  refine wpAny_bind (wpAny_pure (wpAny_throw ?_))
  refine hQ (s.heap.update it (Obj.mapFields (·.setIfInBounds 0 .none))) _ _ _ _ _ (fun b o hb e => (Heap.get?_update_other _ _ (Ne.symm hb)).trans e) ⟨_, Heap.get?_update_self _ ho rfl⟩ (fun b o e => Heap.get?_push_of_some _ (Heap.get?_push_of_some _ e)) (Heap.get?_none_of_le (by simp)) (Heap.get?_push_size _ rfl) rfl rfl rfl rfl
end
end Mine

open PySem PySem.W PyProof.Rows PySem.Calls PySem.Spec
set_option Elab.async false
namespace Mine
set_option maxRecDepth 100000
section
variable {G : Gl} {C : Act} {hq : Bool}
noncomputable def iterNewA : List AV → AM AV
  | [.ref r] => fun st => match st.heap[r]? with
    | some (.list _) => some (.ref st.heap.length, ⟨st.loc, st.heap ++ [.iter r 0]⟩)
    | _ => none
  | _ => AM.fail
theorem ref_iter (vs : List Value) (avs : List AV) (hl : vs.length = avs.length) : Ref G C hq (call (.builtin "iter") vs) RV (iterNewA avs) (vs.zip avs) := by
  intro kp pn W s st A hA I hΓ b st' hm
  unfold iterNewA at hm
  split at hm
  · rename_i r
    split at hm
    · rename_i l hl'
      cases hm
      obtain ⟨v, rfl, a, ha, rfl⟩ := one_of hl hΓ
      obtain ⟨a', ha', o, ho, xs, n, rfl, hd⟩ := I.trk.get hl'
      rw [ha] at ha'; cases ha'
      refine call_function_entry (by decide +kernel) (by decide +kernel) kdk_entry_iter (kdk_args_iter _) ?_
      unfold Builtin.«iter»
      refine wpAny_bind (m := someArgs "iter" 1 2 _) (wpAny_of_eq (a := [Value.ref a]) (by first | rfl | kernel_rfl!) ?_)
      show wpAny _ _ (pyIter (.ref a) >>= _) _ _ _
      refine wpAny_bind (wpAny_pyIter_list ⟨_, ho, rfl, n, rfl⟩ ?_)
      obtain ⟨I', le⟩ := Inv.pushT (s' := { s with heap := s.heap.push (listItO a 0) }) I (listItO a 0) (.iter r 0) rfl fun le => ⟨a, le.sig _ _ ha, rfl⟩
      exact wpAny_pure ⟨_, rfl, _, le, I', _, by rw [I.trk.len']; simp, rfl⟩
    · cases hm
  · exact (fail_some hm).elim
noncomputable def bndA : AV → AM AV
  | .ref r => fun st => match st.heap[r]? with
    | some (.iter _ _) => some (.bnd r, st)
    | _ => none
  | _ => AM.fail
theorem ref_AttrNext {o : Expr} {pos : Pos} {m : AM AV} (R : Ref G C hq (eval o C.env) RV m)
    (he : eval (.Attribute o "__next__" pos) C.env = (do
      let o' ← eval o C.env
      standAt pos.atName
      let r ← holding [o'] (getAttr o' "__next__" true)
      letTemporaryGo o o' r
      pure r)) : Ref G C hq (eval (.Attribute o "__next__" pos) C.env) RV (m.bind bndA) := by
  intro kp pn W s st A hA I _ b st' hm
  obtain ⟨a, st1, e1, e2⟩ := bind_some hm
  refine Attribute_any_ (R.use0 hA I e1 fun v s1 W1 h1 h2 h3 => ?_) he
  unfold bndA at e2
  split at e2
  · rename_i r
    split at e2
    · rename_i q i hl
      cases e2
      obtain ⟨x, hx, rfl⟩ := h3
      obtain ⟨x', hx', o, ho, l, hl', rfl⟩ := h2.trk.get hl
      rw [hx] at hx'; cases hx'
      obtain ⟨I', le⟩ := Inv.push (s' := { s1 with heap := s1.heap.push (wrapO x), toks := s1.toks + 1 }) h2 (wrapO x) rfl
      exact li_getattr ho ⟨_, h1.trans le, I', x, _, hx, rfl, .head _⟩
    · cases e2
  · exact (fail_some e2).elim
noncomputable def nextA : AV → AM AV
  | .bnd i => fun st => match st.heap[i]? with
    | some (.iter r j) => match st.heap[r]? with
      | some (.list l) => match l[j]? with
        | some a => some (a, ⟨st.loc, st.heap.set i (.iter r (j + 1))⟩)
        | none => none
      | _ => none
    | _ => none
  | _ => AM.fail
noncomputable def nextXA : AV → AM Unit
  | .bnd i => fun st => match st.heap[i]? with
    | some (.iter r j) => match st.heap[r]? with
      | some (.list l) => match l[j]? with
        | some _ => none
        | none => some ((), ⟨st.loc, st.heap.set i .dead⟩)
      | _ => none
    | _ => none
  | _ => AM.fail
theorem ref_CallBnd {f : Expr} {pos : Pos} {m : AM AV} (R : Ref G C hq (eval f C.env) RV m)
    (he : eval (.Call f [] [] pos) C.env = (do callWith pos (← eval f C.env) [] (backTo pos (starEach [] C.env)) (backToKw pos (keywordEach [] C.env)))) : Ref G C hq (eval (.Call f [] [] pos) C.env) RV (m.bind nextA) := by
  intro kp pn W s st A hA I _ b st' hm
  obtain ⟨a, st1, e1, e2⟩ := bind_some hm
  refine Call_ (R.use0 hA I e1 fun v s1 W1 h1 h2 h3 => ?_) he
  unfold nextA at e2
  split at e2
  · rename_i i
    split at e2
    · rename_i r j hi
      split at e2
      · rename_i l hl
        split at e2
        · rename_i av hav
          cases e2
          obtain ⟨x, b', hx, rfl, hb⟩ := h3
          obtain ⟨x', hx', o, ho, q, hq', rfl⟩ := h2.trk.get hi
          rw [hx] at hx'; cases hx'
          obtain ⟨q', hq2, ol, hol, xs, n, rfl, hd⟩ := h2.trk.get hl
          rw [hq'] at hq2; cases hq2
          obtain ⟨y, hy, hr⟩ := hd.get hav
          refine callWith_wrap (h2.frz _ hb) (call_wrap (h2.frz _ hb) (li_item (l := q) (i := j) (items := xs) (x := y) ho ⟨_, hol, rfl, n, rfl⟩ (by rw [← Array.getElem?_toList]; exact hy) ?_))
          refine ⟨W1, h1, Inv.turn (s' := { s1 with heap := s1.heap.update x (Obj.mapFields (·.setIfInBounds 1 (rawInt (j + 1)))) }) h2 hx hi rfl (fun b o' hb e => (Heap.get?_update_other s1.heap _ (Ne.symm hb)).trans e) (Heap.get?_update_self _ ho rfl) ⟨q, hq', ?_⟩, hr⟩
          rfl
        · cases e2
      · cases e2
    · cases e2
  · exact (fail_some e2).elim
theorem x_CallBnd (h0 : C.gn = 0) {f : Expr} {pos : Pos} {m : AM AV} (R : Ref G C true (eval f C.env) RV m)
    (he : eval (.Call f [] [] pos) C.env = (do callWith pos (← eval f C.env) [] (backTo pos (starEach [] C.env)) (backToKw pos (keywordEach [] C.env)))) : RefX G C (eval (.Call f [] [] pos) C.env) (.type "StopIteration") (m.bind nextXA) := by
  intro kp pn W s st A hA I _ b st' hm
  obtain ⟨a, st1, e1, e2⟩ := bind_some hm
  refine Call_ (R.use0 hA I e1 fun v s1 W1 h1 h2 h3 => ?_) he
  unfold nextXA at e2
  split at e2
  · rename_i i
    split at e2
    · rename_i r j hi
      split at e2
      · rename_i l hl
        split at e2
        · cases e2
        · rename_i hav
          cases e2
          obtain ⟨x, b', hx, rfl, hb⟩ := h3
          obtain ⟨x', hx', o, ho, q, hq', rfl⟩ := h2.trk.get hi
          rw [hx] at hx'; cases hx'
          obtain ⟨q', hq2, ol, hol, xs, n, rfl, hd⟩ := h2.trk.get hl
          rw [hq'] at hq2; cases hq2
          refine callWith_wrap (h2.frz _ hb) (call_wrap (h2.frz _ hb) (li_end (l := q) (i := j) (items := xs) (hA.hd rfl) ho ⟨_, hol, rfl, n, rfl⟩ ?_ fun hm h' e oe vs a0 k1 ⟨oi, k2⟩ k3 k4 k5 k6 k7 k8 k9 => ?_))
          · have := hd.length
            rw [List.getElem?_eq_none_iff] at hav
            rw [Array.getElem?_eq_none_iff, ← Array.length_toList]
            omega
          · have J := Inv.turn (s' := { s1 with heap := hm }) h2 hx hi rfl k1 k2 (ao := .dead) trivial
            exact ⟨e, W1, rfl, h1, k6 ▸ Way.new hA h0 J k3 k4 k5 k7 k8 k9⟩
      · cases e2
    · cases e2
  · exact (fail_some e2).elim
theorem x_Assign {x : Str} {p : Pos} {e : Expr} {pos : Pos} {cls : Value} {mx : AM Unit} (R : RefX G C (eval e C.env) cls mx)
    (hs : swapsWith e (some (.Name x p)) pos.line C.env = pure false) : RefX G C (exec (.Assign [.Name x p] e pos) C.env) cls mx := by
  intro kp pn W s st A hA I hΓ u st' hm
  exact wpAny_Assign_Name (wpAny_mono (R kp pn W s st A hA I hΓ u st' hm) (fun _ _ x => x.elim) fun _ _ x => x) hs
noncomputable def ddelA (o k : AV) : AM Unit := match o, k with
  | .ref r, .dat (.int k) => fun st => match st.heap[r]? with
    | some (.dict l) => if l.length < 900 ∧ (l.any fun p => decide (p.1 = k)) = true then some ((), ⟨st.loc, st.heap.set r (.dict (l.filter fun p => decide (p.1 ≠ k)))⟩) else none
    | _ => none
  | _, _ => AM.fail
theorem without_rel {W : WS} {kvs : List (Int × Value)} {l : List (Int × AV)} (h : A2 (fun kv p => kv.1 = p.1 ∧ RV W kv.2 p.2) kvs l) (k : Int) : A2 (fun kv p => kv.1 = p.1 ∧ RV W kv.2 p.2) (without kvs k) (l.filter fun p => decide (p.1 ≠ k)) := by
  unfold without
  induction h with
  | nil => exact .nil
  | cons h1 h2 ih =>
    rename_i kv q kvs l
    rw [List.filter_cons, List.filter_cons, h1.1]
    by_cases e : q.1 = k
    · simpa only [e, ne_eq, not_true, decide_false, Bool.false_eq_true, if_false] using ih
    · simp only [e, ne_eq, not_false_iff, decide_true, if_true]
      exact .cons h1 ih
theorem ref_Delete {o k : Expr} {p pos : Pos} {mo mk : AM AV} (Ro : Ref G C hq (eval o C.env) RV mo) (Rk : Ref G C hq (eval k C.env) RV mk) :
    Ref G C hq (exec (.Delete [.Subscript o k p] pos) C.env) RF (mo.bind fun a => mk.bind fun b => (ddelA a b).bind fun _ => AM.pure .next) := by
  intro kp pn W s st A hA I _ b st' hm
  obtain ⟨a1, st1, e1, e2⟩ := bind_some hm
  obtain ⟨a2, st2, e3, e4⟩ := bind_some e2
  obtain ⟨_, st3, e5, e6⟩ := bind_some e4
  obtain ⟨rfl, rfl⟩ := pure_some e6
  refine wpAny_Delete (wpAny_deleteEach_cons (wpAny_delete_Subscript (Ro.use0 hA I e1 fun v1 s1 W1 h1 h2 h3 => Rk.use0 hA h2 e3 fun v2 s2 W2 k1 k2 k3 => ?_)))
  unfold ddelA at e5
  split at e5
  · rename_i r kk
    split at e5
    · rename_i l hl
      split at e5
      · rename_i hlt
        cases e5
        obtain ⟨x, hx, rfl⟩ := h3
        obtain ⟨t, rfl⟩ := rv_int k3
        obtain ⟨kvs, hD, hr⟩ := dict_at k2 (k1.sig _ _ hx) (.inl hl)
        refine wpAny_delItem_slot hD.mapOf.typeIs (by decide) PySem.F.slot_dict_delitem (call_meetsIn PySem.F.slot_dict_delitem hD.mapOf.typeIs PySem.F.entry_dict_delitem (PySem.F.args_dict_delitem_2 _ _) (meets_dict_delitem_pairs (intKind G.prog G.w) x (k := kk) (intKind_is _ _ _ _)) ⟨kvs, hD, sz1000 (by rw [hr.length]; omega), by rw [valueAt_any hr]; exact hlt.2, fun h' hD' hs' => ?_⟩)
        obtain ⟨o', es, ep, ho', q⟩ := hD'
        exact wpAny_deleteEach_nil ⟨W2, h1.trans k1, Inv.turn (s' := { s2 with heap := h', toks := s2.toks + 1 }) k2 (k1.sig _ _ hx) hl rfl (fun b o' hb e => (hs'.2 b hb).trans e) ho' ⟨_, ⟨es, ep, q⟩, without_rel hr _⟩, trivial⟩
      · cases e5
    · cases e5
  · exact (fail_some e5).elim
end
end Mine

open PySem PySem.W PyProof.Rows PySem.Calls PySem.Spec
set_option Elab.async false
namespace Mine
set_option maxRecDepth 100000
noncomputable def cCyc : Addr := 55
section
variable {G : Gl} {C : Act} {hq : Bool}
theorem ref_AssignSub {o k e : Expr} {p pos : Pos} {me mo mk : AM AV} (Re : Ref G C hq (eval e C.env) RV me) (Ro : Ref G C hq (eval o C.env) RV mo) (Rk : Ref G C hq (eval k C.env) RV mk)
    (hs : swapsWith e (some (.Subscript o k p)) pos.line C.env = pure false) :
    Ref G C hq (exec (.Assign [.Subscript o k p] e pos) C.env) RF (me.bind fun a => mo.bind fun b => mk.bind fun c => (dputA b c a).bind fun _ => AM.pure .next) := by
  intro kp pn W s st A hA I _ b st' hm
  obtain ⟨a, st1, e1, e2⟩ := bind_some hm
  obtain ⟨b, st2, e3, e4⟩ := bind_some e2
  obtain ⟨c, st3, e5, e6⟩ := bind_some e4
  obtain ⟨_, st4, e7, e8⟩ := bind_some e6
  obtain ⟨rfl, rfl⟩ := pure_some e8
  refine wpAny_Assign_Subscript (Re.use0 hA I e1 fun v s1 W1 h1 h2 h3 => Ro.use0 hA h2 e3 fun ov s2 W2 k1 k2 k3 => Rk.use0 hA k2 e5 fun iv s3 W3 j1 j2 j3 => ?_) hs
  exact dputA_ok j2 (k3.mono j1) j3 ((h3.mono k1).mono j1) e7 fun s4 J => ⟨W3, (h1.trans k1).trans j1, J, trivial⟩
/-- an own exception class -/
structure OwnX (G : Gl) (x : Str) (Cl : Addr) : Prop where
  own : OwnCls x Cl [.type "ValueError", .type "Exception", .type "BaseException", .type "object"] "ValueError.__new__" G.mg G.h₀
  nd : (x == ("__debug__" : Str)) = false
  mat : exmOne G.K (.ref Cl) (.ref Cl) = some true
theorem OwnX.nm {x : Str} {Cl : Addr} (h : OwnX G x Cl) (hG : G.Ok) (hC : C.Ok) (hk : C.env.kindOf x = some .globalImplicit) : Nm G C x (.ref Cl) := nm_global hG hC h.own.bound hk h.nd
theorem x_RaiseOwn {x : Str} {Cl : Addr} (hX : OwnX G x Cl) {p pos pos2 : Pos} {e : Expr} {rest : List Expr} (h0 : C.gn = 0) (hN : Nm G C x (.ref Cl)) {m : AM Unit}
    (Ra : Ref G C true (spliced (backTo pos (starEach (e :: rest) C.env))) (fun _ vs _ => vs.length ≤ 2) m)
    (he : starEach (e :: rest) C.env = (false, eval e C.env) :: starEach rest C.env) (hp : (backTo pos (starEach rest C.env)).any (·.1) = false) :
    RefX G C (exec (.Raise (some (.Call (.Name x p) (e :: rest) [] pos)) none pos2) C.env) (.ref Cl) m := by
  intro kp pn W s st A hA I _ u st' hm
  obtain ⟨tl, N, nm, q, bs, hdct, sn, sub, ab, col, dd, k0, k1, k2, k3, k5, mN, hC, hN', hni, T⟩ := hX.own.obj
  refine wpAny_Raise_call_subT (C := Cl) (nm := nm) (q := q) (N := N) (bs := bs) (bm := tl) (hdct := hdct) (sn := sn) (sub := sub) (ab := ab) (col := col) (dd := dd) (k0 := k0) (k1 := k1) (k2 := k2) (k3 := k3) (k5 := k5)
    PySem.F.excBase_ValueError (mN := mN) (T.hasType PySem.F.excBase_ValueError.hasBase) (hA.hd rfl) (by rw [he]; show (false || (backTo pos (starEach rest C.env)).any (·.1)) = false; rw [hp]; rfl) hni (hN I ⟨rfl, ?_⟩)
  have h : wpAny G.M A (spliced (backTo pos (starEach (e :: rest) C.env))) (fun vs s₂ => vs.length ≤ sizeLine ∧ (∀ b o, G.h₀.get? b = some o → s₂.heap.get? b = some o) ∧
      ∀ h' e, Heap.MadeExcOf s₂.heap h' e (.ref Cl) vs → ∃ e1 W', Value.ref e = .ref e1 ∧ W.le W' ∧ Way G C kp pn W' { s₂ with heap := h' } st' e1 (.ref Cl)) (fun x s' => ∃ e1 W', x = .ref e1 ∧ W.le W' ∧ Way G C kp pn W' s' st' e1 (.ref Cl)) s := by
    refine Ra.use0 hA I hm fun vs s1 W1 h1 h2 h3 => ⟨sz1000 (by omega), h2.base, fun h' a hx => ?_⟩
    obtain ⟨t, k1, _, _⟩ := hx.there
    exact ⟨a, W1, rfl, h1, Way.new hA h0 h2 hx.keeps hx.new k1 rfl rfl rfl⟩
  rw [he] at h ⊢
  exact Calls.evalArgs_plain (wpAny_mono h (fun vs s₂ h₂ => ⟨rfl, h₂.1, h₂.2.1 _ _ hC, hN'.keeps h₂.2.1, T.keeps h₂.2.1, h₂.2.2⟩) fun _ _ y => y)
theorem w_two {pos : Pos} {e1 e2 : Expr} {m1 : AM Unit} {m2 : AM AV} (R1 : Ref G C hq (eval e1 C.env) (fun _ _ _ => True) m1) (R2 : Ref G C hq (eval e2 C.env) RV m2) (he1 : starEach [e1, e2] C.env = (false, eval e1 C.env) :: starEach [e2] C.env) (he2 : starEach [e2] C.env = (false, eval e2 C.env) :: starEach [] C.env) :
    Ref G C hq (spliced (backTo pos (starEach [e1, e2] C.env))) (fun _ vs _ => vs.length ≤ 2) (m1.bind fun _ => m2.bind fun _ => AM.pure ()) := by
  intro kp pn W s st A hA I _ b st' hm
  obtain ⟨_, st1, x1, x2⟩ := bind_some hm
  obtain ⟨_, st2, x3, x4⟩ := bind_some x2
  obtain ⟨rfl, rfl⟩ := pure_some x4
  refine wpAny_items_cons (R1.use0 hA I x1 fun v s1 W1 h1 h2 h3 => wpAny_items_cons (R2.use0 hA h2 x3 fun v2 s2 W2 k1 k2 k3 => wpAny_items_nil ⟨W2, h1.trans k1, k2, Nat.le_refl _⟩) he2) he1
theorem w_JoinedOne {a : Str} {k : Nat} {p pos : Pos} : Ref G C hq (eval (.JoinedStr [.Constant (.str a) k p] pos) C.env) (fun _ _ _ => True) (AM.pure ()) := by
  intro kp pn W s st A hA I _ b st' hm
  obtain ⟨rfl, rfl⟩ := pure_some hm
  exact wpAny_JoinedStr_one (wpAny_Constant_str ⟨W, .refl _, I.toks, trivial⟩)
theorem Fly.typeLooks {kp pn : List (Addr × Obj)} {W : WS} {s : Shared} {st : St} {e : Addr} {cls : Value} (F : Fly G C kp pn W s st e cls) : Looks G.M s.heap (typeOf (.ref e)) cls := by
  obtain ⟨B, a0, h1, _⟩ := F
  obtain ⟨ob, h2, h3⟩ := h1.there
  exact h3 ▸ (Looks.ld h2).andThen .now
theorem ref_TryOwn (hG : G.Ok) {body : List Stmt} {x : Str} {Cl : Addr} {p pos1 pos : Pos} {b₀ : Stmt} {suite : List Stmt} {m mh : AM AF} {mx : AM Unit} (ho : ∃ o, C.envs = C.env :: o) (hf : C.env.frame = some C.L)
    (hX : OwnX G x Cl) (Rn : Ref G C true (execs body C.env) RF m) (Rx : RefX G C (execs body C.env) (.ref Cl) mx) (hN : Nm G C x (.ref Cl)) (Rh : Ref G C false (execs (b₀ :: suite) C.env) RF mh) :
    Ref G C true (exec (.Try body [.ExceptHandler (some (.Name x p)) none (b₀ :: suite) pos1] [] [] pos) C.env) RF (tryA m mx mh) := by
  intro kp pn W s st A hA I _ b st' hm
  obtain ⟨o, ho⟩ := ho
  unfold tryA at hm
  refine wpAny_Try_except ?_
  split at hm
  · rename_i r hr
    cases hm
    refine Rn.use0 hA I hr fun f s' W' h1 h2 h3 => ?_
    cases f with
    | next => exact wpAny_execs_nil ⟨W', h1, h2, h3⟩
    | brk => exact ⟨W', h1, h2, h3⟩
    | cont => exact ⟨W', h1, h2, h3⟩
    | ret v => exact ⟨W', h1, h2, h3⟩
  · obtain ⟨u, st1, e1, e2⟩ := bind_some hm
    refine wpAny_mono (Rx kp pn W s st A hA I (fun _ h => nomatch h) u st1 e1) (fun _ _ x => x.elim) fun v s' ⟨e, W', h1, h2, h3⟩ => ?_
    subst h1
    refine h3.note hA ho hf fun h' H => H.land fun h'' Y => wpAny_handleBy_cons (codeAny_handlers_test (hN Y.inv ?_)) (by intro q; cases q)
    refine (exm_one (M := G.M) (hG.X.keeps Y.inv.base) Y.typeLooks hX.mat).here (codeAny_handlers_suite ?_)
    refine Y.land fun h3' Z => ?_
    refine Rh.use0 (A := A.mark (some (.ref e))) ⟨hA.fr, hA.dep, hA.un, (fun h => nomatch h), hA.fo⟩ Z.inv e2 fun f s'' W'' k1 k2 k3 => ⟨W'', h2.trans k1, k2, k3⟩
end
end Mine

open PySem PySem.W PyProof.Rows PySem.Calls PySem.Spec
set_option Elab.async false
namespace Mine
set_option maxRecDepth 100000
/-- all that it speaks of is among the first n objects -/
noncomputable def okAV (n : Nat) : AV → Bool
  | .ref i => decide (i < n)
  | .bnd i => decide (i < n)
  | .vals i => decide (i < n)
  | _ => true
noncomputable def okAO (n : Nat) : AO → Bool
  | .list l => l.all (okAV n)
  | .dict l => l.all fun p => okAV n p.2
  | .pdict l => l.all fun p => okAV n p.2
  | .set _ => true
  | .atts l => l.all (okAV n)
  | .inst i => decide (i < n)
  | .info l => l.all (okAV n)
  | .iter r _ => decide (r < n)
  | .cell none => true
  | .cell (some v) => okAV n v
  | .dead => true
noncomputable def okAF (n : Nat) : AF → Bool
  | .ret v => okAV n v
  | _ => true
noncomputable def maskAV (n : Nat) : Option AV → Option AV
  | some v => if okAV n v then some v else none
  | none => none
/-- what is new is let go -/
noncomputable def scopeF (m : AM AF) : AM AF := fun st => match m st with
  | some (f, st') => if okAF st.heap.length f && ((st'.heap.take st.heap.length).all (okAO st.heap.length) && decide (st.heap.length ≤ st'.heap.length)) then some (f, ⟨st'.loc.map (maskAV st.heap.length), st'.heap.take st.heap.length⟩) else none
  | none => none
theorem RV.cut {sig : List Addr} {frz : List (Addr × Obj)} {n : Nat} {v : Value} {a : AV} (h : RV ⟨sig, frz⟩ v a) (ok : okAV n a = true) : RV ⟨sig.take n, frz⟩ v a := by
  have key : ∀ {i : Nat} {x : Addr}, i < n → sig[i]? = some x → (sig.take n)[i]? = some x := fun {i x} hi e => by rw [List.getElem?_take, if_pos hi]; exact e
  cases a with
  | ref i => obtain ⟨x, h1, h2⟩ := h; exact ⟨x, key (of_decide_eq_true ok) h1, h2⟩
  | bnd i => obtain ⟨x, b, h1, h2, h3⟩ := h; exact ⟨x, b, key (of_decide_eq_true ok) h1, h2, h3⟩
  | vals i => obtain ⟨x, b, h1, h2, h3⟩ := h; exact ⟨x, b, key (of_decide_eq_true ok) h1, h2, h3⟩
  | dat d => exact h
  | rng k => exact h
  | typ t => exact h
  | slc lo hi => exact h
  | ext x => exact h
theorem A2.cut {α β : Type} {R R' : α → β → Prop} {p : β → Bool} (hR : ∀ a b, R a b → p b = true → R' a b) : ∀ {l : List α} {l' : List β}, A2 R l l' → l'.all p = true → A2 R' l l'
  | _, _, .nil, _ => .nil
  | _, _, .cons h1 h2, h => by
    rw [List.all_cons, Bool.and_eq_true] at h
    exact .cons (hR _ _ h1 h.1) (A2.cut hR h2 h.2)
theorem RO.cut {prog : Program} {w : World} {sig : List Addr} {frz : List (Addr × Obj)} {n : Nat} {o : Obj} {a : AO} (h : RO prog w ⟨sig, frz⟩ o a) (ok : okAO n a = true) : RO prog w ⟨sig.take n, frz⟩ o a := by
  have key : ∀ {i : Nat} {x : Addr}, i < n → sig[i]? = some x → (sig.take n)[i]? = some x := fun {i x} hi e => by rw [List.getElem?_take, if_pos hi]; exact e
  cases a with
  | list l => obtain ⟨vs, k, e, r⟩ := h; exact ⟨vs, k, e, A2.cut (p := okAV n) (fun _ _ y z => RV.cut y z) r (show l.all (okAV n) = true from ok)⟩
  | dict l => obtain ⟨kvs, e, r⟩ := h; exact ⟨kvs, e, A2.cut (p := fun p => okAV n p.2) (fun _ _ y z => ⟨y.1, y.2.cut z⟩) r (show (l.all fun p => okAV n p.2) = true from ok)⟩
  | pdict l => obtain ⟨kvs, e, r⟩ := h; exact ⟨kvs, e, A2.cut (p := fun p => okAV n p.2) (fun _ _ y z => ⟨y.1, y.2.cut z⟩) r (show (l.all fun p => okAV n p.2) = true from ok)⟩
  | set l => exact h
  | atts l =>
    obtain ⟨es, k, e, hl, r⟩ := h
    refine ⟨es, k, e, hl, A2.cut (p := fun p => okAV n p.2) (fun _ _ y z => ⟨y.1, y.2.cut z⟩) r ?_⟩
    have ok := List.all_eq_true.mp (show l.all (okAV n) = true from ok)
    rw [List.all_eq_true]
    intro p hp
    obtain ⟨x, y⟩ := p
    exact ok y (List.of_mem_zip hp).2
  | inst i => obtain ⟨dx, e, r⟩ := h; exact ⟨dx, key (of_decide_eq_true ok) e, r⟩
  | info l => obtain ⟨dx, vs, e, m, r⟩ := h; exact ⟨dx, vs, e, m, A2.cut (p := okAV n) (fun _ _ y z => RV.cut y z) r (show l.all (okAV n) = true from ok)⟩
  | iter r i => obtain ⟨a, e, y⟩ := h; exact ⟨a, key (of_decide_eq_true ok) e, y⟩
  | cell v =>
    obtain ⟨y, e, z⟩ := h
    refine ⟨y, e, ?_⟩
    cases v with
    | none => trivial
    | some av => obtain ⟨u, e', r⟩ := z; exact ⟨u, e', r.cut ok⟩
  | dead => trivial
section
variable {G : Gl} {C : Act} {hq : Bool}
theorem Inv.cut {kp pn : List (Addr × Obj)} {W : WS} {s : Shared} {st : St} (I : G.I C kp pn W s st) (n : Nat) (ok : (st.heap.take n).all (okAO n) = true) : G.I C kp pn ⟨W.sig.take n, W.frz⟩ s ⟨st.loc.map (maskAV n), st.heap.take n⟩ := by
  have mem : ∀ {a : Addr}, a ∈ C.own ++ W.sig.take n → a ∈ C.own ++ W.sig := fun h => by
    rcases List.mem_append.mp h with h | h
    · exact List.mem_append_left _ h
    · exact List.mem_append_right _ (List.mem_of_mem_take h)
  refine ⟨I.base, ?_, ?_, I.frz, I.kept, I.ups, ?_, fun a ha => I.old a (mem ha), fun a ha => I.sep a (mem ha), I.fk, I.fu, I.upp, I.pin, fun p hp => ⟨(I.sepp p hp).1, fun i a ao hi hao hpn => ?_⟩, I.gens, I.os⟩
  · obtain ⟨m, hn, hl⟩ := I.ns
    refine ⟨m, hn, fun i x oc hv av hav => ?_⟩
    simp only [List.getElem?_map] at hav
    obtain ⟨y, hy, e⟩ := Option.map_eq_some_iff.mp hav
    unfold maskAV at e
    split at e
    · split at e
      · rename_i hok
        cases e
        have z := hl i x oc hv av hy
        cases oc with
        | none => obtain ⟨u, r, q⟩ := z; exact ⟨u, RV.cut r hok, q⟩
        | some c =>
          obtain ⟨r, rfl, h2⟩ := z
          exact ⟨r, rfl, by
            show (W.sig.take n)[r]? = _
            rw [List.getElem?_take, if_pos (of_decide_eq_true hok)]; exact h2⟩
      · cases e
    · cases e
  · exact A2.cut (fun a ao ⟨o, h1, h2⟩ h3 => ⟨o, h1, h2.cut h3⟩) (I.trk.take n) ok
  · refine List.Nodup.sublist ?_ I.apart
    exact List.Sublist.append_left (List.take_sublist _ _) _
  · simp only [List.getElem?_take] at hi hao
    split at hi
    · rename_i hlt
      rw [if_pos hlt] at hao
      exact (I.sepp p hp).2 i a ao hi hao hpn
    · cases hi
theorem ref_scope {t : Sem Flow} {m : AM AF} (R : Ref G C hq t RF m) : Ref G C hq t RF (scopeF m) := by
  intro kp pn W s st A hA I _ b st' hm
  unfold scopeF at hm
  split at hm
  · rename_i f st1 hf
    split at hm
    · rename_i hok
      cases hm
      simp only [Bool.and_eq_true, decide_eq_true_eq] at hok
      obtain ⟨o1, o2, o3⟩ := hok
      refine R.use0 hA I hf fun fl s' W' h1 h2 h3 => ?_
      have hlen : W.sig.length = st.heap.length := I.trk.length
      have J := h2.cut st.heap.length o2
      refine ⟨⟨W'.sig.take st.heap.length, W'.frz⟩, ⟨fun i a h => ?_, h1.frz⟩, J, ?_⟩
      · have hi := (List.getElem?_eq_some_iff.mp h).1
        show (W'.sig.take _)[i]? = _
        rw [List.getElem?_take, if_pos (by rw [← hlen]; exact hi)]
        exact h1.sig i a h
      · cases fl <;> cases b <;> simp only [RF] at h3 ⊢
        exact RV.cut h3 o1
    · cases hm
  · cases hm
end
end Mine

open PySem PySem.W PyProof.Rows PySem.Calls PySem.Spec
set_option Elab.async false
namespace Mine
set_option maxRecDepth 100000
set_option maxHeartbeats 4000000
set_option linter.unusedVariables false
noncomputable def stmtAt (i : Nat) : Stmt := (PySem.Challenge.pw_in0108_01.main.body)[i]?.getD (.Pass ⟨0, 0, 0, 0⟩)
noncomputable def fbody : Stmt → List Stmt
  | .FunctionDef (body := b) .. => b
  | _ => []
noncomputable def fscope : Stmt → Scope
  | .FunctionDef (scope := s) .. => s
  | _ => default
noncomputable def methAt (i j : Nat) : Stmt := match stmtAt i with
  | .ClassDef (body := b) .. => b[j]?.getD (.Pass ⟨0, 0, 0, 0⟩)
  | _ => .Pass ⟨0, 0, 0, 0⟩
noncomputable def F_NodeInfo_init : FnS := ⟨fscope (methAt 4 1), fbody (methAt 4 1), ["self", "node"], []⟩
noncomputable def F_TopologicalSorter_init : FnS := ⟨fscope (methAt 6 0), fbody (methAt 6 0), ["self", "graph"], [("node", none), ("predecessors", none)]⟩
noncomputable def F_TopologicalSorterget_nodeinfo : FnS := ⟨fscope (methAt 6 1), fbody (methAt 6 1), ["self", "node"], [("result", none)]⟩
noncomputable def F_TopologicalSorter_add : FnS := ⟨fscope (methAt 6 2), fbody (methAt 6 2), ["self", "node", "predecessors"], [("nodeinfo", none), ("pred", none), ("pred_info", none)]⟩
noncomputable def F_TopologicalSorter_prepare : FnS := ⟨fscope (methAt 6 3), fbody (methAt 6 3), ["self"], [("cycle", none)]⟩
noncomputable def F_TopologicalSorter_get_ready : FnS := ⟨fscope (methAt 6 4), fbody (methAt 6 4), ["self"], [("result", none), ("n2i", none), ("node", none)]⟩
noncomputable def F_TopologicalSorter_done : FnS := ⟨fscope (methAt 6 7), fbody (methAt 6 7), ["self", "nodes"], [("n2i", none), ("node", none), ("nodeinfo", none), ("stat", none), ("successor", none), ("successor_info", none)]⟩
noncomputable def F_TopologicalSorterfind_cycle : FnS := ⟨fscope (methAt 6 8), fbody (methAt 6 8), ["self"], [("n2i", none), ("stack", none), ("itstack", none), ("seen", none), ("node2stacki", none), ("node", none)]⟩
noncomputable def F_kind : FnS := ⟨fscope (stmtAt 9), fbody (stmtAt 9), ["name", "x"], [("t", none)]⟩
noncomputable def F_fspath : FnS := ⟨fscope (stmtAt 10), fbody (stmtAt 10), ["name", "x"], [("k", none)]⟩
noncomputable def F_split : FnS := ⟨fscope (stmtAt 11), fbody (stmtAt 11), ["p"], [("sep", none), ("i", none), ("head", none), ("tail", none)]⟩
noncomputable def F_ancestry : FnS := ⟨fscope (stmtAt 13), fbody (stmtAt 13), ["path"], [("tail", none)]⟩
noncomputable def F_law_folders : FnS := ⟨fscope (stmtAt 15), fbody (stmtAt 15), [], [("folders", none), ("size", some 0)]⟩
noncomputable def F_law_text : FnS := ⟨fscope (stmtAt 16), fbody (stmtAt 16), ["way"], [("text", none), ("letter", none)]⟩
noncomputable def F_law_moves : FnS := ⟨fscope (stmtAt 17), fbody (stmtAt 17), ["script"], [("fixed", none), ("folders", none), ("moves", none), ("k", none), ("x", none), ("source", some 0), ("goal", none), ("near", none)]⟩
noncomputable def F_law_one_by_one : FnS := ⟨fscope (stmtAt 18), fbody (stmtAt 18), ["files", "moves"], [("source", some 0), ("goal", some 1)]⟩
noncomputable def F_law_at_once : FnS := ⟨fscope (stmtAt 19), fbody (stmtAt 19), ["files", "moves"], [("ends", none), ("way", some 0), ("moved", none)]⟩
noncomputable def F_law_orders : FnS := ⟨fscope (stmtAt 20), fbody (stmtAt 20), ["count"], [("orders", none), ("k", some 0)]⟩
noncomputable def F_law_sorter : FnS := ⟨fscope (stmtAt 21), fbody (stmtAt 21), ["count", "waits"], [("sorter", none), ("k", none), ("later", none), ("earlier", none)]⟩
noncomputable def F_law_refused : FnS := ⟨fscope (stmtAt 22), fbody (stmtAt 22), ["sorter"], []⟩
noncomputable def F_law_taken : FnS := ⟨fscope (stmtAt 23), fbody (stmtAt 23), ["sorter", "order"], [("k", none)]⟩
noncomputable def F_law : FnS := ⟨fscope (stmtAt 24), fbody (stmtAt 24), ["script"], [("moves", some 0), ("count", none), ("sources", none), ("goals", none), ("waits", none), ("i", none), ("j", none), ("files", none), ("due", none), ("some", none), ("refused", none), ("order", none), ("sorter", none), ("right", none)]⟩
structure Nms (G : Gl) : Prop where
  b_StopIteration : BiName G "StopIteration" (.type "StopIteration")
  b_ValueError : BiName G "ValueError" (.type "ValueError")
  b_iter : BiName G "iter" (.builtin "iter")
  b_len : BiName G "len" (.builtin "len")
  b_list : BiName G "list" (.type "list")
  b_range : BiName G "range" (.type "range")
  b_set : BiName G "set" (.type "set")
  b_str : BiName G "str" (.type "str")
  b_sum : BiName G "sum" (.builtin "sum")
  b_tuple : BiName G "tuple" (.type "tuple")
  b_type : BiName G "type" (.type "type")
  f_law_folders : FnName G "_law_folders" F_law_folders
  f_law_text : FnName G "_law_text" F_law_text
  f_law_moves : FnName G "_law_moves" F_law_moves
  f_law_one_by_one : FnName G "_law_one_by_one" F_law_one_by_one
  f_law_at_once : FnName G "_law_at_once" F_law_at_once
  f_law_orders : FnName G "_law_orders" F_law_orders
  f_law_sorter : FnName G "_law_sorter" F_law_sorter
  f_law_refused : FnName G "_law_refused" F_law_refused
  f_law_taken : FnName G "_law_taken" F_law_taken
  f_kind : FnName G "_kind" F_kind
  f_fspath : FnName G "_fspath" F_fspath
  f_split : FnName G "split" F_split
  d_NODE_OUT : ∃ v, G.mg "_NODE_OUT" = some v ∧ RD [] v (.int (-1))
  d_NODE_DONE : ∃ v, G.mg "_NODE_DONE" = some v ∧ RD [] v (.int (-2))
  dsep : ∃ v, G.mg "sep" = some v ∧ RD [] v (.str "/")
  cyc : OwnX G "CycleError" cCyc
  g_ancestry : GenName G "_ancestry" F_ancestry
  top : TopCls G
  info : InfoCls G
  mkI : ∃ fI fd, ClsMk G "_NodeInfo" cInfo F_NodeInfo_init fI fd 2 []
  mkT : ∃ fI fd, ClsMk G "TopologicalSorter" cTop F_TopologicalSorter_init fI fd 1 [.none]
  t_TopologicalSorterget_nodeinfo : ∃ fa fd, TopM G "_get_nodeinfo" F_TopologicalSorterget_nodeinfo fa fd ∧ ∀ vs : List Value, vs.length = F_TopologicalSorterget_nodeinfo.pars.length → bindArgs fd ⟨vs, []⟩ = pure (F_TopologicalSorterget_nodeinfo.pars.zip vs)
  t_TopologicalSorter_add : ∃ fa fd, TopM G "add" F_TopologicalSorter_add fa fd ∧ ∀ vs : List Value, 2 ≤ vs.length → bindArgs fd ⟨vs, []⟩ = (newTuple (vs.drop 2) >>= fun t => pure (F_TopologicalSorter_add.pars.zip (vs.take 2 ++ [t])))
  t_TopologicalSorter_prepare : ∃ fa fd, TopM G "prepare" F_TopologicalSorter_prepare fa fd ∧ ∀ vs : List Value, vs.length = F_TopologicalSorter_prepare.pars.length → bindArgs fd ⟨vs, []⟩ = pure (F_TopologicalSorter_prepare.pars.zip vs)
  t_TopologicalSorter_get_ready : ∃ fa fd, TopM G "get_ready" F_TopologicalSorter_get_ready fa fd ∧ ∀ vs : List Value, vs.length = F_TopologicalSorter_get_ready.pars.length → bindArgs fd ⟨vs, []⟩ = pure (F_TopologicalSorter_get_ready.pars.zip vs)
  t_TopologicalSorter_done : ∃ fa fd, TopM G "done" F_TopologicalSorter_done fa fd ∧ ∀ vs : List Value, 1 ≤ vs.length → bindArgs fd ⟨vs, []⟩ = (newTuple (vs.drop 1) >>= fun t => pure (F_TopologicalSorter_done.pars.zip (vs.take 1 ++ [t])))
  t_TopologicalSorterfind_cycle : ∃ fa fd, TopM G "_find_cycle" F_TopologicalSorterfind_cycle fa fd ∧ ∀ vs : List Value, vs.length = F_TopologicalSorterfind_cycle.pars.length → bindArgs fd ⟨vs, []⟩ = pure (F_TopologicalSorterfind_cycle.pars.zip vs)
theorem anc_ni : ∀ env : Env, env.scope = F_ancestry.scope → interactive env = false := fun env h => by unfold interactive; rw [h]; rfl
end Mine

open PySem PySem.W PyProof.Rows PySem.Calls PySem.Spec
set_option Elab.async false
namespace Mine
set_option maxRecDepth 100000
set_option maxHeartbeats 4000000
set_option linter.unusedVariables false
noncomputable def m_law_folders : {m : AM AF // ∀ G : Gl, G.Ok → Nms G → Body G F_law_folders true 590 m} := ⟨_, fun G hG hN L q f c envs dep un ups gn hx hC hd hu =>
    (ref_cons (ref_Assign (ref_List (ref_items_cons (ref_Tuple ref_items_nil) ref_items_nil rfl)) (fun _ _ => ref_store_local hC (i := 0) rfl rfl) rfl)
      (ref_cons (ref_For 100 (iter_val (ref_Call hG (BiName.nm hN.b_range hG hC rfl) cw_type (ref_items_cons ref_int ref_items_nil rfl) ref_range rfl rfl)) (ref_target_name (fun _ _ => ref_store_cell hC (i := 1) rfl rfl rfl)) (ref_cons1 (ref_Assign (ref_BinOp (ref_name (ref_load_local hC (i := 0) rfl rfl) rfl) (ref_Comp2 (xs := ["way", "letter"]) (names := ["folders", "size"]) (pat := [false, true]) 100 hC rfl rfl (by decide +kernel) (fun _ => rfl) (fun _ _ => rfl) rfl finD_ok (iter_val (ref_name (ref_load_local hC (i := 0) rfl rfl) rfl)) (fun L1 o1 hC1 => ⟨(ref_target_name (fun _ _ => ref_store_local hC1 (i := 0) rfl rfl)), (ref_tests_one (ref_isTrue_Compare (ref_Call hG (BiName.nm hN.b_len hG hC1 rfl) cw_builtin (ref_items_cons (ref_name (ref_load_local hC1 (i := 0) rfl rfl) rfl) ref_items_nil rfl) ref_len rfl rfl) (ref_name (ref_load_cell hC1 (i := 3) rfl rfl rfl) rfl) (fun _ _ _ _ => ref_eq hC1) (fun _ _ => ref_truth) rfl)), (iter_val (ref_List (ref_items_cons ref_int (ref_items_cons ref_int ref_items_nil rfl) rfl))), (ref_target_name (fun _ _ => ref_store_local hC1 (i := 1) rfl rfl)), ref_tests_nil, (ref_BinOp (ref_name (ref_load_local hC1 (i := 0) rfl rfl) rfl) (ref_Tuple (ref_items_cons (ref_name (ref_load_local hC1 (i := 1) rfl rfl) rfl) ref_items_nil rfl)) (fun _ _ _ _ => ref_add))⟩)) (fun _ _ _ _ => ref_add)) (fun _ _ => ref_store_local hC (i := 0) rfl rfl) rfl)) (fun _ => rfl))
      (ref_cons1 (ref_Return (ref_Subscript hG (ref_name (ref_load_local hC (i := 0) rfl rfl) rfl) (ref_Slice (ml := some _) (mu := none) ref_int trivial))))))⟩
noncomputable def m_law_text : {m : AM AF // ∀ G : Gl, G.Ok → Nms G → Body G F_law_text true 590 m} := ⟨_, fun G hG hN L q f c envs dep un ups gn hx hC hd hu =>
    (ref_cons (ref_Assign (ref_Subscript hG ref_str (ref_Subscript hG (ref_name (ref_load_local hC (i := 0) rfl rfl) rfl) ref_int)) (fun _ _ => ref_store_local hC (i := 1) rfl rfl) rfl)
      (ref_cons (ref_For 100 (iter_val (ref_Subscript hG (ref_name (ref_load_local hC (i := 0) rfl rfl) rfl) (ref_Slice (ml := some _) (mu := none) ref_int trivial))) (ref_target_name (fun _ _ => ref_store_local hC (i := 2) rfl rfl)) (ref_cons1 (ref_Assign (ref_BinOp (ref_name (ref_load_local hC (i := 1) rfl rfl) rfl) (ref_Subscript hG (ref_List (ref_items_cons ref_str (ref_items_cons ref_str ref_items_nil rfl) rfl)) (ref_name (ref_load_local hC (i := 2) rfl rfl) rfl)) (fun _ _ _ _ => ref_add)) (fun _ _ => ref_store_local hC (i := 1) rfl rfl) rfl)) (fun _ => rfl))
      (ref_cons1 (ref_Return (ref_name (ref_load_local hC (i := 1) rfl rfl) rfl)))))⟩
noncomputable def m_law_one_by_one : {m : AM AF // ∀ G : Gl, G.Ok → Nms G → Body G F_law_one_by_one true 590 m} := ⟨_, fun G hG hN L q f c envs dep un ups gn hx hC hd hu =>
    (ref_cons (ref_For 100 (iter_val (ref_name (ref_load_local hC (i := 1) rfl rfl) rfl)) (fun _ _ => ref_target_tuple (.cons (ref_target_name (fun _ _ => ref_store_cell hC (i := 2) rfl rfl rfl)) (.cons (ref_target_name (fun _ _ => ref_store_cell hC (i := 3) rfl rfl rfl)) .nil)) rfl) (ref_cons1 (ref_AssignComp1 (xs := ["way"]) (names := ["files", "moves", "source", "goal"]) (pat := [false, false, true, true]) 100 hC rfl rfl rfl (by decide +kernel) (fun _ => rfl) rfl finD_ok (iter_val (ref_name (ref_load_local hC (i := 0) rfl rfl) rfl)) (fun L2 o2 hC2 => ⟨(ref_target_name (fun _ _ => ref_store_local hC2 (i := 0) rfl rfl)), ref_tests_nil, (ref_IfExp (ref_isTrue_Compare (ref_Subscript hG (ref_name (ref_load_local hC2 (i := 0) rfl rfl) rfl) (ref_Slice (ml := none) (mu := some _) trivial (ref_Call hG (BiName.nm hN.b_len hG hC2 rfl) cw_builtin (ref_items_cons (ref_name (ref_load_cell hC2 (i := 3) rfl rfl rfl) rfl) ref_items_nil rfl) ref_len rfl rfl))) (ref_name (ref_load_cell hC2 (i := 3) rfl rfl rfl) rfl) (fun _ _ _ _ => ref_eq hC2) (fun _ _ => ref_truth) rfl) (ref_BinOp (ref_name (ref_load_cell hC2 (i := 4) rfl rfl rfl) rfl) (ref_Subscript hG (ref_name (ref_load_local hC2 (i := 0) rfl rfl) rfl) (ref_Slice (ml := some _) (mu := none) (ref_Call hG (BiName.nm hN.b_len hG hC2 rfl) cw_builtin (ref_items_cons (ref_name (ref_load_cell hC2 (i := 3) rfl rfl rfl) rfl) ref_items_nil rfl) ref_len rfl rfl) trivial)) (fun _ _ _ _ => ref_add)) (ref_name (ref_load_local hC2 (i := 0) rfl rfl) rfl))⟩) (fun _ _ => ref_store_local hC (i := 0) rfl rfl))) (fun _ => rfl))
      (ref_cons1 (ref_Return (ref_name (ref_load_local hC (i := 0) rfl rfl) rfl))))⟩
noncomputable def m_law_at_once : {m : AM AF // ∀ G : Gl, G.Ok → Nms G → Body G F_law_at_once true 590 m} := ⟨_, fun G hG hN L q f c envs dep un ups gn hx hC hd hu =>
    (ref_cons (ref_Assign ref_newList (fun _ _ => ref_store_local hC (i := 2) rfl rfl) rfl)
      (ref_cons (ref_For 100 (iter_val (ref_name (ref_load_local hC (i := 0) rfl rfl) rfl)) (ref_target_name (fun _ _ => ref_store_cell hC (i := 3) rfl rfl rfl)) (ref_cons (ref_AssignComp1 (xs := ["source", "goal"]) (names := ["files", "moves", "ends", "way", "moved"]) (pat := [false, false, false, true, false]) 100 hC rfl rfl rfl (by decide +kernel) (fun _ => rfl) rfl finD_ok (iter_trk (ref_name (ref_load_local hC (i := 1) rfl rfl) rfl)) (fun L3 o3 hC3 => ⟨(fun _ _ => ref_target_tuple (.cons (ref_target_name (fun _ _ => ref_store_local hC3 (i := 0) rfl rfl)) (.cons (ref_target_name (fun _ _ => ref_store_local hC3 (i := 1) rfl rfl)) .nil)) rfl), (ref_tests_one (ref_isTrue_Compare (ref_Subscript hG (ref_name (ref_load_cell hC3 (i := 5) rfl rfl rfl) rfl) (ref_Slice (ml := none) (mu := some _) trivial (ref_Call hG (BiName.nm hN.b_len hG hC3 rfl) cw_builtin (ref_items_cons (ref_name (ref_load_local hC3 (i := 0) rfl rfl) rfl) ref_items_nil rfl) ref_len rfl rfl))) (ref_name (ref_load_local hC3 (i := 0) rfl rfl) rfl) (fun _ _ _ _ => ref_eq hC3) (fun _ _ => ref_truth) rfl)), (ref_BinOp (ref_name (ref_load_local hC3 (i := 1) rfl rfl) rfl) (ref_Subscript hG (ref_name (ref_load_cell hC3 (i := 5) rfl rfl rfl) rfl) (ref_Slice (ml := some _) (mu := none) (ref_Call hG (BiName.nm hN.b_len hG hC3 rfl) cw_builtin (ref_items_cons (ref_name (ref_load_local hC3 (i := 0) rfl rfl) rfl) ref_items_nil rfl) ref_len rfl rfl) trivial)) (fun _ _ _ _ => ref_add))⟩) (fun _ _ => ref_store_local hC (i := 4) rfl rfl))
      (ref_cons1 (ref_Expr (ref_MCall (ok := isListA) hG (ref_name (ref_load_local hC (i := 2) rfl rfl) rfl) (mth_list F.slot_list_append F.type_list_append) cw_builtin (ref_items_cons (ref_Subscript hG (ref_BinOp (ref_name (ref_load_local hC (i := 4) rfl rfl) rfl) (ref_List (ref_items_cons (ref_name (ref_load_cell hC (i := 3) rfl rfl rfl) rfl) ref_items_nil rfl)) (fun _ _ _ _ => ref_add)) ref_int) ref_items_nil rfl) ref_append rfl rfl rfl) rfl rfl))) (fun _ => rfl))
      (ref_cons1 (ref_Return (ref_name (ref_load_local hC (i := 2) rfl rfl) rfl)))))⟩
noncomputable def m_law_orders : {m : AM AF // ∀ G : Gl, G.Ok → Nms G → Body G F_law_orders true 590 m} := ⟨_, fun G hG hN L q f c envs dep un ups gn hx hC hd hu =>
    (ref_cons (ref_Assign (ref_List (ref_items_cons (ref_List ref_items_nil) ref_items_nil rfl)) (fun _ _ => ref_store_local hC (i := 1) rfl rfl) rfl)
      (ref_cons (ref_For 100 (iter_val (ref_Call hG (BiName.nm hN.b_range hG hC rfl) cw_type (ref_items_cons (ref_name (ref_load_local hC (i := 0) rfl rfl) rfl) ref_items_nil rfl) ref_range rfl rfl)) (ref_target_name (fun _ _ => ref_store_cell hC (i := 2) rfl rfl rfl)) (ref_cons1 (ref_AssignComp2 (xs := ["order", "p"]) (names := ["count", "orders", "k"]) (pat := [false, false, true]) 100 hC rfl rfl rfl (by decide +kernel) (fun _ => rfl) (fun _ _ => rfl) rfl finD_ok (iter_val (ref_name (ref_load_local hC (i := 1) rfl rfl) rfl)) (fun L4 o4 hC4 => ⟨(ref_target_name (fun _ _ => ref_store_local hC4 (i := 0) rfl rfl)), ref_tests_nil, (iter_val (ref_Call hG (BiName.nm hN.b_range hG hC4 rfl) cw_type (ref_items_cons (ref_BinOp (ref_name (ref_load_cell hC4 (i := 4) rfl rfl rfl) rfl) ref_int (fun _ _ _ _ => ref_add)) ref_items_nil rfl) ref_range rfl rfl)), (ref_target_name (fun _ _ => ref_store_local hC4 (i := 1) rfl rfl)), ref_tests_nil, (ref_BinOp (ref_BinOp (ref_Subscript hG (ref_name (ref_load_local hC4 (i := 0) rfl rfl) rfl) (ref_Slice (ml := none) (mu := some _) trivial (ref_name (ref_load_local hC4 (i := 1) rfl rfl) rfl))) (ref_List (ref_items_cons (ref_name (ref_load_cell hC4 (i := 4) rfl rfl rfl) rfl) ref_items_nil rfl)) (fun _ _ _ _ => ref_add)) (ref_Subscript hG (ref_name (ref_load_local hC4 (i := 0) rfl rfl) rfl) (ref_Slice (ml := some _) (mu := none) (ref_name (ref_load_local hC4 (i := 1) rfl rfl) rfl) trivial)) (fun _ _ _ _ => ref_add))⟩) (fun _ _ => ref_store_local hC (i := 1) rfl rfl))) (fun _ => rfl))
      (ref_cons1 (ref_Return (ref_name (ref_load_local hC (i := 1) rfl rfl) rfl)))))⟩
noncomputable def m_law_moves (D : Addr) (ns : List Int) : {m : AM AF // ∀ G : Gl, G.Ok → Nms G → ScriptOk G D ns → Body G F_law_moves true 580 m} := ⟨_, fun G hG hN hS L q f c envs dep un ups gn hx hC hd hu =>
    (ref_cons (ref_Assign (ref_List (ref_items_cons ref_int (ref_items_cons ref_int (ref_items_cons ref_int (ref_items_cons ref_int ref_items_nil rfl) rfl) rfl) rfl)) (fun _ _ => ref_store_local hC (i := 1) rfl rfl) rfl)
      (ref_cons (ref_Assign (ref_CallF0 hG hC hN.f_law_folders rfl (m_law_folders.2 G hG hN) ⟨hd, hu⟩ (by decide) (by decide)) (fun _ _ => ref_store_local hC (i := 2) rfl rfl) rfl)
      (ref_cons (ref_Assign ref_newList (fun _ _ => ref_store_local hC (i := 3) rfl rfl) rfl)
      (ref_cons (ref_For 100 (iter_val (ref_Call hG (BiName.nm hN.b_range hG hC rfl) cw_type (ref_items_cons ref_int ref_items_nil rfl) ref_range rfl rfl)) (ref_target_name (fun _ _ => ref_store_local hC (i := 4) rfl rfl)) (ref_cons (ref_Assign (ref_BinOp (ref_BinOp (ref_Subscript hG (ref_name (ref_load_local hC (i := 1) rfl rfl) rfl) (ref_name (ref_load_local hC (i := 4) rfl rfl) rfl)) (ref_Call hG (BiName.nm hN.b_sum hG hC rfl) cw_builtin (ref_items_cons (ref_ScriptSlice hS (ref_name (ref_load_local hC (i := 0) rfl rfl) rfl) (ref_name (ref_load_local hC (i := 4) rfl rfl) rfl) ref_int ref_int) ref_items_nil rfl) ref_sum rfl rfl) (fun _ _ _ _ => ref_add)) ref_int (fun _ _ _ _ => ref_mod)) (fun _ _ => ref_store_local hC (i := 5) rfl rfl) rfl)
      (ref_cons (ref_Assign (ref_Subscript hG (ref_name (ref_load_local hC (i := 2) rfl rfl) rfl) (ref_BinOp (ref_name (ref_load_local hC (i := 5) rfl rfl) rfl) ref_int (fun _ _ _ _ => ref_mod))) (fun _ _ => ref_store_cell hC (i := 6) rfl rfl rfl) rfl)
      (ref_cons (ref_Assign (ref_Subscript hG (ref_name (ref_load_local hC (i := 2) rfl rfl) rfl) (ref_BinOp (ref_name (ref_load_local hC (i := 5) rfl rfl) rfl) ref_int (fun _ _ _ _ => ref_div))) (fun _ _ => ref_store_local hC (i := 7) rfl rfl) rfl)
      (ref_cons (ref_AssignComp1 (xs := ["other", "aim"]) (names := ["script", "fixed", "folders", "moves", "k", "x", "source", "goal", "near"]) (pat := [false, false, false, false, false, false, true, false, false]) 100 hC rfl rfl rfl (by decide +kernel) (fun _ => rfl) rfl finD_ok (iter_trk (ref_name (ref_load_local hC (i := 3) rfl rfl) rfl)) (fun L5 o5 hC5 => ⟨(fun _ _ => ref_target_tuple (.cons (ref_target_name (fun _ _ => ref_store_local hC5 (i := 0) rfl rfl)) (.cons (ref_target_name (fun _ _ => ref_store_local hC5 (i := 1) rfl rfl)) .nil)) rfl), (ref_tests_one (ref_isTrue_Compare (ref_Subscript hG (ref_name (ref_load_local hC5 (i := 0) rfl rfl) rfl) (ref_Slice (ml := none) (mu := some _) trivial (ref_Call hG (BiName.nm hN.b_len hG hC5 rfl) cw_builtin (ref_items_cons (ref_name (ref_load_cell hC5 (i := 8) rfl rfl rfl) rfl) ref_items_nil rfl) ref_len rfl rfl))) (ref_Subscript hG (ref_name (ref_load_cell hC5 (i := 8) rfl rfl rfl) rfl) (ref_Slice (ml := none) (mu := some _) trivial (ref_Call hG (BiName.nm hN.b_len hG hC5 rfl) cw_builtin (ref_items_cons (ref_name (ref_load_local hC5 (i := 0) rfl rfl) rfl) ref_items_nil rfl) ref_len rfl rfl))) (fun _ _ _ _ => ref_eq hC5) (fun _ _ => ref_truth) rfl)), (ref_name (ref_load_local hC5 (i := 0) rfl rfl) rfl)⟩) (fun _ _ => ref_store_local hC (i := 8) rfl rfl))
      (ref_cons1 (ref_If (ref_isTrue_BoolOp (ref_and_cons (ref_isTrue_Compare (ref_name (ref_load_cell hC (i := 6) rfl rfl rfl) rfl) (ref_name (ref_load_local hC (i := 7) rfl rfl) rfl) (fun _ _ _ _ => ref_ne hC) (fun _ _ => ref_truth) rfl) (ref_and_cons (ref_isTrue_Compare (ref_name (ref_load_local hC (i := 8) rfl rfl) rfl) (ref_List ref_items_nil) (fun _ _ _ _ => ref_eq hC) (fun _ _ => ref_truth) rfl) (ref_and_cons (ref_isTrue_Compare (ref_Call hG (BiName.nm hN.b_len hG hC rfl) cw_builtin (ref_items_cons (ref_name (ref_load_local hC (i := 3) rfl rfl) rfl) ref_items_nil rfl) ref_len rfl rfl) ref_int (fun _ _ _ _ => ref_lt) (fun _ _ => ref_truth) rfl) ref_and_nil)))) (ref_cons1 (ref_Expr (ref_MCall (ok := isListA) hG (ref_name (ref_load_local hC (i := 3) rfl rfl) rfl) (mth_list F.slot_list_append F.type_list_append) cw_builtin (ref_items_cons (ref_Tuple (ref_items_cons (ref_name (ref_load_cell hC (i := 6) rfl rfl rfl) rfl) (ref_items_cons (ref_name (ref_load_local hC (i := 7) rfl rfl) rfl) ref_items_nil rfl) rfl)) ref_items_nil rfl) ref_append rfl rfl rfl) rfl rfl)) ref_nil)))))) (fun _ => rfl))
      (ref_cons1 (ref_Return (ref_name (ref_load_local hC (i := 3) rfl rfl) rfl)))))))⟩
noncomputable def m_kind : {m : AM AF // ∀ G : Gl, G.Ok → Nms G → Body G F_kind true 590 m} := ⟨_, fun G hG hN L q f c envs dep un ups gn hx hC hd hu =>
    (ref_cons (ref_Assign (ref_Call hG (BiName.nm hN.b_type hG hC rfl) cw_type (ref_items_cons (ref_name (ref_load_local hC (i := 1) rfl rfl) rfl) ref_items_nil rfl) ref_type rfl rfl) (fun _ _ => ref_store_local hC (i := 2) rfl rfl) rfl)
      (ref_cons (ref_If (ref_isTrue_Compare (ref_name (ref_load_local hC (i := 2) rfl rfl) rfl) (ref_typ hG hC hN.b_str rfl) (fun _ _ _ _ => ref_is) (fun _ _ => ref_truth) rfl) (ref_cons1 (ref_Return ref_str)) ref_nil)
      ref_fail))⟩
noncomputable def m_fspath : {m : AM AF // ∀ G : Gl, G.Ok → Nms G → Body G F_fspath true 580 m} := ⟨_, fun G hG hN L q f c envs dep un ups gn hx hC hd hu =>
    (ref_cons (ref_Assign (ref_CallF hG hC hN.f_kind rfl (m_kind.2 G hG hN) ⟨hd, hu⟩ (by decide) (by decide) (ref_items_cons (ref_name (ref_load_local hC (i := 0) rfl rfl) rfl) (ref_items_cons (ref_name (ref_load_local hC (i := 1) rfl rfl) rfl) ref_items_nil rfl) rfl) rfl rfl) (fun _ _ => ref_store_local hC (i := 2) rfl rfl) rfl)
      (ref_cons (ref_If (ref_isTrue_value (ref_name (ref_load_local hC (i := 2) rfl rfl) rfl) (fun _ _ => ref_truth) rfl) ref_fail ref_nil)
      (ref_cons1 (ref_Return (ref_name (ref_load_local hC (i := 1) rfl rfl) rfl)))))⟩
noncomputable def m_split : {m : AM AF // ∀ G : Gl, G.Ok → Nms G → Body G F_split true 570 m} := ⟨_, fun G hG hN L q f c envs dep un ups gn hx hC hd hu =>
    (ref_cons (ref_Assign (ref_CallF hG hC hN.f_fspath rfl (m_fspath.2 G hG hN) ⟨hd, hu⟩ (by decide) (by decide) (ref_items_cons ref_str (ref_items_cons (ref_name (ref_load_local hC (i := 0) rfl rfl) rfl) ref_items_nil rfl) rfl) rfl rfl) (fun _ _ => ref_store_local hC (i := 0) rfl rfl) rfl)
      (ref_cons (ref_Assign ref_str (fun _ _ => ref_store_local hC (i := 1) rfl rfl) rfl)
      (ref_cons (ref_Assign (ref_BinOp (ref_MCall (ok := isStrA) hG (ref_name (ref_load_local hC (i := 0) rfl rfl) rfl) (mth_str F.slot_str_rfind F.type_str_rfind) cw_builtin (ref_items_cons (ref_name (ref_load_local hC (i := 1) rfl rfl) rfl) ref_items_nil rfl) ref_rfind rfl rfl rfl) ref_int (fun _ _ _ _ => ref_add)) (fun _ _ => ref_store_local hC (i := 2) rfl rfl) rfl)
      (ref_cons (ref_AssignSwap (ref_Tuple (ref_items_cons (ref_Subscript hG (ref_name (ref_load_local hC (i := 0) rfl rfl) rfl) (ref_Slice (ml := none) (mu := some _) trivial (ref_name (ref_load_local hC (i := 2) rfl rfl) rfl))) (ref_items_cons (ref_Subscript hG (ref_name (ref_load_local hC (i := 0) rfl rfl) rfl) (ref_Slice (ml := some _) (mu := none) (ref_name (ref_load_local hC (i := 2) rfl rfl) rfl) trivial)) ref_items_nil rfl) rfl)) (fun _ _ => ref_store_local hC (i := 3) rfl rfl) (fun _ _ => ref_store_local hC (i := 4) rfl rfl) rfl rfl)
      (ref_cons (ref_If (ref_isTrue_BoolOp (ref_and_cons (ref_isTrue_value (ref_name (ref_load_local hC (i := 3) rfl rfl) rfl) (fun _ _ => ref_truth) rfl) (ref_and_cons (ref_isTrue_Compare (ref_name (ref_load_local hC (i := 3) rfl rfl) rfl) (ref_BinOp (ref_name (ref_load_local hC (i := 1) rfl rfl) rfl) (ref_Call hG (BiName.nm hN.b_len hG hC rfl) cw_builtin (ref_items_cons (ref_name (ref_load_local hC (i := 3) rfl rfl) rfl) ref_items_nil rfl) ref_len rfl rfl) (fun _ _ _ _ => ref_mul)) (fun _ _ _ _ => ref_ne hC) (fun _ _ => ref_truth) rfl) ref_and_nil))) (ref_cons1 (ref_Assign (ref_MCall (ok := isStrA) hG (ref_name (ref_load_local hC (i := 3) rfl rfl) rfl) (mth_str F.slot_str_rstrip F.type_str_rstrip) cw_builtin (ref_items_cons (ref_name (ref_load_local hC (i := 1) rfl rfl) rfl) ref_items_nil rfl) ref_rstrip rfl rfl rfl) (fun _ _ => ref_store_local hC (i := 3) rfl rfl) rfl)) ref_nil)
      (ref_cons1 (ref_Return (ref_Tuple (ref_items_cons (ref_name (ref_load_local hC (i := 3) rfl rfl) rfl) (ref_items_cons (ref_name (ref_load_local hC (i := 4) rfl rfl) rfl) ref_items_nil rfl) rfl)))))))))⟩
noncomputable def m_NodeInfo_init : {m : AM AF // ∀ G : Gl, G.Ok → Nms G → Body G F_NodeInfo_init true 590 m} := ⟨_, fun G hG hN L q f c envs dep un ups gn hx hC hd hu =>
    (ref_cons (ref_AssignAttr hG hN.top hN.info (ref_name (ref_load_local hC (i := 1) rfl rfl) rfl) (ref_name (ref_load_local hC (i := 0) rfl rfl) rfl) rfl)
      (ref_cons (ref_AssignAttr hG hN.top hN.info ref_int (ref_name (ref_load_local hC (i := 0) rfl rfl) rfl) rfl)
      (ref_cons1 (ref_AssignAttr hG hN.top hN.info ref_newList (ref_name (ref_load_local hC (i := 0) rfl rfl) rfl) rfl))))⟩
noncomputable def m_TopologicalSorter_init : {m : AM AF // ∀ G : Gl, G.Ok → Nms G → Body G F_TopologicalSorter_init true 590 m} := ⟨_, fun G hG hN L q f c envs dep un ups gn hx hC hd hu =>
    (ref_cons (ref_AssignAttr hG hN.top hN.info ref_newDict (ref_name (ref_load_local hC (i := 0) rfl rfl) rfl) rfl)
      (ref_cons (ref_AssignAttr hG hN.top hN.info ref_none (ref_name (ref_load_local hC (i := 0) rfl rfl) rfl) rfl)
      (ref_cons (ref_AssignAttr hG hN.top hN.info ref_int (ref_name (ref_load_local hC (i := 0) rfl rfl) rfl) rfl)
      (ref_cons (ref_AssignAttr hG hN.top hN.info ref_int (ref_name (ref_load_local hC (i := 0) rfl rfl) rfl) rfl)
      (ref_cons1 (ref_If (ref_isTrue_Compare (ref_name (ref_load_local hC (i := 1) rfl rfl) rfl) ref_none (fun _ _ _ _ => ref_isNot) (fun _ _ => ref_truth) rfl) ref_fail ref_nil))))))⟩
noncomputable def m_TopologicalSorterget_nodeinfo : {m : AM AF // ∀ G : Gl, G.Ok → Nms G → Body G F_TopologicalSorterget_nodeinfo true 580 m} := ⟨_, fun G hG hN L q f c envs dep un ups gn hx hC hd hu =>
    (ref_cons (ref_If (ref_isTrue_Compare (ref_NamedExpr (ref_MCall (ok := isDictA) hG (ref_Attribute hG hN.top hN.info (ref_name (ref_load_local hC (i := 0) rfl rfl) rfl) rfl) (mth_dict F.slot_dict_get F.type_dict_get) cw_builtin (ref_items_cons (ref_name (ref_load_local hC (i := 1) rfl rfl) rfl) ref_items_nil rfl) (ref_dict_get hG) rfl rfl rfl) (fun _ _ => ref_store_local hC (i := 2) rfl rfl)) ref_none (fun _ _ _ _ => ref_is) (fun _ _ => ref_truth) rfl) (ref_cons1 (ref_AssignSubName (ref_CallMkI hG hC hN.mkI rfl rfl (m_NodeInfo_init.2 G hG hN) ⟨hd, hu⟩ (by decide) (by decide) (ref_items_cons (ref_name (ref_load_local hC (i := 1) rfl rfl) rfl) ref_items_nil rfl) rfl rfl) (ref_Attribute hG hN.top hN.info (ref_name (ref_load_local hC (i := 0) rfl rfl) rfl) rfl) (ref_name (ref_load_local hC (i := 1) rfl rfl) rfl) (fun _ _ => ref_store_local hC (i := 2) rfl rfl) rfl rfl)) ref_nil)
      (ref_cons1 (ref_Return (ref_name (ref_load_local hC (i := 2) rfl rfl) rfl))))⟩
noncomputable def m_TopologicalSorter_add : {m : AM AF // ∀ G : Gl, G.Ok → Nms G → Body G F_TopologicalSorter_add true 570 m} := ⟨_, fun G hG hN L q f c envs dep un ups gn hx hC hd hu =>
    (ref_cons (ref_If (ref_isTrue_Compare (ref_Attribute hG hN.top hN.info (ref_name (ref_load_local hC (i := 0) rfl rfl) rfl) rfl) ref_none (fun _ _ _ _ => ref_isNot) (fun _ _ => ref_truth) rfl) ref_fail ref_nil)
      (ref_cons (ref_Assign (ref_MT hG hN.top hN.t_TopologicalSorterget_nodeinfo (m_TopologicalSorterget_nodeinfo.2 G hG hN) ⟨hd, hu⟩ (by decide) (by decide) (ref_name (ref_load_local hC (i := 0) rfl rfl) rfl) (ref_items_cons (ref_name (ref_load_local hC (i := 1) rfl rfl) rfl) ref_items_nil rfl) rfl rfl rfl) (fun _ _ => ref_store_local hC (i := 3) rfl rfl) rfl)
      (ref_cons (ref_AugAttr hG hN.top hN.info (ref_name (ref_load_local hC (i := 3) rfl rfl) rfl) (ref_Call hG (BiName.nm hN.b_len hG hC rfl) cw_builtin (ref_items_cons (ref_name (ref_load_local hC (i := 2) rfl rfl) rfl) ref_items_nil rfl) ref_len rfl rfl) (fun _ _ _ _ => ref_iadd))
      (ref_cons1 (ref_For 100 (iter_val (ref_name (ref_load_local hC (i := 2) rfl rfl) rfl)) (ref_target_name (fun _ _ => ref_store_local hC (i := 4) rfl rfl)) (ref_cons (ref_Assign (ref_MT hG hN.top hN.t_TopologicalSorterget_nodeinfo (m_TopologicalSorterget_nodeinfo.2 G hG hN) ⟨hd, hu⟩ (by decide) (by decide) (ref_name (ref_load_local hC (i := 0) rfl rfl) rfl) (ref_items_cons (ref_name (ref_load_local hC (i := 4) rfl rfl) rfl) ref_items_nil rfl) rfl rfl rfl) (fun _ _ => ref_store_local hC (i := 5) rfl rfl) rfl)
      (ref_cons1 (ref_Expr (ref_MCall (ok := isListA) hG (ref_Attribute hG hN.top hN.info (ref_name (ref_load_local hC (i := 5) rfl rfl) rfl) rfl) (mth_list F.slot_list_append F.type_list_append) cw_builtin (ref_items_cons (ref_name (ref_load_local hC (i := 1) rfl rfl) rfl) ref_items_nil rfl) ref_append rfl rfl rfl) rfl rfl))) (fun _ => rfl))))))⟩
noncomputable def m_TopologicalSorter_get_ready : {m : AM AF // ∀ G : Gl, G.Ok → Nms G → Body G F_TopologicalSorter_get_ready true 590 m} := ⟨_, fun G hG hN L q f c envs dep un ups gn hx hC hd hu =>
    (ref_cons (ref_If (ref_isTrue_Compare (ref_Attribute hG hN.top hN.info (ref_name (ref_load_local hC (i := 0) rfl rfl) rfl) rfl) ref_none (fun _ _ _ _ => ref_is) (fun _ _ => ref_truth) rfl) ref_fail ref_nil)
      (ref_cons (ref_Assign (ref_Call hG (BiName.nm hN.b_tuple hG hC rfl) cw_type (ref_items_cons (ref_Attribute hG hN.top hN.info (ref_name (ref_load_local hC (i := 0) rfl rfl) rfl) rfl) ref_items_nil rfl) ref_tuple rfl rfl) (fun _ _ => ref_store_local hC (i := 1) rfl rfl) rfl)
      (ref_cons (ref_Assign (ref_Attribute hG hN.top hN.info (ref_name (ref_load_local hC (i := 0) rfl rfl) rfl) rfl) (fun _ _ => ref_store_local hC (i := 2) rfl rfl) rfl)
      (ref_cons (ref_For 100 (iter_val (ref_name (ref_load_local hC (i := 1) rfl rfl) rfl)) (ref_target_name (fun _ _ => ref_store_local hC (i := 3) rfl rfl)) (ref_cons1 (ref_AssignAttr hG hN.top hN.info (ref_global' hG hC hN.d_NODE_OUT rfl rfl) (ref_Subscript hG (ref_name (ref_load_local hC (i := 2) rfl rfl) rfl) (ref_name (ref_load_local hC (i := 3) rfl rfl) rfl)) rfl)) (fun _ => rfl))
      (ref_cons (ref_Expr (ref_MCall0 (ok := isListA) hG (ref_Attribute hG hN.top hN.info (ref_name (ref_load_local hC (i := 0) rfl rfl) rfl) rfl) (mth_list F.slot_list_clear F.type_list_clear) cw_builtin ref_clear rfl) rfl rfl)
      (ref_cons (ref_AugAttr hG hN.top hN.info (ref_name (ref_load_local hC (i := 0) rfl rfl) rfl) (ref_Call hG (BiName.nm hN.b_len hG hC rfl) cw_builtin (ref_items_cons (ref_name (ref_load_local hC (i := 1) rfl rfl) rfl) ref_items_nil rfl) ref_len rfl rfl) (fun _ _ _ _ => ref_iadd))
      (ref_cons1 (ref_Return (ref_name (ref_load_local hC (i := 1) rfl rfl) rfl)))))))))⟩
noncomputable def m_TopologicalSorter_done : {m : AM AF // ∀ G : Gl, G.Ok → Nms G → Body G F_TopologicalSorter_done true 590 m} := ⟨_, fun G hG hN L q f c envs dep un ups gn hx hC hd hu =>
    (ref_cons (ref_If (ref_isTrue_Compare (ref_Attribute hG hN.top hN.info (ref_name (ref_load_local hC (i := 0) rfl rfl) rfl) rfl) ref_none (fun _ _ _ _ => ref_is) (fun _ _ => ref_truth) rfl) ref_fail ref_nil)
      (ref_cons (ref_Assign (ref_Attribute hG hN.top hN.info (ref_name (ref_load_local hC (i := 0) rfl rfl) rfl) rfl) (fun _ _ => ref_store_local hC (i := 2) rfl rfl) rfl)
      (ref_cons1 (ref_For 100 (iter_val (ref_name (ref_load_local hC (i := 1) rfl rfl) rfl)) (ref_target_name (fun _ _ => ref_store_local hC (i := 3) rfl rfl)) (ref_cons (ref_If (ref_isTrue_Compare (ref_NamedExpr (ref_MCall (ok := isDictA) hG (ref_name (ref_load_local hC (i := 2) rfl rfl) rfl) (mth_dict F.slot_dict_get F.type_dict_get) cw_builtin (ref_items_cons (ref_name (ref_load_local hC (i := 3) rfl rfl) rfl) ref_items_nil rfl) (ref_dict_get hG) rfl rfl rfl) (fun _ _ => ref_store_local hC (i := 4) rfl rfl)) ref_none (fun _ _ _ _ => ref_is) (fun _ _ => ref_truth) rfl) ref_fail ref_nil)
      (ref_cons (ref_Assign (ref_Attribute hG hN.top hN.info (ref_name (ref_load_local hC (i := 4) rfl rfl) rfl) rfl) (fun _ _ => ref_store_local hC (i := 5) rfl rfl) rfl)
      (ref_cons (ref_If (ref_isTrue_Compare (ref_name (ref_load_local hC (i := 5) rfl rfl) rfl) (ref_global' hG hC hN.d_NODE_OUT rfl rfl) (fun _ _ _ _ => ref_ne hC) (fun _ _ => ref_truth) rfl) (ref_cons1 (ref_If (ref_isTrue_Compare (ref_name (ref_load_local hC (i := 5) rfl rfl) rfl) ref_int (fun _ _ _ _ => ref_ge) (fun _ _ => ref_truth) rfl) ref_fail (ref_cons1 (ref_If (ref_isTrue_Compare (ref_name (ref_load_local hC (i := 5) rfl rfl) rfl) (ref_global' hG hC hN.d_NODE_DONE rfl rfl) (fun _ _ _ _ => ref_eq hC) (fun _ _ => ref_truth) rfl) ref_fail ref_fail)))) ref_nil)
      (ref_cons (ref_AssignAttr hG hN.top hN.info (ref_global' hG hC hN.d_NODE_DONE rfl rfl) (ref_name (ref_load_local hC (i := 4) rfl rfl) rfl) rfl)
      (ref_cons (ref_For 100 (iter_trk (ref_Attribute hG hN.top hN.info (ref_name (ref_load_local hC (i := 4) rfl rfl) rfl) rfl)) (ref_target_name (fun _ _ => ref_store_local hC (i := 6) rfl rfl)) (ref_cons (ref_Assign (ref_Subscript hG (ref_name (ref_load_local hC (i := 2) rfl rfl) rfl) (ref_name (ref_load_local hC (i := 6) rfl rfl) rfl)) (fun _ _ => ref_store_local hC (i := 7) rfl rfl) rfl)
      (ref_cons (ref_AugAttr hG hN.top hN.info (ref_name (ref_load_local hC (i := 7) rfl rfl) rfl) ref_int (fun _ _ _ _ => ref_isub))
      (ref_cons1 (ref_If (ref_isTrue_Compare (ref_Attribute hG hN.top hN.info (ref_name (ref_load_local hC (i := 7) rfl rfl) rfl) rfl) ref_int (fun _ _ _ _ => ref_eq hC) (fun _ _ => ref_truth) rfl) (ref_cons1 (ref_Expr (ref_MCall (ok := isListA) hG (ref_Attribute hG hN.top hN.info (ref_name (ref_load_local hC (i := 0) rfl rfl) rfl) rfl) (mth_list F.slot_list_append F.type_list_append) cw_builtin (ref_items_cons (ref_name (ref_load_local hC (i := 6) rfl rfl) rfl) ref_items_nil rfl) ref_append rfl rfl rfl) rfl rfl)) ref_nil)))) (fun _ => rfl))
      (ref_cons1 (ref_AugAttr hG hN.top hN.info (ref_name (ref_load_local hC (i := 0) rfl rfl) rfl) ref_int (fun _ _ _ _ => ref_iadd)))))))) (fun _ => rfl)))))⟩
noncomputable def m_law_sorter : {m : AM AF // ∀ G : Gl, G.Ok → Nms G → Body G F_law_sorter true 560 m} := ⟨_, fun G hG hN L q f c envs dep un ups gn hx hC hd hu =>
    (ref_cons (ref_Assign (ref_CallMkT0 hG hC hN.mkT rfl rfl (m_TopologicalSorter_init.2 G hG hN) ⟨hd, hu⟩ (by decide) (by decide)) (fun _ _ => ref_store_local hC (i := 2) rfl rfl) rfl)
      (ref_cons (ref_For 100 (iter_val (ref_Call hG (BiName.nm hN.b_range hG hC rfl) cw_type (ref_items_cons (ref_name (ref_load_local hC (i := 0) rfl rfl) rfl) ref_items_nil rfl) ref_range rfl rfl)) (ref_target_name (fun _ _ => ref_store_local hC (i := 3) rfl rfl)) (ref_cons1 (ref_Expr (ref_MTV 2 hG hN.top hN.t_TopologicalSorter_add (m_TopologicalSorter_add.2 G hG hN) ⟨hd, hu⟩ (by decide) (by decide) (ref_name (ref_load_local hC (i := 2) rfl rfl) rfl) (ref_items_cons (ref_name (ref_load_local hC (i := 3) rfl rfl) rfl) ref_items_nil rfl) rfl rfl rfl) rfl rfl)) (fun _ => rfl))
      (ref_cons (ref_For 100 (iter_trk (ref_name (ref_load_local hC (i := 1) rfl rfl) rfl)) (fun _ _ => ref_target_tuple (.cons (ref_target_name (fun _ _ => ref_store_local hC (i := 4) rfl rfl)) (.cons (ref_target_name (fun _ _ => ref_store_local hC (i := 5) rfl rfl)) .nil)) rfl) (ref_cons1 (ref_Expr (ref_MTV 2 hG hN.top hN.t_TopologicalSorter_add (m_TopologicalSorter_add.2 G hG hN) ⟨hd, hu⟩ (by decide) (by decide) (ref_name (ref_load_local hC (i := 2) rfl rfl) rfl) (ref_items_cons (ref_name (ref_load_local hC (i := 4) rfl rfl) rfl) (ref_items_cons (ref_name (ref_load_local hC (i := 5) rfl rfl) rfl) ref_items_nil rfl) rfl) rfl rfl rfl) rfl rfl)) (fun _ => rfl))
      (ref_cons1 (ref_Return (ref_name (ref_load_local hC (i := 2) rfl rfl) rfl))))))⟩
end Mine

open PySem PySem.W PyProof.Rows PySem.Calls PySem.Spec
set_option Elab.async false
namespace Mine
set_option maxRecDepth 100000
set_option maxHeartbeats 4000000
set_option linter.unusedVariables false
noncomputable def x_TopologicalSorter_done : {m : AM Unit // ∀ G : Gl, G.Ok → Nms G → BodyX G F_TopologicalSorter_done 590 (.type "ValueError") m} := ⟨_, fun G hG hN L q f c envs dep un ups gn hx hC hd hu =>
    (x_seq (ref_If (ref_isTrue_Compare (ref_Attribute hG hN.top hN.info (ref_name (ref_load_local hC (i := 0) rfl rfl) rfl) rfl) ref_none (fun _ _ _ _ => ref_is) (fun _ _ => ref_truth) rfl) ref_fail ref_nil)
      (x_seq (ref_Assign (ref_Attribute hG hN.top hN.info (ref_name (ref_load_local hC (i := 0) rfl rfl) rfl) rfl) (fun _ _ => ref_store_local hC (i := 2) rfl rfl) rfl)
      (x_one (x_For hx.2 rfl (iter_val (ref_name (ref_load_local hC (i := 1) rfl rfl) rfl)) (ref_target_name (fun _ _ => ref_store_local hC (i := 3) rfl rfl)) (x_seq (ref_If (ref_isTrue_Compare (ref_NamedExpr (ref_MCall (ok := isDictA) hG (ref_name (ref_load_local hC (i := 2) rfl rfl) rfl) (mth_dict F.slot_dict_get F.type_dict_get) cw_builtin (ref_items_cons (ref_name (ref_load_local hC (i := 3) rfl rfl) rfl) ref_items_nil rfl) (ref_dict_get hG) rfl rfl rfl) (fun _ _ => ref_store_local hC (i := 4) rfl rfl)) ref_none (fun _ _ _ _ => ref_is) (fun _ _ => ref_truth) rfl) ref_fail ref_nil)
      (x_seq (ref_Assign (ref_Attribute hG hN.top hN.info (ref_name (ref_load_local hC (i := 4) rfl rfl) rfl) rfl) (fun _ _ => ref_store_local hC (i := 5) rfl rfl) rfl)
      (x_one (x_If (ref_isTrue_Compare (ref_name (ref_load_local hC (i := 5) rfl rfl) rfl) (ref_global' hG hC hN.d_NODE_OUT rfl rfl) (fun _ _ _ _ => ref_ne hC) (fun _ _ => ref_truth) rfl) (x_one (x_If (ref_isTrue_Compare (ref_name (ref_load_local hC (i := 5) rfl rfl) rfl) ref_int (fun _ _ _ _ => ref_ge) (fun _ _ => ref_truth) rfl) (x_one (x_Raise hG excClass_ValueError hx.1 (BiName.nm hN.b_ValueError hG hC rfl) (w_one (w_JoinedStr (ref_name (ref_load_local hC (i := 3) rfl rfl) rfl)) rfl) rfl rfl)) x_fail)) x_fail)))) (fun _ => rfl)))))⟩
noncomputable def m_law_taken : {m : AM AF // ∀ G : Gl, G.Ok → Nms G → Body G F_law_taken true 580 m true} := ⟨_, fun G hG hN L q f c envs dep un ups gn hx hC hd hu =>
    (ref_cons (ref_For 100 (iter_val (ref_name (ref_load_local hC (i := 1) rfl rfl) rfl)) (ref_target_name (fun _ _ => ref_store_local hC (i := 2) rfl rfl)) (ref_cons (ref_Expr (ref_MT0 hG hN.top hN.t_TopologicalSorter_get_ready (m_TopologicalSorter_get_ready.2 G hG hN) ⟨hd, hu⟩ (by decide) (by decide) (ref_name (ref_load_local hC (i := 0) rfl rfl) rfl) rfl) rfl rfl)
      (ref_cons1 (ref_Try (X := "ValueError") (T := "ValueError") (hx rfl).2 rfl (by kernel_rfl) (by kernel_rfl) (by kernel_rfl) (ref_cons1 (ref_Expr (ref_MTV 1 hG hN.top hN.t_TopologicalSorter_done (m_TopologicalSorter_done.2 G hG hN) ⟨hd, hu⟩ (by decide) (by decide) (ref_name (ref_load_local hC (i := 0) rfl rfl) rfl) (ref_items_cons (ref_name (ref_load_local hC (i := 2) rfl rfl) rfl) ref_items_nil rfl) rfl rfl rfl) rfl rfl)) ((y_one (y_Expr (y_MTV 1 hG hN.top (hx rfl).1 hN.t_TopologicalSorter_done (x_TopologicalSorter_done.2 G hG hN) ⟨hd, hu⟩ (by decide) (by decide) (ref_name (ref_load_local hC (i := 0) rfl rfl) rfl) (ref_items_cons (ref_name (ref_load_local hC (i := 2) rfl rfl) rfl) ref_items_nil rfl) rfl rfl rfl) rfl rfl)).x) (BiName.nm hN.b_ValueError hG hC rfl) (ref_cons1 (ref_Return ref_bool))))) (fun _ => rfl))
      (ref_cons1 (ref_Return ref_bool)))⟩
noncomputable def m_TopologicalSorterfind_cycle : {m : AM AF // ∀ G : Gl, G.Ok → Nms G → Body G F_TopologicalSorterfind_cycle true 590 m true} := ⟨_, fun G hG hN L q f c envs dep un ups gn hx hC hd hu =>
    (ref_cons (ref_Assign (ref_Attribute hG hN.top hN.info (ref_name (ref_load_local hC (i := 0) rfl rfl) rfl) rfl) (fun _ _ => ref_store_local hC (i := 1) rfl rfl) rfl)
      (ref_cons (ref_Assign ref_newList (fun _ _ => ref_store_local hC (i := 2) rfl rfl) rfl)
      (ref_cons (ref_Assign ref_newList (fun _ _ => ref_store_local hC (i := 3) rfl rfl) rfl)
      (ref_cons (ref_Assign (ref_Call0 hG (BiName.nm hN.b_set hG hC rfl) cw_type ref_newSet) (fun _ _ => ref_store_local hC (i := 4) rfl rfl) rfl)
      (ref_cons (ref_Assign ref_newDict (fun _ _ => ref_store_local hC (i := 5) rfl rfl) rfl)
      (ref_cons (ref_ForKeys 100 hG (ref_name (ref_load_local hC (i := 1) rfl rfl) rfl) (ref_target_name (fun _ _ => ref_store_local hC (i := 6) rfl rfl)) (ref_cons (ref_If (ref_isTrue_Compare (ref_name (ref_load_local hC (i := 6) rfl rfl) rfl) (ref_name (ref_load_local hC (i := 4) rfl rfl) rfl) (fun _ _ _ _ => ref_in hG hC) (fun _ _ => ref_truth) rfl) (ref_cons1 ref_Continue) ref_nil)
      (ref_cons1 (ref_While 100 (ref_isTrue_value ref_bool (fun _ _ => ref_truth) rfl) (ref_cons (ref_If (ref_isTrue_Compare (ref_name (ref_load_local hC (i := 6) rfl rfl) rfl) (ref_name (ref_load_local hC (i := 4) rfl rfl) rfl) (fun _ _ _ _ => ref_in hG hC) (fun _ _ => ref_truth) rfl) (ref_cons1 (ref_If (ref_isTrue_Compare (ref_name (ref_load_local hC (i := 6) rfl rfl) rfl) (ref_name (ref_load_local hC (i := 5) rfl rfl) rfl) (fun _ _ _ _ => ref_in hG hC) (fun _ _ => ref_truth) rfl) (ref_cons1 (ref_Return (ref_BinOp (ref_Subscript hG (ref_name (ref_load_local hC (i := 2) rfl rfl) rfl) (ref_Slice (ml := some _) (mu := none) (ref_Subscript hG (ref_name (ref_load_local hC (i := 5) rfl rfl) rfl) (ref_name (ref_load_local hC (i := 6) rfl rfl) rfl)) trivial)) (ref_List (ref_items_cons (ref_name (ref_load_local hC (i := 6) rfl rfl) rfl) ref_items_nil rfl)) (fun _ _ _ _ => ref_add)))) ref_nil)) (ref_cons (ref_Expr (ref_MCall (ok := isSetA) hG (ref_name (ref_load_local hC (i := 4) rfl rfl) rfl) mth_set_add cw_builtin (ref_items_cons (ref_name (ref_load_local hC (i := 6) rfl rfl) rfl) ref_items_nil rfl) ref_set_add rfl rfl rfl) rfl rfl)
      (ref_cons (ref_Expr (ref_MCall (ok := isListA) hG (ref_name (ref_load_local hC (i := 3) rfl rfl) rfl) (mth_list F.slot_list_append F.type_list_append) cw_builtin (ref_items_cons (ref_AttrNext (ref_Call hG (BiName.nm hN.b_iter hG hC rfl) cw_builtin (ref_items_cons (ref_Attribute hG hN.top hN.info (ref_Subscript hG (ref_name (ref_load_local hC (i := 1) rfl rfl) rfl) (ref_name (ref_load_local hC (i := 6) rfl rfl) rfl)) rfl) ref_items_nil rfl) ref_iter rfl rfl) rfl) ref_items_nil rfl) ref_append rfl rfl rfl) rfl rfl)
      (ref_cons (ref_AssignSub (ref_Call hG (BiName.nm hN.b_len hG hC rfl) cw_builtin (ref_items_cons (ref_name (ref_load_local hC (i := 2) rfl rfl) rfl) ref_items_nil rfl) ref_len rfl rfl) (ref_name (ref_load_local hC (i := 5) rfl rfl) rfl) (ref_name (ref_load_local hC (i := 6) rfl rfl) rfl) rfl)
      (ref_cons1 (ref_Expr (ref_MCall (ok := isListA) hG (ref_name (ref_load_local hC (i := 2) rfl rfl) rfl) (mth_list F.slot_list_append F.type_list_append) cw_builtin (ref_items_cons (ref_name (ref_load_local hC (i := 6) rfl rfl) rfl) ref_items_nil rfl) ref_append rfl rfl rfl) rfl rfl))))))
      (ref_cons1 (ref_While 100 (ref_isTrue_value (ref_name (ref_load_local hC (i := 2) rfl rfl) rfl) (fun _ _ => ref_truth) rfl) (ref_cons1 (ref_Try (X := "StopIteration") (T := "StopIteration") (hx rfl).2 rfl (by kernel_rfl) (by kernel_rfl) (by kernel_rfl) (ref_cons (ref_Assign (ref_CallBnd (ref_Subscript hG (ref_name (ref_load_local hC (i := 3) rfl rfl) rfl) (ref_USub ref_int)) rfl) (fun _ _ => ref_store_local hC (i := 6) rfl rfl) rfl)
      (ref_cons1 ref_Break)) (x_one (x_Assign (x_CallBnd (hx rfl).1 (ref_Subscript hG (ref_name (ref_load_local hC (i := 3) rfl rfl) rfl) (ref_USub ref_int)) rfl) rfl)) (BiName.nm hN.b_StopIteration hG hC rfl) (ref_cons (ref_Delete (ref_name (ref_load_local hC (i := 5) rfl rfl) rfl) (ref_MCall0 (ok := isListA) hG (ref_name (ref_load_local hC (i := 2) rfl rfl) rfl) (mth_list F.slot_list_pop F.type_list_pop) cw_builtin ref_pop rfl))
      (ref_cons1 (ref_Expr (ref_MCall0 (ok := isListA) hG (ref_name (ref_load_local hC (i := 3) rfl rfl) rfl) (mth_list F.slot_list_pop F.type_list_pop) cw_builtin ref_pop rfl) rfl rfl))))) (ref_cons1 ref_Break)))) ref_nil))) (fun _ => rfl))
      (ref_cons1 (ref_Return ref_none))))))))⟩
noncomputable def m_TopologicalSorter_prepare : {m : AM AF // ∀ G : Gl, G.Ok → Nms G → Body G F_TopologicalSorter_prepare true 580 m true} := ⟨_, fun G hG hN L q f c envs dep un ups gn hx hC hd hu =>
    (ref_cons (ref_If (ref_isTrue_Compare (ref_Attribute hG hN.top hN.info (ref_name (ref_load_local hC (i := 0) rfl rfl) rfl) rfl) ref_none (fun _ _ _ _ => ref_isNot) (fun _ _ => ref_truth) rfl) ref_fail ref_nil)
      (ref_cons (ref_AssignAttr hG hN.top hN.info (ref_CompV (xs := ["i"]) (names := ["self", "cycle"]) (pat := [false, false]) 100 hG hC rfl rfl (by decide +kernel) (fun _ => rfl) rfl finT_ok (ref_MCall0 (ok := isDictA) hG (ref_Attribute hG hN.top hN.info (ref_name (ref_load_local hC (i := 0) rfl rfl) rfl) rfl) (mth_dict F.slot_dict_values F.type_dict_values) cw_builtin (ref_dict_values hG) rfl) (fun L1 o1 hC1 => ⟨(ref_target_name (fun _ _ => ref_store_local hC1 (i := 0) rfl rfl)), (ref_tests_one (ref_isTrue_Compare (ref_Attribute hG hN.top hN.info (ref_name (ref_load_local hC1 (i := 0) rfl rfl) rfl) rfl) ref_int (fun _ _ _ _ => ref_eq hC1) (fun _ _ => ref_truth) rfl)), (ref_Attribute hG hN.top hN.info (ref_name (ref_load_local hC1 (i := 0) rfl rfl) rfl) rfl)⟩)) (ref_name (ref_load_local hC (i := 0) rfl rfl) rfl) rfl)
      (ref_cons (ref_Assign (ref_MT0 hG hN.top hN.t_TopologicalSorterfind_cycle (m_TopologicalSorterfind_cycle.2 G hG hN) ⟨hd, hu⟩ (by decide) (by decide) (ref_name (ref_load_local hC (i := 0) rfl rfl) rfl) rfl (hx := fun _ => (hx rfl).1)) (fun _ _ => ref_store_local hC (i := 1) rfl rfl) rfl)
      (ref_cons1 (ref_If (ref_isTrue_value (ref_name (ref_load_local hC (i := 1) rfl rfl) rfl) (fun _ _ => ref_truth) rfl) ref_fail ref_nil)))))⟩
noncomputable def x_TopologicalSorter_prepare : {m : AM Unit // ∀ G : Gl, G.Ok → Nms G → BodyX G F_TopologicalSorter_prepare 580 (.ref cCyc) m} := ⟨_, fun G hG hN L q f c envs dep un ups gn hx hC hd hu =>
    (x_seq (ref_If (ref_isTrue_Compare (ref_Attribute hG hN.top hN.info (ref_name (ref_load_local hC (i := 0) rfl rfl) rfl) rfl) ref_none (fun _ _ _ _ => ref_isNot) (fun _ _ => ref_truth) rfl) ref_fail ref_nil)
      (x_seq (ref_AssignAttr hG hN.top hN.info (ref_CompV (xs := ["i"]) (names := ["self", "cycle"]) (pat := [false, false]) 100 hG hC rfl rfl (by decide +kernel) (fun _ => rfl) rfl finT_ok (ref_MCall0 (ok := isDictA) hG (ref_Attribute hG hN.top hN.info (ref_name (ref_load_local hC (i := 0) rfl rfl) rfl) rfl) (mth_dict F.slot_dict_values F.type_dict_values) cw_builtin (ref_dict_values hG) rfl) (fun L2 o2 hC2 => ⟨(ref_target_name (fun _ _ => ref_store_local hC2 (i := 0) rfl rfl)), (ref_tests_one (ref_isTrue_Compare (ref_Attribute hG hN.top hN.info (ref_name (ref_load_local hC2 (i := 0) rfl rfl) rfl) rfl) ref_int (fun _ _ _ _ => ref_eq hC2) (fun _ _ => ref_truth) rfl)), (ref_Attribute hG hN.top hN.info (ref_name (ref_load_local hC2 (i := 0) rfl rfl) rfl) rfl)⟩)) (ref_name (ref_load_local hC (i := 0) rfl rfl) rfl) rfl)
      (x_seq (ref_Assign (ref_MT0 hG hN.top hN.t_TopologicalSorterfind_cycle (m_TopologicalSorterfind_cycle.2 G hG hN) ⟨hd, hu⟩ (by decide) (by decide) (ref_name (ref_load_local hC (i := 0) rfl rfl) rfl) rfl (hx := fun _ => hx.1)) (fun _ _ => ref_store_local hC (i := 1) rfl rfl) rfl)
      (x_one (x_If (ref_isTrue_value (ref_name (ref_load_local hC (i := 1) rfl rfl) rfl) (fun _ _ => ref_truth) rfl) (x_one (x_RaiseOwn hN.cyc hx.1 (hN.cyc.nm hG hC rfl) (w_two w_JoinedOne (ref_name (ref_load_local hC (i := 1) rfl rfl) rfl) rfl rfl) rfl rfl)) x_fail)))))⟩
noncomputable def m_law_refused : {m : AM AF // ∀ G : Gl, G.Ok → Nms G → Body G F_law_refused true 570 m true} := ⟨_, fun G hG hN L q f c envs dep un ups gn hx hC hd hu =>
    (ref_cons (ref_TryOwn hG (hx rfl).2 rfl hN.cyc (ref_cons1 (ref_Expr (ref_MT0 hG hN.top hN.t_TopologicalSorter_prepare (m_TopologicalSorter_prepare.2 G hG hN) ⟨hd, hu⟩ (by decide) (by decide) (ref_name (ref_load_local hC (i := 0) rfl rfl) rfl) rfl (hx := fun _ => (hx rfl).1)) rfl rfl)) ((y_one (y_Expr (y_MT0 hG hN.top (hx rfl).1 hN.t_TopologicalSorter_prepare (x_TopologicalSorter_prepare.2 G hG hN) ⟨hd, hu⟩ (by decide) (by decide) (ref_name (ref_load_local hC (i := 0) rfl rfl) rfl) rfl) rfl rfl)).x) (hN.cyc.nm hG hC rfl) (ref_cons1 (ref_Return ref_bool)))
      (ref_cons1 (ref_Return ref_bool)))⟩
end Mine

open PySem PySem.W PyProof.Rows PySem.Calls PySem.Spec
set_option Elab.async false
namespace Mine
set_option maxRecDepth 100000
set_option maxHeartbeats 4000000
set_option linter.unusedVariables false
noncomputable def m_law (D : Addr) (ns : List Int) : {m : AM AF // ∀ G : Gl, G.Ok → Nms G → ScriptOk G D ns → Body G F_law true 500 m true} := ⟨_, fun G hG hN hS L q f c envs dep un ups gn hx hC hd hu =>
    (ref_cons (ref_Assign (ref_CallF hG hC hN.f_law_moves rfl ((m_law_moves D ns).2 G hG hN hS) ⟨hd, hu⟩ (by decide) (by decide) (ref_items_cons (ref_name (ref_load_local hC (i := 0) rfl rfl) rfl) ref_items_nil rfl) rfl rfl) (fun _ _ => ref_store_cell hC (i := 1) rfl rfl rfl) rfl)
      (ref_cons (ref_Assign (ref_Call hG (BiName.nm hN.b_len hG hC rfl) cw_builtin (ref_items_cons (ref_name (ref_load_cell hC (i := 1) rfl rfl rfl) rfl) ref_items_nil rfl) ref_len rfl rfl) (fun _ _ => ref_store_local hC (i := 2) rfl rfl) rfl)
      (ref_cons (ref_AssignComp1 (xs := ["source", "goal"]) (names := ["script", "moves", "count", "sources", "goals", "waits", "i", "j", "files", "due", "some", "refused", "order", "sorter", "right"]) (pat := [false, true, false, false, false, false, false, false, false, false, false, false, false, false, false]) 100 hC rfl rfl rfl (by decide +kernel) (fun _ => rfl) rfl finD_ok (iter_trk (ref_name (ref_load_cell hC (i := 1) rfl rfl rfl) rfl)) (fun L1 o1 hC1 => ⟨(fun _ _ => ref_target_tuple (.cons (ref_target_name (fun _ _ => ref_store_local hC1 (i := 0) rfl rfl)) (.cons (ref_target_name (fun _ _ => ref_store_local hC1 (i := 1) rfl rfl)) .nil)) rfl), ref_tests_nil, (ref_CallF hG hC1 hN.f_law_text rfl (m_law_text.2 G hG hN) ⟨hd, hu⟩ (by decide) (by decide) (ref_items_cons (ref_name (ref_load_local hC1 (i := 0) rfl rfl) rfl) ref_items_nil rfl) rfl rfl)⟩) (fun _ _ => ref_store_local hC (i := 3) rfl rfl))
      (ref_cons (ref_AssignComp1 (xs := ["source", "goal"]) (names := ["script", "moves", "count", "sources", "goals", "waits", "i", "j", "files", "due", "some", "refused", "order", "sorter", "right"]) (pat := [false, true, false, false, false, false, false, false, false, false, false, false, false, false, false]) 100 hC rfl rfl rfl (by decide +kernel) (fun _ => rfl) rfl finD_ok (iter_trk (ref_name (ref_load_cell hC (i := 1) rfl rfl rfl) rfl)) (fun L2 o2 hC2 => ⟨(fun _ _ => ref_target_tuple (.cons (ref_target_name (fun _ _ => ref_store_local hC2 (i := 0) rfl rfl)) (.cons (ref_target_name (fun _ _ => ref_store_local hC2 (i := 1) rfl rfl)) .nil)) rfl), ref_tests_nil, (ref_CallF hG hC2 hN.f_law_text rfl (m_law_text.2 G hG hN) ⟨hd, hu⟩ (by decide) (by decide) (ref_items_cons (ref_name (ref_load_local hC2 (i := 1) rfl rfl) rfl) ref_items_nil rfl) rfl rfl)⟩) (fun _ _ => ref_store_local hC (i := 4) rfl rfl))
      (ref_cons (ref_Assign ref_newList (fun _ _ => ref_store_local hC (i := 5) rfl rfl) rfl)
      (ref_cons (ref_For 100 (iter_val (ref_Call hG (BiName.nm hN.b_range hG hC rfl) cw_type (ref_items_cons (ref_name (ref_load_local hC (i := 2) rfl rfl) rfl) ref_items_nil rfl) ref_range rfl rfl)) (ref_target_name (fun _ _ => ref_store_local hC (i := 6) rfl rfl)) (ref_cons1 (ref_For 100 (iter_val (ref_Call hG (BiName.nm hN.b_range hG hC rfl) cw_type (ref_items_cons (ref_name (ref_load_local hC (i := 2) rfl rfl) rfl) ref_items_nil rfl) ref_range rfl rfl)) (ref_target_name (fun _ _ => ref_store_local hC (i := 7) rfl rfl)) (ref_cons1 (ref_If (ref_isTrue_BoolOp (ref_and_cons (ref_isTrue_Compare (ref_name (ref_load_local hC (i := 6) rfl rfl) rfl) (ref_name (ref_load_local hC (i := 7) rfl rfl) rfl) (fun _ _ _ _ => ref_ne hC) (fun _ _ => ref_truth) rfl) (ref_and_cons (ref_isTrue_BoolOp (ref_or_cons (ref_isTrue_Compare (ref_Subscript hG (ref_name (ref_load_local hC (i := 3) rfl rfl) rfl) (ref_name (ref_load_local hC (i := 7) rfl rfl) rfl)) (ref_listGen (d := 560) 20 hG hC hN.b_list rfl hN.g_ancestry rfl rfl anc_ni rfl rfl ⟨hd, hu⟩ (by decide) (by decide) (fun L q f c envs dep un gn hC hd hu => ⟨(ref_Assign (ref_MCall (ok := isStrA) hG (ref_name (ref_load_local hC (i := 0) rfl rfl) rfl) (mth_str F.slot_str_rstrip F.type_str_rstrip) cw_builtin (ref_items_cons (ref_global' hG hC hN.dsep rfl rfl) ref_items_nil rfl) ref_rstrip rfl rfl rfl) (fun _ _ => ref_store_local hC (i := 0) rfl rfl) rfl), (ref_isTrue_value (ref_MCall (ok := isStrA) hG (ref_name (ref_load_local hC (i := 0) rfl rfl) rfl) (mth_str F.slot_str_rstrip F.type_str_rstrip) cw_builtin (ref_items_cons (ref_global' hG hC hN.dsep rfl rfl) ref_items_nil rfl) ref_rstrip rfl rfl rfl) (fun _ _ => ref_truth) rfl), (ref_name (ref_load_local hC (i := 0) rfl rfl) rfl), (ref_AssignTuple (ref_CallF hG hC hN.f_split rfl (m_split.2 G hG hN) ⟨hd, hu⟩ (by decide) (by decide) (ref_items_cons (ref_name (ref_load_local hC (i := 0) rfl rfl) rfl) ref_items_nil rfl) rfl rfl) (fun _ _ => ref_target_tuple (.cons (ref_target_name (fun _ _ => ref_store_local hC (i := 0) rfl rfl)) (.cons (ref_target_name (fun _ _ => ref_store_local hC (i := 1) rfl rfl)) .nil)) rfl) rfl rfl)⟩) (ref_Subscript hG (ref_name (ref_load_local hC (i := 4) rfl rfl) rfl) (ref_name (ref_load_local hC (i := 6) rfl rfl) rfl)) rfl rfl) (fun _ _ _ _ => ref_in hG hC) (fun _ _ => ref_truth) rfl) (ref_or_cons (ref_isTrue_Compare (ref_Subscript hG (ref_name (ref_load_local hC (i := 4) rfl rfl) rfl) (ref_name (ref_load_local hC (i := 6) rfl rfl) rfl)) (ref_listGen (d := 560) 20 hG hC hN.b_list rfl hN.g_ancestry rfl rfl anc_ni rfl rfl ⟨hd, hu⟩ (by decide) (by decide) (fun L q f c envs dep un gn hC hd hu => ⟨(ref_Assign (ref_MCall (ok := isStrA) hG (ref_name (ref_load_local hC (i := 0) rfl rfl) rfl) (mth_str F.slot_str_rstrip F.type_str_rstrip) cw_builtin (ref_items_cons (ref_global' hG hC hN.dsep rfl rfl) ref_items_nil rfl) ref_rstrip rfl rfl rfl) (fun _ _ => ref_store_local hC (i := 0) rfl rfl) rfl), (ref_isTrue_value (ref_MCall (ok := isStrA) hG (ref_name (ref_load_local hC (i := 0) rfl rfl) rfl) (mth_str F.slot_str_rstrip F.type_str_rstrip) cw_builtin (ref_items_cons (ref_global' hG hC hN.dsep rfl rfl) ref_items_nil rfl) ref_rstrip rfl rfl rfl) (fun _ _ => ref_truth) rfl), (ref_name (ref_load_local hC (i := 0) rfl rfl) rfl), (ref_AssignTuple (ref_CallF hG hC hN.f_split rfl (m_split.2 G hG hN) ⟨hd, hu⟩ (by decide) (by decide) (ref_items_cons (ref_name (ref_load_local hC (i := 0) rfl rfl) rfl) ref_items_nil rfl) rfl rfl) (fun _ _ => ref_target_tuple (.cons (ref_target_name (fun _ _ => ref_store_local hC (i := 0) rfl rfl)) (.cons (ref_target_name (fun _ _ => ref_store_local hC (i := 1) rfl rfl)) .nil)) rfl) rfl rfl)⟩) (ref_Subscript hG (ref_name (ref_load_local hC (i := 3) rfl rfl) rfl) (ref_name (ref_load_local hC (i := 7) rfl rfl) rfl)) rfl rfl) (fun _ _ _ _ => ref_in hG hC) (fun _ _ => ref_truth) rfl) ref_or_nil))) ref_and_nil))) (ref_cons1 (ref_Expr (ref_MCall (ok := isListA) hG (ref_name (ref_load_local hC (i := 5) rfl rfl) rfl) (mth_list F.slot_list_append F.type_list_append) cw_builtin (ref_items_cons (ref_Tuple (ref_items_cons (ref_name (ref_load_local hC (i := 6) rfl rfl) rfl) (ref_items_cons (ref_name (ref_load_local hC (i := 7) rfl rfl) rfl) ref_items_nil rfl) rfl)) ref_items_nil rfl) ref_append rfl rfl rfl) rfl rfl)) ref_nil)) (fun _ => rfl))) (fun _ => rfl))
      (ref_cons (ref_Assign (ref_CallF0 hG hC hN.f_law_folders rfl (m_law_folders.2 G hG hN) ⟨hd, hu⟩ (by decide) (by decide)) (fun _ _ => ref_store_local hC (i := 8) rfl rfl) rfl)
      (ref_cons (ref_Assign (ref_CallF hG hC hN.f_law_at_once rfl (m_law_at_once.2 G hG hN) ⟨hd, hu⟩ (by decide) (by decide) (ref_items_cons (ref_name (ref_load_local hC (i := 8) rfl rfl) rfl) (ref_items_cons (ref_name (ref_load_cell hC (i := 1) rfl rfl rfl) rfl) ref_items_nil rfl) rfl) rfl rfl) (fun _ _ => ref_store_local hC (i := 9) rfl rfl) rfl)
      (ref_cons (ref_Assign ref_bool (fun _ _ => ref_store_local hC (i := 10) rfl rfl) rfl)
      (ref_cons (ref_Assign ref_bool (fun _ _ => ref_store_local hC (i := 11) rfl rfl) rfl)
      (ref_cons (ref_For 100 (iter_val (ref_CallF hG hC hN.f_law_orders rfl (m_law_orders.2 G hG hN) ⟨hd, hu⟩ (by decide) (by decide) (ref_items_cons (ref_name (ref_load_local hC (i := 2) rfl rfl) rfl) ref_items_nil rfl) rfl rfl)) (ref_target_name (fun _ _ => ref_store_local hC (i := 12) rfl rfl)) (ref_scope (ref_cons (ref_Assign (ref_CallF hG hC hN.f_law_sorter rfl (m_law_sorter.2 G hG hN) ⟨hd, hu⟩ (by decide) (by decide) (ref_items_cons (ref_name (ref_load_local hC (i := 2) rfl rfl) rfl) (ref_items_cons (ref_name (ref_load_local hC (i := 5) rfl rfl) rfl) ref_items_nil rfl) rfl) rfl rfl) (fun _ _ => ref_store_local hC (i := 13) rfl rfl) rfl)
      (ref_cons (ref_Assign (ref_CallF hG hC hN.f_law_refused rfl (m_law_refused.2 G hG hN) ⟨hd, hu⟩ (by decide) (by decide) (ref_items_cons (ref_name (ref_load_local hC (i := 13) rfl rfl) rfl) ref_items_nil rfl) rfl rfl (hx := fun _ => (hx rfl).1)) (fun _ _ => ref_store_local hC (i := 11) rfl rfl) rfl)
      (ref_cons (ref_Assign (ref_Compare (ref_CallF hG hC hN.f_law_one_by_one rfl (m_law_one_by_one.2 G hG hN) ⟨hd, hu⟩ (by decide) (by decide) (ref_items_cons (ref_name (ref_load_local hC (i := 8) rfl rfl) rfl) (ref_items_cons (ref_Comp1 (xs := ["k"]) (names := ["script", "moves", "count", "sources", "goals", "waits", "i", "j", "files", "due", "some", "refused", "order", "sorter", "right"]) (pat := [false, true, false, false, false, false, false, false, false, false, false, false, false, false, false]) 100 hC rfl rfl (by decide +kernel) (fun _ => rfl) rfl finD_ok (iter_val (ref_name (ref_load_local hC (i := 12) rfl rfl) rfl)) (fun L3 o3 hC3 => ⟨(ref_target_name (fun _ _ => ref_store_local hC3 (i := 0) rfl rfl)), ref_tests_nil, (ref_Subscript hG (ref_name (ref_load_cell hC3 (i := 2) rfl rfl rfl) rfl) (ref_name (ref_load_local hC3 (i := 0) rfl rfl) rfl))⟩)) ref_items_nil rfl) rfl) rfl rfl) (ref_name (ref_load_local hC (i := 9) rfl rfl) rfl) (fun _ _ _ _ => ref_eq hC) rfl) (fun _ _ => ref_store_local hC (i := 14) rfl rfl) rfl)
      (ref_cons (ref_If (ref_isTrue_Compare (ref_CallF hG hC hN.f_law_taken rfl (m_law_taken.2 G hG hN) ⟨hd, hu⟩ (by decide) (by decide) (ref_items_cons (ref_name (ref_load_local hC (i := 13) rfl rfl) rfl) (ref_items_cons (ref_name (ref_load_local hC (i := 12) rfl rfl) rfl) ref_items_nil rfl) rfl) rfl rfl (hx := fun _ => (hx rfl).1)) (ref_name (ref_load_local hC (i := 14) rfl rfl) rfl) (fun _ _ _ _ => ref_ne hC) (fun _ _ => ref_truth) rfl) (ref_cons1 (ref_Return ref_bool)) ref_nil)
      (ref_cons1 (ref_Assign (ref_Or2 (ref_name (ref_load_local hC (i := 10) rfl rfl) rfl) (ref_name (ref_load_local hC (i := 14) rfl rfl) rfl) (fun _ _ => ref_truth)) (fun _ _ => ref_store_local hC (i := 10) rfl rfl) rfl))))))) (fun _ => rfl))
      (ref_cons1 (ref_Return (ref_Compare (ref_name (ref_load_local hC (i := 11) rfl rfl) rfl) (ref_name (ref_load_local hC (i := 10) rfl rfl) rfl) (fun _ _ _ _ => ref_ne hC) rfl))))))))))))))⟩
end Mine

open PySem PySem.W PyProof.Rows PySem.Calls PySem.Spec
set_option Elab.async false
namespace Mine
set_option maxRecDepth 100000
set_option maxHeartbeats 4000000
/-! what the hook sees of the heap -/
noncomputable def kOf (h : Heap) : Frag := (List.range 228).filterMap fun a => (h.get? a).map fun o => (a, o)
theorem kOf_in (h : Heap) : (kOf h).In h := by
  unfold kOf
  intro a o e
  generalize List.range 228 = l at e
  induction l with
  | nil => cases e
  | cons b l ih =>
    rw [List.filterMap_cons] at e
    cases hb : h.get? b with
    | none => rw [hb] at e; exact ih e
    | some ob =>
      rw [hb] at e
      simp only [Option.map_some, List.lookup_cons] at e
      by_cases q : a = b
      · subst q
        rw [beq_self_eq_true] at e
        rw [hb]; exact e
      · rw [beq_eq_false_iff_ne.mpr q] at e
        exact ih e
structure FView where
  scope : Scope
  body : FuncBody
  params : Arguments
  clo : List (Str × Addr)
  glo : Addr
  bui : Addr
  dflt : Value
  kwd : Value
noncomputable def fargs : Stmt → Arguments
  | .FunctionDef (args := a) .. => a
  | _ => default
noncomputable def fnView (K : Frag) (fa : Addr) : Option FView := match K.lookup fa with
  | some ⟨_, _, .func fd, _⟩ => if codeIn K fd.code fd.qualname then some ⟨fd.scope, fd.body, fd.params, fd.closure, fd.globals, fd.builtins, fd.defaults, fd.kwdefaults⟩ else none
  | _ => none
noncomputable def goodV (st : Stmt) (d : Value) : FView := ⟨fscope st, .stmts (fbody st), fargs st, [], mainGlobals, builtinsNs, d, .none⟩
noncomputable def fns : List (Addr × Stmt) := [(36, methAt 4 1), (80, methAt 6 1), (87, methAt 6 2), (92, methAt 6 3), (99, methAt 6 4), (120, methAt 6 7), (127, methAt 6 8), (148, stmtAt 9), (155, stmtAt 10), (162, stmtAt 11), (169, stmtAt 13),
  (174, stmtAt 15), (181, stmtAt 16), (186, stmtAt 17), (191, stmtAt 18), (196, stmtAt 19), (201, stmtAt 20), (208, stmtAt 21), (215, stmtAt 22), (222, stmtAt 23), (227, stmtAt 24)]
noncomputable def nmsOf : List (Str × Addr) := (["CycleError", "_NodeInfo", "TopologicalSorter", "_kind", "_fspath", "split", "_ancestry", "_law_folders", "_law_text", "_law_moves", "_law_one_by_one", "_law_at_once", "_law_orders", "_law_sorter", "_law_refused", "_law_taken", "law"] : List Str).zip
  [55, 40, 137, 148, 155, 162, 169, 174, 181, 186, 191, 196, 201, 208, 215, 222, 227]
noncomputable def mths : List (Str × Addr) := [("__init__", 73), ("_get_nodeinfo", 80), ("add", 87), ("prepare", 92), ("get_ready", 99), ("done", 120), ("_find_cycle", 127)]
noncomputable def slts : List (Str × Addr) := [("node", 41), ("npredecessors", 42), ("successors", 43)]
noncomputable def bmCyc : List Value := [.type "ValueError", .type "Exception", .type "BaseException", .type "object"]
noncomputable def isInt (i : Int) : Option (Option Value) → Bool
  | some (some (.int j _)) => i == j
  | _ => false
noncomputable def isStr (x : Str) : Option (Option Value) → Bool
  | some (some (.str y _)) => x == y
  | _ => false
noncomputable def isTupNone : Option Obj → Bool
  | some ⟨.type "tuple", _, .seq ⟨[.none]⟩ _, _⟩ => true
  | _ => false
noncomputable def obsB (K : Frag) : Bool :=
  plainOver K 137 && (hasDictIn K 137 && (plainGet K 137 "" && (plainOver K 40 && (plainGet K 40 "" && (isClsIn K 40 && (makesIn K 40 && (makesIn K 137 && (keepIn K (.ref 40) && (keepIn K (.ref 137) && (excIn K 55 bmCyc "ValueError.__new__" &&
  ((fns.all fun p => keepIn K (.ref p.1) && isFn K (.ref p.1)) && (isFn K (.ref 73) && (isInt (-1) (nsIn K mainGlobals "_NODE_OUT") && (isInt (-2) (nsIn K mainGlobals "_NODE_DONE") && (isStr "/" (nsIn K mainGlobals "sep") &&
  isTupNone (K.lookup 66))))))))))))))))
noncomputable def obsC (K : Frag) : List (Option (Option Value)) := [findIn K (.ref 137) "__setattr__", findIn K (.ref 40) "__setattr__", findIn K (.ref 40) "__init__"] ++ (attNames.flatMap fun n => [findIn K (.ref 137) n, takerIn K 137 n])
  ++ (slts.flatMap fun p => [findIn K (.ref 40) p.1, takerIn K 40 p.1, specialIn K (.ref p.2) "__get__"]) ++ (mths.map fun p => findIn K (.ref 137) p.1) ++ (nmsOf.map fun p => nsIn K mainGlobals p.1)
noncomputable def goodC : List (Option (Option Value)) := [some (some (.builtin "object.__setattr__")), some (some (.builtin "object.__setattr__")), some (some (.ref 36))] ++ (attNames.flatMap fun _ => [some none, some none])
  ++ (slts.flatMap fun p => [some (some (.ref p.2)), some (some (.ref p.2)), some (some (.builtin "member_descriptor.__get__"))]) ++ (mths.map fun p => some (some (.ref p.2))) ++ (nmsOf.map fun p => some (some (.ref p.2)))
noncomputable def obsD (K : Frag) : List (Option Bool × Option Nat × Option Value) := slts.map fun p => (takesIn K (.ref p.2), slotIn K p.2 40, typeIn K (.ref p.2))
noncomputable def goodD : List (Option Bool × Option Nat × Option Value) := (slts.zipIdx).map fun p => (some true, some p.2, some (.type "member_descriptor"))
noncomputable def obsK (K : Frag) := ((fns.map fun p => fnView K p.1, fnView K 73), obsB K, (obsC K, obsD K), exmOne K (.ref 55) (.ref 55))
noncomputable def goodK : (List (Option FView) × Option FView) × Bool × (List (Option (Option Value)) × List (Option Bool × Option Nat × Option Value)) × Option Bool :=
  ((fns.map fun p => some (goodV p.2 .none), some (goodV (methAt 6 0) (.ref 66))), true, (goodC, goodD), some true)
noncomputable def myHook : Hook := ⟨_, fun s => obsK (kOf s.heap), fun _ => goodK, fun _ h => ∃ K : Frag, K.In h ∧ obsK K = goodK, fun _ s e => ⟨_, kOf_in _, e⟩, fun _ _ _ ⟨K, h1, h2⟩ k => ⟨K, Frag.In.keeps h1 k, h2⟩⟩
end Mine

open PySem PySem.W PyProof.Rows PySem.Calls PySem.Spec
set_option Elab.async false
namespace Mine
set_option maxRecDepth 100000
set_option maxHeartbeats 4000000
theorem fnAt_of {G : Gl} (X : G.K.In G.h₀) {fa : Addr} {F : FnS} {st : Stmt} {d : Value} (e : fnView G.K fa = some (goodV st d)) (hs : F.scope = fscope st) (hb : F.body = fbody st) :
    ∃ fd, FnAt G F fa fd ∧ fd.params = fargs st ∧ fd.defaults = d ∧ fd.kwdefaults = .none := by
  unfold fnView at e
  split at e
  · rename_i fd sl ho
    split at e
    · rename_i hc
      obtain ⟨h1, h2, h3, h4, h5, h6, h7, h8⟩ := FView.mk.inj (Option.some.inj e)
      exact ⟨fd, ⟨⟨_, ho, rfl⟩, h1.trans hs.symm, h2.trans (by rw [hb]), h4, h5, h6, codeRec_of X hc⟩, h3, h7, h8⟩
    · cases e
  · cases e
noncomputable def BindOk (a : Arguments) (pars : List Str) : Prop := ∀ fd : FuncData, fd.params = a → fd.defaults = .none → fd.kwdefaults = .none → ∀ vs : List Value, vs.length = pars.length → bindArgs fd ⟨vs, []⟩ = pure (pars.zip vs)
theorem bind0 {a : Arguments} (h : ∀ n q b s g c d p an cd ct bu, bindArgs ⟨n, q, a, b, s, g, c, .none, .none, d, p, an, cd, ct, bu⟩ ⟨[], []⟩ = pure []) : BindOk a [] := by
  intro fd h1 h2 h3 vs hl
  obtain ⟨n, q, p, b, s, g, c, dd, k, d, p', an, cd, ct, bu⟩ := fd
  cases h1; cases h2; cases h3
  cases vs with
  | nil => exact h _ _ _ _ _ _ _ _ _ _ _ _
  | cons => cases hl
theorem bind1 {a : Arguments} {x : Str} (h : ∀ n q b s g c d p an cd ct bu v, bindArgs ⟨n, q, a, b, s, g, c, .none, .none, d, p, an, cd, ct, bu⟩ ⟨[v], []⟩ = pure [(x, v)]) : BindOk a [x] := by
  intro fd h1 h2 h3 vs hl
  obtain ⟨n, q, p, b, s, g, c, dd, k, d, p', an, cd, ct, bu⟩ := fd
  cases h1; cases h2; cases h3
  match vs, hl with
  | [v], _ => exact h _ _ _ _ _ _ _ _ _ _ _ _ _
theorem bind2 {a : Arguments} {x y : Str} (h : ∀ n q b s g c d p an cd ct bu v u, bindArgs ⟨n, q, a, b, s, g, c, .none, .none, d, p, an, cd, ct, bu⟩ ⟨[v, u], []⟩ = pure [(x, v), (y, u)]) : BindOk a [x, y] := by
  intro fd h1 h2 h3 vs hl
  obtain ⟨n, q, p, b, s, g, c, dd, k, d, p', an, cd, ct, bu⟩ := fd
  cases h1; cases h2; cases h3
  match vs, hl with
  | [v, u], _ => exact h _ _ _ _ _ _ _ _ _ _ _ _ _ _
theorem ok_loc {F : FnS} (h : (F.pars.all fun x => F.scope.names.lookup x == some .local) = true) : ∀ x ∈ F.pars, F.scope.names.lookup x = some .local := fun x hx => beq_iff_eq.mp (List.all_eq_true.mp h x hx)
noncomputable def celOf : Nat → List (Str × NameKind) → List (Str × Nat) → List (Str × Nat)
  | _, [], acc => acc
  | n, (name, kind) :: r, acc => if kind == .cell then celOf (n + 1) r ((name, n) :: acc) else celOf n r acc
theorem cel_eq (L : Nat) : ∀ (l : List (Str × NameKind)) (n : Nat) (acc : List (Str × Nat)), cellsFrom (L + n) l (acc.map fun p => (p.1, L + p.2)) = (celOf n l acc).map fun p => (p.1, L + p.2)
  | [], _, _ => rfl
  | (name, kind) :: r, n, acc => by
    unfold cellsFrom celOf
    split
    · exact cel_eq L r (n + 1) ((name, n) :: acc)
    · exact cel_eq L r n acc
theorem lookup_map (L : Nat) (x : Str) : ∀ l : List (Str × Nat), (l.map fun p => (p.1, L + p.2)).lookup x = (l.lookup x).map (L + ·)
  | [] => rfl
  | (y, n) :: l => by
    rw [List.map_cons, List.lookup_cons, List.lookup_cons, lookup_map L x l]
    cases x == y <;> rfl
theorem ok_cel {F : FnS} (h : (F.rest.all fun p => p.2.all fun k => (celOf 1 F.scope.names []).lookup p.1 == some (1 + k)) = true) : ∀ p ∈ F.rest, ∀ k, p.2 = some k → ∀ L, (cellsFrom (L + 1) F.scope.names []).lookup p.1 = some (L + 1 + k) := by
  intro p hp k hk L
  have h1 := List.all_eq_true.mp h p hp
  rw [hk] at h1
  have h2 := beq_iff_eq.mp h1
  have := cel_eq L F.scope.names 1 []
  rw [List.map_nil] at this
  rw [this, lookup_map, h2, Option.map_some, Nat.add_assoc]
noncomputable def freeName (q : Program) (loose : List Str) (x : Str) : Bool := !startupNames.contains x && !loose.contains x && !((recsOf q).map (·.name)).contains x && !((litsOf q).map (·.1)).contains x && !((clssOf q loose).map (·.name)).contains x && (x != "__name__") && !(x == ("__debug__" : Str))
section
variable {K : Frag} {h : Heap} {mg : Str → Option Value} {x : Str}
theorem dInt {i : Int} (X : K.In h) (g : h.Ns mainGlobals mg) (e : isInt i (nsIn K mainGlobals x) = true) : ∃ v, mg x = some v ∧ RD [] v (.int i) := by
  unfold isInt at e
  split at e
  · rename_i j t q
    obtain rfl := beq_iff_eq.mp e
    exact ⟨_, mg_of X g q, .int _ _⟩
  · cases e
theorem dStr {y : Str} (X : K.In h) (g : h.Ns mainGlobals mg) (e : isStr y (nsIn K mainGlobals x) = true) : ∃ v, mg x = some v ∧ RD [] v (.str y) := by
  unfold isStr at e
  split at e
  · rename_i j t q
    obtain rfl := beq_iff_eq.mp e
    exact ⟨_, mg_of X g q, .str _ _⟩
  · cases e
theorem bindT {prog : Program} {w : World} {fd : FuncData} {A : Around} {s : Shared} {Q : List (Str × Value) → Shared → Prop} {E : Value → Shared → Prop}
    (b : isTupNone (K.lookup 66) = true) (h1 : fd.params = fargs (methAt 6 0)) (h2 : fd.defaults = .ref 66) (h3 : fd.kwdefaults = .none) (X : K.In s.heap) {vs : List Value} (hl : vs.length = 1)
    (hQ : Q (F_TopologicalSorter_init.pars.zip (vs ++ [.none])) s) : wpAny (model prog w) A (bindArgs fd ⟨vs, []⟩) Q E s := by
  obtain ⟨n, q, p, b', s', g, c, dd, k, d, p', an, cd, ct, bu⟩ := fd
  cases h1; cases h2; cases h3
  unfold isTupNone at b
  split at b
  · rename_i ho
    match vs, hl with
    | [v], _ =>
      show wpAny _ _ (seqItems? (.ref 66) >>= _) _ _ s
      refine wpAny_bind (wpAny_seqItems (X _ _ ho) rfl ?_)
      have hQ : Q ([("self", v), ("graph", .none)] : List (Str × Value)) s := hQ
      exact wpAny_of_eq (a := ([("self", v), ("graph", .none)] : List (Str × Value))) (by kernel_rfl) hQ
  · cases b
end
theorem bo_kind : BindOk (fargs (stmtAt 9)) ["name", "x"] := bind2 (by intros; kernel_rfl)
theorem bo_fspath : BindOk (fargs (stmtAt 10)) ["name", "x"] := bind2 (by intros; kernel_rfl)
theorem bo_split : BindOk (fargs (stmtAt 11)) ["p"] := bind1 (by intros; kernel_rfl)
theorem bo_ancestry : BindOk (fargs (stmtAt 13)) ["path"] := bind1 (by intros; kernel_rfl)
theorem bo_law_folders : BindOk (fargs (stmtAt 15)) [] := bind0 (by intros; kernel_rfl)
theorem bo_law_text : BindOk (fargs (stmtAt 16)) ["way"] := bind1 (by intros; kernel_rfl)
theorem bo_law_moves : BindOk (fargs (stmtAt 17)) ["script"] := bind1 (by intros; kernel_rfl)
theorem bo_law_one_by_one : BindOk (fargs (stmtAt 18)) ["files", "moves"] := bind2 (by intros; kernel_rfl)
theorem bo_law_at_once : BindOk (fargs (stmtAt 19)) ["files", "moves"] := bind2 (by intros; kernel_rfl)
theorem bo_law_orders : BindOk (fargs (stmtAt 20)) ["count"] := bind1 (by intros; kernel_rfl)
theorem bo_law_sorter : BindOk (fargs (stmtAt 21)) ["count", "waits"] := bind2 (by intros; kernel_rfl)
theorem bo_law_refused : BindOk (fargs (stmtAt 22)) ["sorter"] := bind1 (by intros; kernel_rfl)
theorem bo_law_taken : BindOk (fargs (stmtAt 23)) ["sorter", "order"] := bind2 (by intros; kernel_rfl)
theorem bo_law : BindOk (fargs (stmtAt 24)) ["script"] := bind1 (by intros; kernel_rfl)
theorem bo_TopologicalSorterget_nodeinfo : BindOk (fargs (methAt 6 1)) ["self", "node"] := bind2 (by intros; kernel_rfl)
theorem bo_TopologicalSorter_prepare : BindOk (fargs (methAt 6 3)) ["self"] := bind1 (by intros; kernel_rfl)
theorem bo_TopologicalSorter_get_ready : BindOk (fargs (methAt 6 4)) ["self"] := bind1 (by intros; kernel_rfl)
theorem bo_TopologicalSorterfind_cycle : BindOk (fargs (methAt 6 8)) ["self"] := bind1 (by intros; kernel_rfl)
theorem bo_NodeInfo_init : BindOk (fargs (methAt 4 1)) ["self", "node"] := bind2 (by intros; kernel_rfl)
theorem bv_TopologicalSorter_add {fd : FuncData} (h1 : fd.params = fargs (methAt 6 2)) (h2 : fd.defaults = .none) (h3 : fd.kwdefaults = .none) (vs : List Value) (hl : 2 ≤ vs.length) :
    bindArgs fd ⟨vs, []⟩ = (newTuple (vs.drop 2) >>= fun t => pure (F_TopologicalSorter_add.pars.zip (vs.take 2 ++ [t]))) := by
  obtain ⟨n, q, p, b, s, g, c, dd, k, d, p', an, cd, ct, bu⟩ := fd
  cases h1; cases h2; cases h3
  match vs, hl with
  | [u, v], _ => kernel_rfl
  | u :: v :: x :: r, _ => kernel_rfl
theorem bv_TopologicalSorter_done {fd : FuncData} (h1 : fd.params = fargs (methAt 6 7)) (h2 : fd.defaults = .none) (h3 : fd.kwdefaults = .none) (vs : List Value) (hl : 1 ≤ vs.length) :
    bindArgs fd ⟨vs, []⟩ = (newTuple (vs.drop 1) >>= fun t => pure (F_TopologicalSorter_done.pars.zip (vs.take 1 ++ [t]))) := by
  obtain ⟨n, q, p, b, s, g, c, dd, k, d, p', an, cd, ct, bu⟩ := fd
  cases h1; cases h2; cases h3
  match vs, hl with
  | [v], _ => kernel_rfl
  | v :: x :: r, _ => kernel_rfl
theorem ok_kind : F_kind.Ok := ⟨rfl, rfl, rfl, ok_loc (by decide +kernel), ok_cel (by decide +kernel), by decide +kernel, by decide +kernel⟩
theorem ok_fspath : F_fspath.Ok := ⟨rfl, rfl, rfl, ok_loc (by decide +kernel), ok_cel (by decide +kernel), by decide +kernel, by decide +kernel⟩
theorem ok_split : F_split.Ok := ⟨rfl, rfl, rfl, ok_loc (by decide +kernel), ok_cel (by decide +kernel), by decide +kernel, by decide +kernel⟩
theorem ok_law_folders : F_law_folders.Ok := ⟨rfl, rfl, rfl, ok_loc (by decide +kernel), ok_cel (by decide +kernel), by decide +kernel, by decide +kernel⟩
theorem ok_law_text : F_law_text.Ok := ⟨rfl, rfl, rfl, ok_loc (by decide +kernel), ok_cel (by decide +kernel), by decide +kernel, by decide +kernel⟩
theorem ok_law_moves : F_law_moves.Ok := ⟨rfl, rfl, rfl, ok_loc (by decide +kernel), ok_cel (by decide +kernel), by decide +kernel, by decide +kernel⟩
theorem ok_law_one_by_one : F_law_one_by_one.Ok := ⟨rfl, rfl, rfl, ok_loc (by decide +kernel), ok_cel (by decide +kernel), by decide +kernel, by decide +kernel⟩
theorem ok_law_at_once : F_law_at_once.Ok := ⟨rfl, rfl, rfl, ok_loc (by decide +kernel), ok_cel (by decide +kernel), by decide +kernel, by decide +kernel⟩
theorem ok_law_orders : F_law_orders.Ok := ⟨rfl, rfl, rfl, ok_loc (by decide +kernel), ok_cel (by decide +kernel), by decide +kernel, by decide +kernel⟩
theorem ok_law_sorter : F_law_sorter.Ok := ⟨rfl, rfl, rfl, ok_loc (by decide +kernel), ok_cel (by decide +kernel), by decide +kernel, by decide +kernel⟩
theorem ok_law_refused : F_law_refused.Ok := ⟨rfl, rfl, rfl, ok_loc (by decide +kernel), ok_cel (by decide +kernel), by decide +kernel, by decide +kernel⟩
theorem ok_law_taken : F_law_taken.Ok := ⟨rfl, rfl, rfl, ok_loc (by decide +kernel), ok_cel (by decide +kernel), by decide +kernel, by decide +kernel⟩
theorem ok_law : F_law.Ok := ⟨rfl, rfl, rfl, ok_loc (by decide +kernel), ok_cel (by decide +kernel), by decide +kernel, by decide +kernel⟩
theorem ok_TopologicalSorterget_nodeinfo : F_TopologicalSorterget_nodeinfo.Ok := ⟨rfl, rfl, rfl, ok_loc (by decide +kernel), ok_cel (by decide +kernel), by decide +kernel, by decide +kernel⟩
theorem ok_TopologicalSorter_prepare : F_TopologicalSorter_prepare.Ok := ⟨rfl, rfl, rfl, ok_loc (by decide +kernel), ok_cel (by decide +kernel), by decide +kernel, by decide +kernel⟩
theorem ok_TopologicalSorter_get_ready : F_TopologicalSorter_get_ready.Ok := ⟨rfl, rfl, rfl, ok_loc (by decide +kernel), ok_cel (by decide +kernel), by decide +kernel, by decide +kernel⟩
theorem ok_TopologicalSorterfind_cycle : F_TopologicalSorterfind_cycle.Ok := ⟨rfl, rfl, rfl, ok_loc (by decide +kernel), ok_cel (by decide +kernel), by decide +kernel, by decide +kernel⟩
theorem ok_TopologicalSorter_add : F_TopologicalSorter_add.Ok := ⟨rfl, rfl, rfl, ok_loc (by decide +kernel), ok_cel (by decide +kernel), by decide +kernel, by decide +kernel⟩
theorem ok_TopologicalSorter_done : F_TopologicalSorter_done.Ok := ⟨rfl, rfl, rfl, ok_loc (by decide +kernel), ok_cel (by decide +kernel), by decide +kernel, by decide +kernel⟩
theorem ok_NodeInfo_init : F_NodeInfo_init.Ok := ⟨rfl, rfl, rfl, ok_loc (by decide +kernel), ok_cel (by decide +kernel), by decide +kernel, by decide +kernel⟩
theorem ok_TopologicalSorter_init : F_TopologicalSorter_init.Ok := ⟨rfl, rfl, rfl, ok_loc (by decide +kernel), ok_cel (by decide +kernel), by decide +kernel, by decide +kernel⟩
theorem bi_iter : bootBuiltins "iter" = some (.builtin "iter") := by kernel_rfl
theorem bi_len : bootBuiltins "len" = some (.builtin "len") := by kernel_rfl
theorem bi_sum : bootBuiltins "sum" = some (.builtin "sum") := by kernel_rfl
theorem bi_ValueError : bootBuiltins "ValueError" = some (.type "ValueError") := by kernel_rfl
theorem bi_StopIteration : bootBuiltins "StopIteration" = some (.type "StopIteration") := by kernel_rfl
theorem bi_list : bootBuiltins "list" = some (.type "list") := by kernel_rfl
theorem bi_range : bootBuiltins "range" = some (.type "range") := by kernel_rfl
theorem bi_set : bootBuiltins "set" = some (.type "set") := by kernel_rfl
theorem bi_str : bootBuiltins "str" = some (.type "str") := by kernel_rfl
theorem bi_tuple : bootBuiltins "tuple" = some (.type "tuple") := by kernel_rfl
theorem bi_type : bootBuiltins "type" = some (.type "type") := by kernel_rfl
section
variable {G : Gl} {q : Program} {loose : List Str} {mean : ExcName → Option Value}
theorem biName (T : Top q loose mean G.mg G.mb G.h₀) {x : Str} {f : Value} (hb : bootBuiltins x = some f) (h : freeName q loose x = true) : BiName G x f := by
  unfold freeName at h
  simp only [Bool.and_eq_true, Bool.not_eq_true', bne_iff_ne, ne_eq, List.contains_eq_mem, decide_eq_false_iff_not] at h
  obtain ⟨⟨⟨⟨⟨⟨h1, h2⟩, h3⟩, h4⟩, h5⟩, h6⟩, h7⟩ := h
  exact ⟨T.free _ h1 h2 h3 h4 h5, hb, h6, h7⟩
theorem fnName (X : G.K.In G.h₀) (g : G.h₀.Ns mainGlobals G.mg) {x : Str} {fa : Addr} {st : Stmt} {F : FnS} (en : nsIn G.K mainGlobals x = some (some (.ref fa))) (ev : fnView G.K fa = some (goodV st .none)) (hs : F.scope = fscope st) (hb : F.body = fbody st)
    (kp : keepIn G.K (.ref fa) = true) (bo : BindOk (fargs st) F.pars) (nd : (x == ("__debug__" : Str)) = false) (ok : F.Ok) : FnName G x F := by
  obtain ⟨fd, h1, h2, h3, h4⟩ := fnAt_of X ev hs hb
  exact ⟨⟨fa, fd, mg_of X g en, h1, kp, bo fd h2 h3 h4⟩, nd, ok⟩
theorem topM (X : G.K.In G.h₀) {x : Str} {fa : Addr} {st : Stmt} {F : FnS} (ef : findIn G.K (.ref cTop) x = some (some (.ref fa))) (ev : fnView G.K fa = some (goodV st .none)) (hs : F.scope = fscope st) (hb : F.body = fbody st)
    (kp : (keepIn G.K (.ref fa) && isFn G.K (.ref fa)) = true) (nn : attNames.contains x = false) (ok : F.Ok) : ∃ fa fd, TopM G x F fa fd ∧ fd.params = fargs st ∧ fd.defaults = .none ∧ fd.kwdefaults = .none := by
  obtain ⟨fd, h1, h2, h3, h4⟩ := fnAt_of X ev hs hb
  have kp := Bool.and_eq_true_iff.mp kp
  exact ⟨fa, fd, ⟨ef, kp.2, kp.1, h1, by simpa using nn, ok⟩, h2, h3, h4⟩
theorem nms_of (X : G.K.In G.h₀) (T : Top q loose mean G.mg G.mb G.h₀) (hf : (["ValueError", "StopIteration", "iter", "len", "list", "range", "set", "str", "sum", "tuple", "type"] : List Str).all (freeName q loose) = true) (e : obsK G.K = goodK) : Nms G := by
  have e1 : fns.map (fun p => fnView G.K p.1) = fns.map fun p => some (goodV p.2 .none) := congrArg (fun x => x.1.1) e
  have e2 : fnView G.K 73 = some (goodV (methAt 6 0) (.ref 66)) := congrArg (fun x => x.1.2) e
  have e3 : obsB G.K = true := congrArg (fun x => x.2.1) e
  have e4 : obsC G.K = goodC := congrArg (fun x => x.2.2.1.1) e
  have e5 : obsD G.K = goodD := congrArg (fun x => x.2.2.1.2) e
  have e6 : exmOne G.K (.ref 55) (.ref 55) = some true := congrArg (fun x => x.2.2.2) e
  have v := List.map_inj_left.mp e1
  have c : ∀ (i : Nat) {a b : Option (Option Value)}, (obsC G.K)[i]? = some a → goodC[i]? = some b → a = b := fun i a b h1 h2 => by rw [e4, h2] at h1; exact (Option.some.inj h1).symm
  have dd : ∀ (i : Nat) {a b : Option Bool × Option Nat × Option Value}, (obsD G.K)[i]? = some a → goodD[i]? = some b → a = b := fun i a b h1 h2 => by rw [e5, h2] at h1; exact (Option.some.inj h1).symm
  have hf := List.all_eq_true.mp hf
  unfold obsB at e3
  simp only [Bool.and_eq_true] at e3
  obtain ⟨b1, b2, b3, b4, b5, b6, b7, b8, b9, b10, b11, b12, b13, b14, b15, b16, b17⟩ := e3
  have b12 := List.all_eq_true.mp b12
  have kp : ∀ (i : Nat) {fa : Addr} {st : Stmt}, fns[i]? = some (fa, st) → (keepIn G.K (.ref fa) && isFn G.K (.ref fa)) = true := fun i fa st h => b12 _ (List.mem_of_getElem? h)
  have kk : ∀ (i : Nat) {fa : Addr} {st : Stmt}, fns[i]? = some (fa, st) → keepIn G.K (.ref fa) = true := fun i fa st h => (Bool.and_eq_true_iff.mp (kp i h)).1
  have vv : ∀ (i : Nat) {fa : Addr} {st : Stmt}, fns[i]? = some (fa, st) → fnView G.K fa = some (goodV st .none) := fun i fa st h => v _ (List.mem_of_getElem? h)
  exact {
    b_ValueError := biName T bi_ValueError (hf _ (List.mem_of_getElem? (i := 0) rfl))
    b_StopIteration := biName T bi_StopIteration (hf _ (List.mem_of_getElem? (i := 1) rfl))
    b_iter := biName T bi_iter (hf _ (List.mem_of_getElem? (i := 2) rfl))
    b_len := biName T bi_len (hf _ (List.mem_of_getElem? (i := 3) rfl))
    b_list := biName T bi_list (hf _ (List.mem_of_getElem? (i := 4) rfl))
    b_range := biName T bi_range (hf _ (List.mem_of_getElem? (i := 5) rfl))
    b_set := biName T bi_set (hf _ (List.mem_of_getElem? (i := 6) rfl))
    b_str := biName T bi_str (hf _ (List.mem_of_getElem? (i := 7) rfl))
    b_sum := biName T bi_sum (hf _ (List.mem_of_getElem? (i := 8) rfl))
    b_tuple := biName T bi_tuple (hf _ (List.mem_of_getElem? (i := 9) rfl))
    b_type := biName T bi_type (hf _ (List.mem_of_getElem? (i := 10) rfl))
    f_kind := fnName X T.g (c 30 rfl rfl) (vv 7 rfl) rfl rfl (kk 7 rfl) bo_kind rfl ok_kind
    f_fspath := fnName X T.g (c 31 rfl rfl) (vv 8 rfl) rfl rfl (kk 8 rfl) bo_fspath rfl ok_fspath
    f_split := fnName X T.g (c 32 rfl rfl) (vv 9 rfl) rfl rfl (kk 9 rfl) bo_split rfl ok_split
    f_law_folders := fnName X T.g (c 34 rfl rfl) (vv 11 rfl) rfl rfl (kk 11 rfl) bo_law_folders rfl ok_law_folders
    f_law_text := fnName X T.g (c 35 rfl rfl) (vv 12 rfl) rfl rfl (kk 12 rfl) bo_law_text rfl ok_law_text
    f_law_moves := fnName X T.g (c 36 rfl rfl) (vv 13 rfl) rfl rfl (kk 13 rfl) bo_law_moves rfl ok_law_moves
    f_law_one_by_one := fnName X T.g (c 37 rfl rfl) (vv 14 rfl) rfl rfl (kk 14 rfl) bo_law_one_by_one rfl ok_law_one_by_one
    f_law_at_once := fnName X T.g (c 38 rfl rfl) (vv 15 rfl) rfl rfl (kk 15 rfl) bo_law_at_once rfl ok_law_at_once
    f_law_orders := fnName X T.g (c 39 rfl rfl) (vv 16 rfl) rfl rfl (kk 16 rfl) bo_law_orders rfl ok_law_orders
    f_law_sorter := fnName X T.g (c 40 rfl rfl) (vv 17 rfl) rfl rfl (kk 17 rfl) bo_law_sorter rfl ok_law_sorter
    f_law_refused := fnName X T.g (c 41 rfl rfl) (vv 18 rfl) rfl rfl (kk 18 rfl) bo_law_refused rfl ok_law_refused
    f_law_taken := fnName X T.g (c 42 rfl rfl) (vv 19 rfl) rfl rfl (kk 19 rfl) bo_law_taken rfl ok_law_taken
    d_NODE_OUT := dInt X T.g b14
    d_NODE_DONE := dInt X T.g b15
    dsep := dStr X T.g b16
    cyc := ⟨own_of_in X (topRead_of T) (c 27 rfl rfl) b11, rfl, e6⟩
    g_ancestry := by
      obtain ⟨fd, h1, h2, h3, h4⟩ := fnAt_of X (F := F_ancestry) (vv 10 rfl) rfl rfl
      exact ⟨⟨169, fd, mg_of X T.g (c 33 rfl rfl), h1, kk 10 rfl, bo_ancestry fd h2 h3 h4⟩, rfl, rfl, rfl, rfl, ok_loc (by decide +kernel), by decide +kernel⟩
    top := ⟨c 0 rfl rfl, b1, b2, b3, fun name hn => by
      obtain ⟨i, hi⟩ := List.mem_iff_getElem?.mp hn
      match i, hi with
      | 0, hi => cases hi; exact ⟨c 3 rfl rfl, c 4 rfl rfl⟩
      | 1, hi => cases hi; exact ⟨c 5 rfl rfl, c 6 rfl rfl⟩
      | 2, hi => cases hi; exact ⟨c 7 rfl rfl, c 8 rfl rfl⟩
      | 3, hi => cases hi; exact ⟨c 9 rfl rfl, c 10 rfl rfl⟩⟩
    info := ⟨c 1 rfl rfl, b4, b5, b6, fun i name hi => by
      match i, hi with
      | 0, hi => cases hi; have d := dd 0 (a := (takesIn G.K (.ref 41), slotIn G.K 41 40, typeIn G.K (.ref 41))) rfl rfl; injection d with d1 d2; injection d2 with d2 d3; exact ⟨41, c 11 rfl rfl, c 13 rfl rfl, d1, d2, c 12 rfl rfl, d3⟩
      | 1, hi => cases hi; have d := dd 1 (a := (takesIn G.K (.ref 42), slotIn G.K 42 40, typeIn G.K (.ref 42))) rfl rfl; injection d with d1 d2; injection d2 with d2 d3; exact ⟨42, c 14 rfl rfl, c 16 rfl rfl, d1, d2, c 15 rfl rfl, d3⟩
      | 2, hi => cases hi; have d := dd 2 (a := (takesIn G.K (.ref 43), slotIn G.K 43 40, typeIn G.K (.ref 43))) rfl rfl; injection d with d1 d2; injection d2 with d2 d3; exact ⟨43, c 17 rfl rfl, c 19 rfl rfl, d1, d2, c 18 rfl rfl, d3⟩⟩
    mkI := by
      obtain ⟨fd, h1, h2, h3, h4⟩ := fnAt_of X (F := F_NodeInfo_init) (vv 0 rfl) rfl rfl
      exact ⟨36, fd, mg_of X T.g (c 28 rfl rfl), rfl, b9, b7, c 2 rfl rfl, beq_iff_eq.mp (Bool.and_eq_true_iff.mp (kp 0 rfl)).2, h1, ok_NodeInfo_init, fun vs hl A s Q E _ hQ => by
        rw [bo_NodeInfo_init fd h2 h3 h4 vs hl]; rw [List.append_nil] at hQ; exact wpAny_pure hQ⟩
    mkT := by
      obtain ⟨fd, h1, h2, h3, h4⟩ := fnAt_of X (F := F_TopologicalSorter_init) e2 rfl rfl
      exact ⟨73, fd, mg_of X T.g (c 29 rfl rfl), rfl, b10, b8, c 20 rfl rfl, beq_iff_eq.mp b13, h1, ok_TopologicalSorter_init, fun vs hl A s Q E X' hQ => bindT b17 h2 h3 h4 X' hl hQ⟩
    t_TopologicalSorterget_nodeinfo := by
      obtain ⟨fa, fd, h1, h2, h3, h4⟩ := topM X (F := F_TopologicalSorterget_nodeinfo) (c 21 rfl rfl) (vv 1 rfl) rfl rfl (kp 1 rfl) (by decide +kernel) ok_TopologicalSorterget_nodeinfo
      exact ⟨fa, fd, h1, bo_TopologicalSorterget_nodeinfo fd h2 h3 h4⟩
    t_TopologicalSorter_prepare := by
      obtain ⟨fa, fd, h1, h2, h3, h4⟩ := topM X (F := F_TopologicalSorter_prepare) (c 23 rfl rfl) (vv 3 rfl) rfl rfl (kp 3 rfl) (by decide +kernel) ok_TopologicalSorter_prepare
      exact ⟨fa, fd, h1, bo_TopologicalSorter_prepare fd h2 h3 h4⟩
    t_TopologicalSorter_get_ready := by
      obtain ⟨fa, fd, h1, h2, h3, h4⟩ := topM X (F := F_TopologicalSorter_get_ready) (c 24 rfl rfl) (vv 4 rfl) rfl rfl (kp 4 rfl) (by decide +kernel) ok_TopologicalSorter_get_ready
      exact ⟨fa, fd, h1, bo_TopologicalSorter_get_ready fd h2 h3 h4⟩
    t_TopologicalSorterfind_cycle := by
      obtain ⟨fa, fd, h1, h2, h3, h4⟩ := topM X (F := F_TopologicalSorterfind_cycle) (c 26 rfl rfl) (vv 6 rfl) rfl rfl (kp 6 rfl) (by decide +kernel) ok_TopologicalSorterfind_cycle
      exact ⟨fa, fd, h1, bo_TopologicalSorterfind_cycle fd h2 h3 h4⟩
    t_TopologicalSorter_add := by
      obtain ⟨fa, fd, h1, h2, h3, h4⟩ := topM X (F := F_TopologicalSorter_add) (c 22 rfl rfl) (vv 2 rfl) rfl rfl (kp 2 rfl) (by decide +kernel) ok_TopologicalSorter_add
      exact ⟨fa, fd, h1, bv_TopologicalSorter_add h2 h3 h4⟩
    t_TopologicalSorter_done := by
      obtain ⟨fa, fd, h1, h2, h3, h4⟩ := topM X (F := F_TopologicalSorter_done) (c 25 rfl rfl) (vv 5 rfl) rfl rfl (kp 5 rfl) (by decide +kernel) ok_TopologicalSorter_done
      exact ⟨fa, fd, h1, bv_TopologicalSorter_done h2 h3 h4⟩
  }
end
end Mine

open PySem PySem.W PyProof.Rows PySem.Calls PySem.Spec
set_option Elab.async false
namespace Mine
set_option maxRecDepth 100000
set_option maxHeartbeats 4000000
/-- where the call begins -/
noncomputable def st0 (D : Addr) : St := ⟨some (.ext D) :: restLoc F_law.rest 0, [.cell none]⟩
noncomputable def lawAct (L : Addr) (q : Str) (f : Option Addr) (c : Value) : Act := actOf F_law L q f c [newEnv F_law.scope L mainGlobals (cellsFrom (L + 1) F_law.scope.names []) q f c none builtinsNs] (claimMargin + 2) 7 [] 0
section
variable {G : Gl}
theorem Inv.top {s s₂ : Shared} (hh : G.h₀ = s.heap) (hos : G.os = (s.os, s.drawn)) (hg : s.gens = #[]) {D : Addr} {env : Env} {q : Str} {f : Option Addr} {c : Value} (he : env = newEnv F_law.scope s.heap.objs.size mainGlobals (cellsFrom (s.heap.objs.size + 1) F_law.scope.names []) q f c none builtinsNs)
    (x : InCallC s env.locals (bindL env.kindOf [("script", .ref D)] fun _ => none) env.cells (bindC env.kindOf [("script", .ref D)] fun _ => none) s₂) :
    G.I (lawAct s.heap.objs.size q f c) [] [] ⟨[s.heap.objs.size + 1], []⟩ s₂ (st0 D) := by
  have hk := x.toInCall.keep
  obtain ⟨h₂, tk, hs₂⟩ := x.toInCall.same
  have hlo : env.locals = s.heap.objs.size := by rw [he]; rfl
  have hce : env.cells = cellsFrom (s.heap.objs.size + 1) F_law.scope.names [] := by rw [he]; rfl
  have hown : ∀ a ∈ (lawAct s.heap.objs.size q f c).own ++ [s.heap.objs.size + 1], a = s.heap.objs.size ∨ a = s.heap.objs.size + 1 := fun a ha => by
    rcases List.mem_append.mp ha with h | h
    · exact .inl (List.mem_singleton.mp h)
    · exact .inr (List.mem_singleton.mp h)
  refine ⟨fun b o e => hk b o (hh ▸ e), ⟨_, hlo ▸ x.toInCall.ns, ?_⟩, .cons ?_ .nil, (fun _ h => nomatch h), (fun _ h => nomatch h), (fun _ h => nomatch h), ?_, fun a ha => ?_, fun a ha => ⟨(fun _ h => nomatch h), (fun _ h => nomatch h), (fun _ h => nomatch h)⟩,
    (fun _ h => nomatch h), (fun _ h => nomatch h), (fun _ h => nomatch h), (fun _ h => nomatch h), (fun _ h => nomatch h), ?_, ?_⟩
  · intro i y oc hv av hl'
    obtain ⟨k, hi, rfl⟩ := varsAt_get hv
    cases i with
    | zero =>
      cases hi
      cases hl'
      refine ⟨_, rfl, ?_⟩
      rw [he]
      exact bindL_get (i := 0) (by simp) (fun p hp => by rw [List.mem_singleton.mp hp]; exact rfl) rfl
    | succ i =>
      obtain ⟨k', j, rfl, rfl, hj⟩ := restLoc_get (vs := F_law.rest) (n := 0) (i := i) hl' hi
      refine ⟨_, rfl, ?_⟩
      have hks : (F_law.rest.filterMap (·.2)) = [0] := rfl
      rw [hks] at hj
      cases j with
      | zero => cases hj; rfl
      | succ j => cases j <;> cases hj
  · obtain ⟨o, h1, h2⟩ := x.cell "moves" _ (by rw [hce]; exact ok_law.cel ("moves", some 0) (by decide +kernel) 0 rfl s.heap.objs.size)
    exact ⟨o, h1, _, h2, trivial⟩
  · show ([s.heap.objs.size] ++ [s.heap.objs.size + 1]).Nodup
    refine List.nodup_append.mpr ⟨by simp, by simp, fun a ha b hb e => ?_⟩
    rw [List.mem_singleton.mp ha, List.mem_singleton.mp hb] at e
    omega
  · rw [hh]
    rcases hown a ha with h | h <;> rw [h]
    · exact Nat.le_refl _
    · exact Nat.le_succ _
  · subst hs₂
    exact ⟨.of_eq hg, Nat.zero_le _⟩
  · subst hs₂; exact hos.symm
/-- the law's call, from the outside -/
theorem call_law (hG : G.Ok) (hN : Nms G) {D : Addr} {ns : List Int} (hS : ScriptOk G D ns) {s : Shared} (hh : G.h₀ = s.heap) (hos : G.os = (s.os, s.drawn)) (hg : s.gens = #[]) (ev : fnView G.K 227 = some (goodV (stmtAt 24) .none))
    {st' : St} (hm : (m_law D ns).1 (st0 D) = some (.ret (.dat (.bool true)), st')) {R : Result → Shared → Prop} (k : ∀ s', G.h₀.StaysIn s'.heap → (s'.os, s'.drawn) = G.os → AllBare s'.gens → R (.ok (.ret (.bool true))) s') :
    codeAny G.M callerA (.call (.ref 227) ⟨[.ref D], []⟩) R s := by
  obtain ⟨fd, hf, h2, h3, h4⟩ := fnAt_of hG.X (F := F_law) ev rfl rfl
  obtain ⟨o, ho, hd'⟩ := hf.at'
  have hA0 : callerA.depth = 1 + claimMargin := rfl
  have hcm : claimMargin = 300 := rfl
  refine codeAny_call_function (o := o) (fd := fd) (by rw [hA0, hcm]; decide) (hh ▸ hG.X _ _ ho) hd' (by rw [hf.scope]; rfl) (by rw [hf.scope]; rfl) hf.body (hh ▸ hf.code) ?_
  rw [bo_law fd h2 h3 h4 [.ref D] rfl, hf.scope, hf.clo, hf.glo, hf.bui]
  refine wpAny_pure (wpAny_newFunctionEnv_cells rfl (fun x hx => .inl (ok_law.loc x.1 (by rw [List.mem_singleton.mp hx]; exact .head _))) fun env he s₂ x => ?_)
  have J := Inv.top hh hos hg he x
  refine ⟨(hG.lim.keeps J.base), codeAny_func ?_⟩
  have hC : (lawAct s.heap.objs.size (fd.qualname ++ ".<locals>.") (some 227) fd.code).Ok := ⟨rfl, rfl, rfl, rfl, by
    show ((F_law.varsAt _).map (·.1)).Nodup
    unfold FnS.varsAt
    rw [List.map_map]
    exact ok_law.nd, by show 7 ≤ 5000; decide, by show claimMargin + 2 ≤ 600; rw [hcm]; decide⟩
  have hRb := (m_law D ns).2 G hG hN hS s.heap.objs.size (fd.qualname ++ ".<locals>.") (some 227) fd.code _ (claimMargin + 2) 7 [] 0 (fun _ => ⟨rfl, [], rfl⟩) hC (by rw [hcm]; decide) (by decide)
  subst he
  have hA : AOk (lawAct s.heap.objs.size (fd.qualname ++ ".<locals>.") (some 227) fd.code) true (callerA.deeper (newEnv F_law.scope s.heap.objs.size mainGlobals (cellsFrom (s.heap.objs.size + 1) F_law.scope.names []) (fd.qualname ++ ".<locals>.") (some 227) fd.code none builtinsNs)) :=
    ⟨rfl, by show 1 + claimMargin + 1 ≤ claimMargin + 2; omega, by show 4 + 3 ≤ 7; decide, fun _ => rfl, fun _ e he => by
      rw [List.mem_singleton.mp he]
      exact ⟨by show ScopeKind.function ≠ .module; decide, _, rfl, .inl rfl⟩⟩
  refine hRb.use0 hA J hm fun fl s' W' k1 k2 k3 => ?_
  cases fl with
  | ret v =>
    have hv : v = .bool true := by
      have : RD W'.frz v (.bool true) := k3
      cases this; rfl
    subst hv
    exact k s' k2.base k2.os k2.gens.1
  | next => exact k3.elim
  | brk => exact k3.elim
  | cont => exact k3.elim
end
end Mine

set_option Elab.async false
namespace Mine
/-! the plain law: moves of folders -/
noncomputable abbrev Word := List Nat
noncomputable abbrev Mv := Word × Word
noncomputable def pre (s w : Word) : Bool := decide (w.take s.length = s)
noncomputable def rel (a b : Word) : Bool := decide (a.take b.length = b.take a.length)
noncomputable def mv (m : Mv) (w : Word) : Word := if pre m.1 w then m.2 ++ w.drop m.1.length else w
noncomputable def seqAll : List Mv → Word → Word
  | [], w => w
  | m :: l, w => seqAll l (mv m w)
noncomputable def once : List Mv → Word → Word
  | [], w => w
  | m :: l, w => if pre m.1 w then m.2 ++ w.drop m.1.length else once l w
noncomputable def NoV (l : List Mv) : Prop := l.Pairwise fun x y => rel x.2 y.1 = false
noncomputable def Anti (l : List Mv) : Prop := l.Pairwise fun x y => rel x.1 y.1 = false
theorem rel_comm (a b : Word) : rel a b = rel b a := by unfold rel; exact decide_eq_decide.mpr eq_comm
theorem pre_rel {s g t : Word} (h : pre s (g ++ t) = true) : rel g s = true := by
  have h := of_decide_eq_true h
  refine decide_eq_true ?_
  have : s.take g.length = ((g ++ t).take s.length).take g.length := by rw [h]
  rw [this, List.take_take, Nat.min_comm, ← List.take_take, List.take_append_of_le_length (Nat.le_refl _), List.take_length]
theorem pre_both {a b w : Word} (h1 : pre a w = true) (h2 : pre b w = true) : rel a b = true := by
  have h1 := of_decide_eq_true h1
  have h2 := of_decide_eq_true h2
  refine decide_eq_true ?_
  rw [← h1, ← h2, List.length_take, List.length_take, List.take_take, List.take_take]
  congr 1
  omega
theorem pre_split {s w : Word} (h : pre s w = true) : w = s ++ w.drop s.length := by
  have h := of_decide_eq_true h
  conv => lhs; rw [← List.take_append_drop s.length w, h]
theorem pre_app (s t : Word) : pre s (s ++ t) = true := decide_eq_true (by simp)
theorem rel_pre {g s : Word} (h : rel g s = true) : pre s (g ++ s.drop g.length) = true := by
  have h := of_decide_eq_true h
  refine decide_eq_true ?_
  by_cases hl : s.length ≤ g.length
  · rw [List.drop_eq_nil_of_le hl, List.append_nil, h, List.take_of_length_le hl]
  · rw [List.take_of_length_le (by omega : g.length ≤ s.length)] at h
    conv => lhs; rw [h, List.length_take, Nat.min_eq_left (by omega), List.take_append_drop]
    rw [List.take_length]
theorem seq_id {l : List Mv} {w : Word} (h : ∀ m ∈ l, pre m.1 w = false) : seqAll l w = w := by
  induction l with
  | nil => rfl
  | cons m l ih =>
    unfold seqAll mv
    rw [h m (.head _), if_neg (by decide)]
    exact ih fun x hx => h x (.tail _ hx)
theorem later {m : Mv} {l : List Mv} (h : ∀ y ∈ l, rel m.2 y.1 = false) (t : Word) : ∀ y ∈ l, pre y.1 (m.2 ++ t) = false := fun y hy => by
  cases q : pre y.1 (m.2 ++ t) with
  | false => rfl
  | true => rw [← h y hy, pre_rel q]
theorem seq_once {l : List Mv} (h : NoV l) (f : Word) : seqAll l f = once l f := by
  induction l with
  | nil => rfl
  | cons m l ih =>
    obtain ⟨h1, h2⟩ := List.pairwise_cons.mp h
    unfold seqAll once mv
    by_cases q : pre m.1 f = true
    · rw [if_pos q, if_pos q]; exact seq_id (later h1 _)
    · rw [if_neg q, if_neg q]; exact ih h2
theorem seq_ne {l : List Mv} (h : NoV l) (hn : ∀ m ∈ l, m.1 ≠ m.2) {w : Word} (hb : ∃ b ∈ l, pre b.1 w = true) : seqAll l w ≠ w := by
  induction l with
  | nil => obtain ⟨b, hb, _⟩ := hb; cases hb
  | cons m l ih =>
    obtain ⟨h1, h2⟩ := List.pairwise_cons.mp h
    unfold seqAll mv
    by_cases q : pre m.1 w = true
    · rw [if_pos q, seq_id (later h1 _)]
      intro e
      have := pre_split q
      rw [← e] at this
      exact hn m (.head _) (by
        have e2 := pre_split q
        have : m.2 ++ w.drop m.1.length = m.1 ++ w.drop m.1.length := e.trans e2
        exact (List.append_cancel_right this).symm)
    · rw [if_neg q]
      refine ih h2 (fun x hx => hn x (.tail _ hx)) ?_
      obtain ⟨b, hb, hp⟩ := hb
      rcases List.mem_cons.mp hb with rfl | hb
      · exact absurd hp q
      · exact ⟨b, hb, hp⟩
noncomputable def okM (m : Mv) : Prop := m.1 ≠ m.2 ∧ (m.1.length ≤ 2 ∧ m.1 ≠ [] ∧ ∀ x ∈ m.1, x < 2) ∧ m.2.length ≤ 2 ∧ m.2 ≠ []
theorem seq_bad {l : List Mv} (ha : Anti l) (ok : ∀ m ∈ l, okM m) (h : ¬ NoV l) : ∃ f, (∃ m ∈ l, ∃ b ∈ l, f = m.1 ++ b.1.drop m.2.length) ∧ seqAll l f ≠ once l f := by
  induction l with
  | nil => exact absurd .nil h
  | cons m l ih =>
    obtain ⟨a1, a2⟩ := List.pairwise_cons.mp ha
    by_cases hl : NoV l
    · have : ∃ b ∈ l, rel m.2 b.1 = true := by
        apply Classical.byContradiction
        intro q
        refine h (List.pairwise_cons.mpr ⟨fun b hb => ?_, hl⟩)
        cases e : rel m.2 b.1 with
        | false => rfl
        | true => exact (q ⟨b, hb, e⟩).elim
      obtain ⟨b, hb, hr⟩ := this
      refine ⟨m.1 ++ b.1.drop m.2.length, ⟨m, .head _, b, .tail _ hb, rfl⟩, ?_⟩
      unfold seqAll once mv
      rw [if_pos (pre_app _ _), if_pos (pre_app _ _), List.drop_left]
      exact seq_ne hl (fun x hx => (ok x (.tail _ hx)).1) ⟨b, hb, rel_pre hr⟩
    · obtain ⟨f, ⟨x, hx, b, hb, hf⟩, hne⟩ := ih a2 (fun x hx => ok x (.tail _ hx)) hl
      refine ⟨f, ⟨x, .tail _ hx, b, .tail _ hb, hf⟩, ?_⟩
      have q : ¬ pre m.1 f = true := fun q => by
        have h1 : pre x.1 f = true := by rw [hf]; exact pre_app _ _
        have := a1 x hx
        rw [pre_both q h1] at this; cases this
      unfold seqAll once mv
      rw [if_neg q, if_neg q]
      exact hne
noncomputable def files : List Word := [[0], [1], [0, 0], [0, 1], [1, 0], [1, 1], [0, 0, 0], [0, 0, 1], [0, 1, 0], [0, 1, 1], [1, 0, 0], [1, 0, 1], [1, 1, 0], [1, 1, 1]]
theorem two {n : Nat} (h : n < 2) : n = 0 ∨ n = 1 := by omega
theorem mem_files {f : Word} (h0 : f ≠ []) (h3 : f.length ≤ 3) (hb : ∀ x ∈ f, x < 2) : f ∈ files := by
  match f, h0, h3, hb with
  | [a], _, _, hb =>
    have a1 := two (hb a (by simp))
    rcases a1 with rfl | rfl <;> decide
  | [a, b], _, _, hb =>
    have a1 := two (hb a (by simp))
    have b1 := two (hb b (by simp))
    rcases a1 with rfl | rfl <;> rcases b1 with rfl | rfl <;> decide
  | [a, b, c], _, _, hb =>
    have a1 := two (hb a (by simp))
    have b1 := two (hb b (by simp))
    have c1 := two (hb c (by simp))
    rcases a1 with rfl | rfl <;> rcases b1 with rfl | rfl <;> rcases c1 with rfl | rfl <;> decide
  | a :: b :: c :: d :: r, _, h3, _ => simp at h3
/-- made one by one, the moves bring every file where it comes at once just if no move brings files into a later one's folder -/
theorem right_iff {l : List Mv} (ha : Anti l) (ok : ∀ m ∈ l, okM m) : (files.map (seqAll l) = files.map (once l)) ↔ NoV l := by
  refine ⟨fun h => Classical.byContradiction fun q => ?_, fun h => List.map_congr_left fun f _ => seq_once h f⟩
  obtain ⟨f, ⟨m, hm, b, hb, hf⟩, hne⟩ := seq_bad ha ok q
  refine hne (List.map_inj_left.mp h f (mem_files ?_ ?_ ?_))
  · rw [hf]; intro e; exact (ok m hm).2.1.2.1 (List.append_eq_nil_iff.mp e).1
  · rw [hf, List.length_append, List.length_drop]
    have h1 := (ok m hm).2.1.1
    have h2 := (ok b hb).2.1.1
    have h3 := List.length_pos_iff.mpr (ok m hm).2.2.2
    omega
  · rw [hf]
    intro x hx
    rcases List.mem_append.mp hx with hx | hx
    · exact (ok m hm).2.1.2.2 x hx
    · exact (ok b hb).2.1.2.2 x (List.mem_of_mem_drop hx)
theorem once_perm {l l' : List Mv} (p : l.Perm l') (ha : Anti l) (w : Word) : once l w = once l' w := by
  induction p with
  | nil => rfl
  | cons m p ih =>
    unfold once
    rw [ih (List.pairwise_cons.mp ha).2]
  | swap x y l =>
    unfold once once
    by_cases qx : pre x.1 w = true <;> by_cases qy : pre y.1 w = true
    · have := (List.pairwise_cons.mp ha).1 x (.head _)
      rw [pre_both qy qx] at this; cases this
    · rw [if_neg qy, if_pos qx, if_pos qx]
    · rw [if_pos qy, if_neg qx, if_pos qy]
    · rw [if_neg qy, if_neg qx, if_neg qx, if_neg qy]
  | trans p1 p2 ih1 ih2 =>
    rw [ih1 ha]
    refine ih2 ?_
    exact (p1.pairwise_iff (fun {x y} h => by rw [rel_comm]; exact h)).mp ha
theorem anti_perm {l l' : List Mv} (p : l.Perm l') (ha : Anti l) : Anti l' := (p.pairwise_iff (fun {x y} h => by rw [rel_comm]; exact h)).mp ha
end Mine

open PySem PySem.W PyProof.Rows PySem.Calls PySem.Spec
set_option Elab.async false
namespace Mine
set_option maxRecDepth 100000
set_option maxHeartbeats 1000000
/-! words as data -/
noncomputable def iD (n : Nat) : PyData := .int (n : Int)
noncomputable def wD (w : Word) : PyData := .tuple (w.map iD)
noncomputable def wA (w : Word) : AV := .dat (wD w)
noncomputable def mD (m : Mv) : PyData := .tuple [wD m.1, wD m.2]
noncomputable def mA (m : Mv) : AV := .dat (mD m)
noncomputable def fD (fs : List Word) : PyData := .list (fs.map wD)
theorem eqvAll_int (a b : Word) : PyData.eqvAll (a.map iD) (b.map iD) = decide (a = b) := by
  induction a generalizing b with
  | nil => cases b <;> simp [PyData.eqvAll]
  | cons x a ih =>
    cases b with
    | nil => simp [PyData.eqvAll]
    | cons y b =>
      have : PyData.eqv (iD x) (iD y) = decide (x = y) := by
        unfold iD
        rw [PyData.eqv]
        exact decide_eq_decide.mpr Int.ofNat_inj
      simp only [List.map_cons, PyData.eqvAll, this, ih, List.cons.injEq, Bool.decide_and]
theorem eqv_wD (a b : Word) : PyData.eqv (wD a) (wD b) = decide (a = b) := by unfold wD; rw [PyData.eqv, eqvAll_int]
theorem eqv_fD (a b : List Word) : PyData.eqv (fD a) (fD b) = decide (a = b) := by
  unfold fD
  rw [PyData.eqv]
  induction a generalizing b with
  | nil => cases b <;> simp [PyData.eqvAll]
  | cons x a ih =>
    cases b with
    | nil => simp [PyData.eqvAll]
    | cons y b => simp only [List.map_cons, PyData.eqvAll, eqv_wD, ih, List.cons.injEq, Bool.decide_and]
theorem lay_ints (w : Word) : PyData.canLayAll0 (w.map iD) = true := by
  induction w with
  | nil => simp [PyData.canLayAll0]
  | cons x w ih => simp [PyData.canLayAll0, iD, PyData.canLay0, ih]
theorem depth_ints (w : Word) : PyData.depthAll (w.map iD) ≤ 1 := by
  induction w with
  | nil => simp [PyData.depthAll]
  | cons x w ih => simp only [List.map_cons, PyData.depthAll, iD, PyData.depth]; omega
theorem lay_wD (w : Word) : (wD w).canLay0 = true := by unfold wD; rw [PyData.canLay0, lay_ints]
theorem depth_wD (w : Word) : (wD w).depth ≤ 2 := by have := depth_ints w; unfold wD; rw [PyData.depth]; omega
theorem okD_wD (w : Word) : okD (wD w) = true := by
  unfold okD
  rw [lay_wD, Bool.true_and]
  exact decide_eq_true (Nat.le_trans (depth_wD w) (by decide))
theorem okD_fD (fs : List Word) : okD (fD fs) = true := by
  unfold okD fD
  have h1 : PyData.canLayAll0 (fs.map wD) = true := by
    induction fs with
    | nil => simp [PyData.canLayAll0]
    | cons x w ih => simp [PyData.canLayAll0, lay_wD, ih]
  have h2 : PyData.depthAll (fs.map wD) ≤ 2 := by
    clear h1
    induction fs with
    | nil => simp [PyData.depthAll]
    | cons x w ih => have := depth_wD x; simp only [List.map_cons, PyData.depthAll]; omega
  rw [PyData.canLay0, h1, Bool.true_and, PyData.depth]
  exact decide_eq_true (by omega)
theorem datsA_map (ds : List PyData) : datsA (ds.map .dat) = some ds := by
  induction ds with
  | nil => rfl
  | cons d ds ih => simp only [List.map_cons, datsA, ih]
theorem eqA_w (neg : Bool) (a b : Word) (st : St) : eqA neg (wA a) (wA b) st = some (.dat (.bool (if neg then !decide (a = b) else decide (a = b))), st) := by
  unfold eqA wA
  simp only [dataOf, okD_wD, Bool.and_self, if_true, eqv_wD]
theorem cutL_take {α : Type} (n : Nat) (l : List α) : cutL none (some (n : Int)) l = l.take n := by
  unfold cutL cutLo cutHi
  simp only [List.drop_zero, Int.toNat_natCast, Nat.sub_zero]
  by_cases h : n ≤ l.length
  · rw [Nat.min_eq_left h]
  · rw [Nat.min_eq_right (by omega), List.take_length, List.take_of_length_le (by omega)]
theorem cutL_drop {α : Type} (n : Nat) (l : List α) : cutL (some (n : Int)) none l = l.drop n := by
  unfold cutL cutLo cutHi
  simp only [Int.toNat_natCast]
  by_cases h : n ≤ l.length
  · rw [Nat.min_eq_left h, List.take_of_length_le (by rw [List.length_drop]; exact Nat.le_refl _)]
  · rw [Nat.min_eq_right (by omega), List.drop_length, List.drop_eq_nil_of_le (by omega)]; simp
theorem getA_take (w : Word) (n : Nat) (st : St) (h : w.length < 1000) : getA (wA w) (.slc none (some (n : Int))) st = some (wA (w.take n), st) := by
  show (if nonneg none && nonneg (some (n : Int)) && decide ((w.map iD).length < 1000) then (some ((AV.dat (.tuple (cutL none (some (n : Int)) (w.map iD)))), st) : Option (AV × St)) else none) = _
  rw [if_pos (by simp [nonneg, h]), cutL_take]
  unfold wA wD
  rw [List.map_take]
theorem getA_drop (w : Word) (n : Nat) (st : St) (h : w.length < 1000) : getA (wA w) (.slc (some (n : Int)) none) st = some (wA (w.drop n), st) := by
  show (if nonneg (some (n : Int)) && nonneg none && decide ((w.map iD).length < 1000) then (some ((AV.dat (.tuple (cutL (some (n : Int)) none (w.map iD)))), st) : Option (AV × St)) else none) = _
  rw [if_pos (by simp [nonneg, h]), cutL_drop]
  unfold wA wD
  rw [List.map_drop]
theorem lenA_w (w : Word) (st : St) (h : w.length < 1000) : lenA [wA w] st = some (.dat (.int (w.length : Nat)), st) := by
  show (if (w.map iD).length < 1000 then (some ((AV.dat (.int ((w.map iD).length : Nat))), st) : Option (AV × St)) else none) = _
  rw [List.length_map, if_pos h]
theorem addA_w (a b : Word) (st : St) (h : a.length + b.length < 1000) : addA (wA a) (wA b) st = some (wA (a ++ b), st) := by
  show (if (a.map iD).length + (b.map iD).length < 1000 then (some ((AV.dat (.tuple (a.map iD ++ b.map iD))), st) : Option (AV × St)) else none) = _
  rw [List.length_map, List.length_map, if_pos h]
  unfold wA wD
  rw [List.map_append]
/-! steps -/
theorem b_of {β γ : Type} {m : AM β} {k : β → AM γ} {st st1 : St} {b : β} (h : m st = some (b, st1)) : AM.bind m k st = k b st1 := by unfold AM.bind; rw [h]
theorem bnd {β γ : Type} {m : AM β} {k : β → AM γ} {st st1 : St} {b : β} {r : Option (γ × St)} (h : m st = some (b, st1)) (h2 : k b st1 = r) : AM.bind m k st = r := (b_of h).trans h2
theorem sq {m1 m2 : AM AF} {st st1 : St} {r : Option (AF × St)} (h : m1 st = some (.next, st1)) (h2 : m2 st1 = r) : seqA m1 m2 st = r := by unfold seqA; rw [h]; exact h2
theorem ls1 {m : AM AV} {st st1 : St} {a : AV} (h : m st = some (a, st1)) : listA [m] st = some ([a], st1) := by
  unfold listA
  exact bnd h (bnd (by unfold listA; rfl) rfl)
theorem ls2 {m n : AM AV} {st st1 st2 : St} {a b : AV} (h : m st = some (a, st1)) (h2 : n st1 = some (b, st2)) : listA [m, n] st = some ([a, b], st2) := by
  unfold listA
  exact bnd h (bnd (ls1 h2) rfl)
/-- a slice up to the length of a word -/
theorem slTake {mw ms : AM AV} {st : St} {w s : Word} (h1 : mw st = some (wA w, st)) (h2 : ms st = some (wA s, st)) (l1 : w.length < 1000) (l2 : s.length < 1000) :
    (mw.bind fun a => ((partA none).bind fun lo => (partA (some ((listA [ms]).bind lenA))).bind fun hi => AM.pure (AV.slc lo hi)).bind fun b => getA a b) st = some (wA (w.take s.length), st) :=
  bnd h1 (bnd (bnd rfl (bnd (bnd (bnd (ls1 h2) (lenA_w s st l2)) rfl) rfl)) (getA_take w s.length st l1))
theorem slDrop {mw ms : AM AV} {st : St} {w s : Word} (h1 : mw st = some (wA w, st)) (h2 : ms st = some (wA s, st)) (l1 : w.length < 1000) (l2 : s.length < 1000) :
    (mw.bind fun a => ((partA (some ((listA [ms]).bind lenA))).bind fun lo => (partA none).bind fun hi => AM.pure (AV.slc lo hi)).bind fun b => getA a b) st = some (wA (w.drop s.length), st) :=
  bnd h1 (bnd (bnd (bnd (bnd (ls1 h2) (lenA_w s st l2)) rfl) (bnd rfl rfl)) (getA_drop w s.length st l1))
/-- way[:len(source)] == source -/
theorem preT {mw ms : AM AV} {st : St} {w s : Word} (h1 : mw st = some (wA w, st)) (h2 : ms st = some (wA s, st)) (l1 : w.length < 1000) (l2 : s.length < 1000) :
    ((mw.bind fun a => ((partA none).bind fun lo => (partA (some ((listA [ms]).bind lenA))).bind fun hi => AM.pure (AV.slc lo hi)).bind fun b => getA a b).bind fun a => ms.bind fun b => (eqA false a b).bind fun x => truthA x) st = some (pre s w, st) :=
  bnd (slTake h1 h2 l1 l2) (bnd h2 (bnd (eqA_w false _ _ st) rfl))
/-- goal + way[len(source):] -/
theorem mvT {mg mw ms : AM AV} {st : St} {g w s : Word} (h0 : mg st = some (wA g, st)) (h1 : mw st = some (wA w, st)) (h2 : ms st = some (wA s, st)) (l1 : w.length < 400) (l2 : s.length < 400) (l3 : g.length < 400) :
    (mg.bind fun a => (mw.bind fun a => ((partA (some ((listA [ms]).bind lenA))).bind fun lo => (partA none).bind fun hi => AM.pure (AV.slc lo hi)).bind fun b => getA a b).bind fun b => addA a b) st = some (wA (g ++ w.drop s.length), st) :=
  bnd h0 (bnd (slDrop h1 h2 (by omega) (by omega)) (addA_w _ _ st (by rw [List.length_drop]; omega)))
theorem gL {i : Nat} {st : St} {a : AV} (h : st.loc[i]? = some (some a)) : getL i st = some (a, st) := by unfold getL; rw [h]
theorem gC {i r : Nat} {st : St} {a : AV} (h : st.loc[i]? = some (some (.ref r))) (h2 : st.heap[r]? = some (.cell (some a))) : getC i st = some (a, st) := by unfold getC; rw [h]; dsimp only; rw [h2]
/-! loops -/
theorem forA_inv {src : St → Option (List AV)} {ta : AV → AM Unit} {mb : AM AF} {xs : List AV} {I : Nat → St → Prop} (hs : ∀ i st, I i st → src st = some xs)
    (step : ∀ i av st, I i st → xs[i]? = some av → ∃ st1 st2, ta av st = some ((), st1) ∧ mb st1 = some (.next, st2) ∧ I (i + 1) st2) : ∀ n i st, I i st → i ≤ xs.length → xs.length - i < n → ∃ st', forA src ta mb n i st = some (.next, st') ∧ I xs.length st'
  | 0, i, st, _, _, h => by omega
  | n + 1, i, st, hI, hi, hn => by
    unfold forA
    rw [hs i st hI]
    dsimp only
    cases h : xs[i]? with
    | none =>
      have : xs.length = i := by
        have := List.getElem?_eq_none_iff.mp h
        omega
      exact ⟨st, rfl, this ▸ hI⟩
    | some av =>
      obtain ⟨st1, st2, e1, e2, e3⟩ := step i av st hI h
      dsimp only
      rw [e1]
      dsimp only
      rw [e2]
      have := (List.getElem?_eq_some_iff.mp h).1
      exact forA_inv hs step n (i + 1) st2 e3 (by omega) (by omega)
/-- a comprehension with a test -/
theorem ctA_list {Z : Type} {src : St → Option (List AV)} {ta : AV → AM Unit} {mt : AM Bool} {ma : List AV → AM (List AV)} (zs : List Z) (e : Z → AV) (f : Z → Option AV) (I : St → Prop) (hs : ∀ st, I st → src st = some (zs.map e))
    (step : ∀ z ∈ zs, ∀ st l, I st → l.length < 900 → ∃ st1 st2 b, ta (e z) st = some ((), st1) ∧ mt st1 = some (b, st2) ∧ match b with
      | true => ∃ a st3, f z = some a ∧ ma l st2 = some (l ++ [a], st3) ∧ I st3
      | false => f z = none ∧ I st2) : ∀ n i l st, I st → zs.length - i < n → l.length + (zs.length - i) < 900 → i ≤ zs.length → ∃ st', ctA src ta mt ma n i l st = some (l ++ (zs.drop i).filterMap f, st') ∧ I st'
  | 0, i, l, st, _, h, _, _ => by omega
  | n + 1, i, l, st, hI, hn, hl, hi => by
    unfold ctA
    rw [hs st hI]
    dsimp only
    rw [List.getElem?_map]
    cases h : zs[i]? with
    | none =>
      have := List.getElem?_eq_none_iff.mp h
      rw [List.drop_eq_nil_of_le this]
      exact ⟨st, by simp, hI⟩
    | some av =>
      obtain ⟨hlt, hav⟩ := List.getElem?_eq_some_iff.mp h
      obtain ⟨st1, st2, b, e1, e2, e3⟩ := step av (List.mem_of_getElem? h) st l hI (by omega)
      rw [Option.map_some]
      dsimp only
      rw [e1]
      dsimp only
      rw [e2]
      rw [List.drop_eq_getElem_cons hlt, hav, List.filterMap_cons]
      cases b with
      | false =>
        obtain ⟨e4, e5⟩ := e3
        rw [e4]
        exact ctA_list zs e f I hs step n (i + 1) l st2 e5 (by omega) (by omega) (by omega)
      | true =>
        obtain ⟨a, st3, e4, e5, e6⟩ := e3
        rw [e4]
        dsimp only
        rw [e5]
        dsimp only
        obtain ⟨st', e7, e8⟩ := ctA_list zs e f I hs step n (i + 1) (l ++ [a]) st3 e6 (by omega) (by rw [List.length_append, List.length_singleton]; omega) (by omega)
        refine ⟨st', ?_, e8⟩
        rw [e7, List.append_assoc]
        rfl
theorem callA_of {F : FnS} {mb : AM AF} {args : List AV} {st st' : St} {v : AV} (hl : args.length = F.pars.length) (h : mb ⟨args.map some ++ restLoc F.rest st.heap.length, st.heap ++ F.ks.map fun _ => .cell none⟩ = some (.ret v, st')) :
    callA F mb args st = some (v, ⟨st.loc, st'.heap⟩) := by unfold callA; rw [if_pos hl, h]
/-- two new cells behind -/
theorem ap0 {H : List AO} {a b : AO} : (H ++ [a, b])[H.length]? = some a := by rw [List.getElem?_append_right (Nat.le_refl _), Nat.sub_self]; rfl
theorem ap1 {H : List AO} {a b : AO} : (H ++ [a, b])[H.length + 1]? = some b := by rw [List.getElem?_append_right (by omega), Nat.add_sub_cancel_left]; rfl
theorem se0 {H : List AO} {a b c : AO} : (H ++ [a, b]).set H.length c = H ++ [c, b] := by rw [List.set_append_right _ _ (Nat.le_refl _), Nat.sub_self]; rfl
theorem se1 {H : List AO} {a b c : AO} : (H ++ [a, b]).set (H.length + 1) c = H ++ [a, c] := by rw [List.set_append_right _ _ (by omega), Nat.add_sub_cancel_left]; rfl
end Mine

open PySem PySem.W PyProof.Rows PySem.Calls PySem.Spec
set_option Elab.async false
namespace Mine
set_option maxRecDepth 100000
set_option maxHeartbeats 1000000
/-! _law_one_by_one -/
noncomputable def oboT : AM Bool := ((getL 0).bind fun a => ((partA none).bind fun lo => (partA (some ((listA [getC 3]).bind lenA))).bind fun hi => AM.pure (AV.slc lo hi)).bind fun b => getA a b).bind fun a => (getC 3).bind fun b => (eqA false a b).bind fun x => truthA x
noncomputable def oboM : AM AV := (getC 4).bind fun a => ((getL 0).bind fun a => ((partA (some ((listA [getC 3]).bind lenA))).bind fun lo => (partA none).bind fun hi => AM.pure (AV.slc lo hi)).bind fun b => getA a b).bind fun b => addA a b
noncomputable def oboC : AM (List AV) := compA 1 [false, false, true, true] (iterM (getL 0)) (fun x => setL 0 x) (AM.pure true) (emitA (iteA oboT oboM (getL 0))) 100
noncomputable def oboB : AM AF := oboC.bind fun l => (finD l).bind fun av => (setL 0 av).bind fun _ => AM.pure AF.next
theorem obo_eq : m_law_one_by_one.1 = seqA ((iterM (getL 1)).bind fun src => forA src (fun x => unpackA [fun x => setC 2 x, fun x => setC 3 x] x) oboB 100 0) ((getL 0).bind fun v => AM.pure (AF.ret v)) := rfl
noncomputable abbrev oE (H : List AO) (s g : Word) (x y z : Option AV) : St := ⟨[x, y, z, some (.ref H.length), some (.ref (H.length + 1))], H ++ [.cell (some (wA s)), .cell (some (wA g))]⟩
noncomputable abbrev oF (H : List AO) (v x : AV) (c d : Option AV) : St := ⟨[some v, some x, some (.ref H.length), some (.ref (H.length + 1))], H ++ [.cell c, .cell d]⟩
section
variable {H : List AO} {s g : Word}
theorem obo_elt {w : Word} {x y : Option AV} {l : List AV} (hl : l.length < 900) (l1 : w.length < 400) (l2 : s.length < 400) (l3 : g.length < 400) :
    emitA (iteA oboT oboM (getL 0)) l (oE H s g (some (wA w)) x y) =
      some (l ++ [wA (mv (s, g) w)], (oE H s g (some (wA w)) x y)) := by
  have h0 : getL 0 (oE H s g (some (wA w)) x y) = some (wA w, oE H s g (some (wA w)) x y) := gL rfl
  have h3 : getC 3 (oE H s g (some (wA w)) x y) = some (wA s, oE H s g (some (wA w)) x y) := gC rfl ap0
  have h4 : getC 4 (oE H s g (some (wA w)) x y) = some (wA g, oE H s g (some (wA w)) x y) := gC rfl ap1
  unfold emitA
  have h5 : iteA oboT oboM (getL 0) (oE H s g (some (wA w)) x y) = some (wA (mv (s, g) w), oE H s g (some (wA w)) x y) := by
    unfold iteA oboT oboM mv
    refine bnd (preT h0 h3 (by omega) (by omega)) ?_
    cases pre s w with
    | true => exact mvT h4 h0 h3 l1 l2 l3
    | false => exact h0
  refine bnd h5 ?_
  rw [if_pos hl]; rfl
theorem obo_body {fs : List Word} {x : AV} (hf : fs.length < 100) (l1 : ∀ w ∈ fs, w.length < 400) (l2 : s.length < 400) (l3 : g.length < 400) :
    oboB (oF H (.dat (fD fs)) x (some (wA s)) (some (wA g))) =
      some (.next, (oF H (.dat (fD (fs.map (mv (s, g))))) x (some (wA s)) (some (wA g)))) := by
  obtain ⟨st', h1, y, h2⟩ := ctA_list (src := constSrc (fs.map wA)) (ta := fun x => setL 0 x) (mt := AM.pure true) (ma := emitA (iteA oboT oboM (getL 0))) fs wA (fun w => some (wA (mv (s, g) w)))
    (fun st => ∃ y, st = oE H s g y none none) (fun _ _ => rfl)
    (fun z hz st l ⟨y, hy⟩ hl => by
      subst hy
      exact ⟨_, _, true, rfl, rfl, _, _, rfl, obo_elt hl (l1 z hz) l2 l3, _, rfl⟩) 100 0 [] (oE H s g none none none) ⟨none, rfl⟩ (by omega) (by simp; omega) (Nat.zero_le _)
  unfold oboB
  have hi : iterM (getL 0) (oF H (.dat (fD fs)) x (some (wA s)) (some (wA g))) = some (constSrc (fs.map wA), oF H (.dat (fD fs)) x (some (wA s)) (some (wA g))) := by
    unfold iterM
    refine bnd (gL rfl) ?_
    show (match iterA (.dat (.list (fs.map wD))) with | some l => AM.pure (constSrc l) | none => AM.fail) _ = _
    unfold iterA
    dsimp only
    rw [List.map_map]
    rfl
  have hc : oboC (oF H (.dat (fD fs)) x (some (wA s)) (some (wA g))) = some ((fs.map (mv (s, g))).map wA, (oF H (.dat (fD fs)) x (some (wA s)) (some (wA g)))) := by
    unfold oboC compA
    refine bnd hi ?_
    dsimp only
    have h1' : ctA (constSrc (fs.map wA)) (fun x => setL 0 x) (AM.pure true) (emitA (iteA oboT oboM (getL 0))) 100 0 [] ⟨List.replicate 1 none ++ maskLoc [false, false, true, true] [some (.dat (fD fs)), some x, some (.ref H.length), some (.ref (H.length + 1))], H ++ [.cell (some (wA s)), .cell (some (wA g))]⟩ = some ([] ++ (fs.drop 0).filterMap (fun w => some (wA (mv (s, g) w))), st') := h1
    rw [h1', h2]
    dsimp only
    rw [List.nil_append, List.drop_zero, List.filterMap_eq_map (f := fun w => wA (mv (s, g) w)) |> fun h => (show (fs.filterMap fun w => some (wA (mv (s, g) w))) = fs.map fun w => wA (mv (s, g) w) from congrFun h fs), List.map_map]
    rfl
  refine bnd hc (bnd (st1 := (oF H (.dat (fD fs)) x (some (wA s)) (some (wA g)))) (b := .dat (fD (fs.map (mv (s, g))))) ?_ rfl)
  unfold finD
  rw [show ((fs.map (mv (s, g))).map wA) = (((fs.map (mv (s, g))).map wD).map AV.dat) from by simp only [List.map_map]; rfl, datsA_map]
  rfl
end
theorem mv_len (m : Mv) (w : Word) : (mv m w).length ≤ m.2.length + w.length := by
  unfold mv
  split
  · rw [List.length_append, List.length_drop]; omega
  · omega
theorem seq_snoc (l : List Mv) (m : Mv) (w : Word) : seqAll (l ++ [m]) w = mv m (seqAll l w) := by
  induction l generalizing w with
  | nil => rfl
  | cons x l ih => exact ih (mv x w)
theorem seq_len {l : List Mv} (h : ∀ m ∈ l, m.2.length ≤ 2) (w : Word) : (seqAll l w).length ≤ w.length + 2 * l.length := by
  induction l generalizing w with
  | nil => simp [seqAll]
  | cons m l ih =>
    have h1 := ih (fun x hx => h x (.tail _ hx)) (mv m w)
    have h2 := mv_len m w
    have h3 := h m (.head _)
    unfold seqAll
    rw [List.length_cons]
    omega
theorem obo_call (H : List AO) (loc : List (Option AV)) (fs : List Word) (ms : List Mv) (hf : fs.length < 100) (hm : ms.length < 50) (l1 : ∀ w ∈ fs, w.length < 100) (l2 : ∀ m ∈ ms, m.1.length < 400 ∧ m.2.length ≤ 2) :
    ∃ c d, callA F_law_one_by_one m_law_one_by_one.1 [.dat (fD fs), .dat (.list (ms.map mD))] ⟨loc, H⟩ = some (.dat (fD (fs.map (seqAll ms))), ⟨loc, H ++ [c, d]⟩) := by
  obtain ⟨st', h1, c, d, h2⟩ := forA_inv (src := constSrc (ms.map mA)) (ta := fun x => unpackA [fun x => setC 2 x, fun x => setC 3 x] x) (mb := oboB) (xs := ms.map mA)
    (I := fun i st => ∃ c d, st = (oF H (.dat (fD (fs.map (seqAll (ms.take i))))) (.dat (.list (ms.map mD))) c d)) (fun _ _ _ => rfl)
    (fun i av st ⟨c, d, hst⟩ hav => by
      subst hst
      rw [List.getElem?_map] at hav
      obtain ⟨m, hm', rfl⟩ := Option.map_eq_some_iff.mp hav
      obtain ⟨hlt, hget⟩ := List.getElem?_eq_some_iff.mp hm'
      have hmem := List.mem_of_getElem? hm'
      have e1 : unpackA [fun x => setC 2 x, fun x => setC 3 x] (mA m) (oF H (.dat (fD (fs.map (seqAll (ms.take i))))) (.dat (.list (ms.map mD))) c d) =
          some ((), (oF H (.dat (fD (fs.map (seqAll (ms.take i))))) (.dat (.list (ms.map mD))) (some (wA m.1)) (some (wA m.2)))) := by
        show (unpackA.go [fun x => setC 2 x, fun x => setC 3 x] [wD m.1, wD m.2]) _ = _
        unfold unpackA.go unpackA.go unpackA.go
        refine bnd (st1 := (oF H (.dat (fD (fs.map (seqAll (ms.take i))))) (.dat (.list (ms.map mD))) (some (wA m.1)) d)) (b := ()) ?_ (bnd (b := ()) (st1 := (oF H (.dat (fD (fs.map (seqAll (ms.take i))))) (.dat (.list (ms.map mD))) (some (wA m.1)) (some (wA m.2)))) ?_ rfl)
        · unfold setC
          show (match (H ++ [AO.cell c, AO.cell d])[H.length]? with | some (.cell _) => _ | _ => _) = _
          rw [ap0]
          dsimp only
          rw [se0]; rfl
        · unfold setC
          show (match (H ++ [AO.cell (some (wA m.1)), AO.cell d])[H.length + 1]? with | some (.cell _) => _ | _ => _) = _
          rw [ap1]
          dsimp only
          rw [se1]; rfl
      refine ⟨_, _, e1, obo_body (s := m.1) (g := m.2) (by rw [List.length_map]; exact hf) ?_ (l2 m hmem).1 (by have := (l2 m hmem).2; omega), some (wA m.1), some (wA m.2), ?_⟩
      · intro w hw
        obtain ⟨w0, hw0, rfl⟩ := List.mem_map.mp hw
        have := seq_len (l := ms.take i) (fun x hx => (l2 x (List.mem_of_mem_take hx)).2) w0
        have := l1 w0 hw0
        have : (ms.take i).length ≤ ms.length := by rw [List.length_take]; omega
        omega
      · have : (fs.map (seqAll (ms.take i))).map (mv (m.1, m.2)) = fs.map (seqAll (ms.take (i + 1))) := by
          rw [List.map_map]
          refine List.map_congr_left fun w _ => ?_
          show mv m (seqAll (ms.take i) w) = _
          rw [List.take_add_one, hm', Option.toList_some, seq_snoc]
        rw [this])
    100 0 (oF H (.dat (fD fs)) (.dat (.list (ms.map mD))) none none) ⟨none, none, by
      have : fs.map (seqAll (ms.take 0)) = fs := by rw [List.take_zero]; exact List.map_id _
      rw [this]⟩ (Nat.zero_le _) (by rw [List.length_map]; omega)
  refine ⟨.cell c, .cell d, ?_⟩
  have h3 : seqA ((iterM (getL 1)).bind fun src => forA src (fun x => unpackA [fun x => setC 2 x, fun x => setC 3 x] x) oboB 100 0) ((getL 0).bind fun v => AM.pure (AF.ret v))
      ⟨[AV.dat (fD fs), .dat (.list (ms.map mD))].map some ++ restLoc F_law_one_by_one.rest H.length, H ++ F_law_one_by_one.ks.map fun _ => .cell none⟩ = some (.ret (.dat (fD (fs.map (seqAll ms)))), st') := by
    refine sq (st1 := st') ?_ ?_
    · refine bnd (b := constSrc (ms.map mA)) (st1 := (oF H (.dat (fD fs)) (.dat (.list (ms.map mD))) none none)) ?_ h1
      unfold iterM
      refine bnd (gL rfl) ?_
      show (match iterA (.dat (.list (ms.map mD))) with | some l => AM.pure (constSrc l) | none => AM.fail) _ = _
      unfold iterA
      dsimp only
      rw [List.map_map]
      rfl
    · rw [h2, List.length_map, List.take_length]
      exact bnd (gL rfl) rfl
  have h4 := callA_of (F := F_law_one_by_one) (mb := m_law_one_by_one.1) (args := [.dat (fD fs), .dat (.list (ms.map mD))]) (st := ⟨loc, H⟩) rfl (by rw [obo_eq]; exact h3)
  rw [h4, h2]
end Mine

open PySem PySem.W PyProof.Rows PySem.Calls PySem.Spec
set_option Elab.async false
namespace Mine
set_option maxRecDepth 100000
set_option maxHeartbeats 1000000
/-! _law_at_once -/
noncomputable def aoT : AM Bool := ((getC 5).bind fun a => ((partA none).bind fun lo => (partA (some ((listA [getL 0]).bind lenA))).bind fun hi => AM.pure (AV.slc lo hi)).bind fun b => getA a b).bind fun a => (getL 0).bind fun b => (eqA false a b).bind fun x => truthA x
noncomputable def aoM : AM AV := (getL 1).bind fun a => ((getC 5).bind fun a => ((partA (some ((listA [getL 0]).bind lenA))).bind fun lo => (partA none).bind fun hi => AM.pure (AV.slc lo hi)).bind fun b => getA a b).bind fun b => addA a b
noncomputable def aoC : AM (List AV) := compA 2 [false, false, false, true, false] (iterT (getL 1)) (fun x => unpackA [fun x => setL 0 x, fun x => setL 1 x] x) aoT (emitA aoM) 100
noncomputable def aoP : AM AV := ((getL 4).bind fun a => ((listA [getC 3]).bind lstA).bind fun b => addA a b).bind fun a => (AM.pure (AV.dat (PyData.int 0))).bind fun b => getA a b
noncomputable def aoB : AM AF := seqA (aoC.bind fun l => (finD l).bind fun av => (setL 4 av).bind fun _ => AM.pure AF.next) ((methA (getL 2) isListA [aoP] appendA).bind fun _ => AM.pure AF.next)
theorem ao_eq : m_law_at_once.1 = seqA (newListA.bind fun v => (setL 2 v).bind fun _ => AM.pure AF.next) (seqA ((iterM (getL 0)).bind fun src => forA src (fun x => setC 3 x) aoB 100 0) ((getL 2).bind fun v => AM.pure (AF.ret v))) := rfl
noncomputable abbrev oA (H : List AO) (fv : AV) (r : Nat) (x c : Option AV) (l : List AV) : St := ⟨[some fv, some (.ref r), some (.ref (H.length + 1)), some (.ref H.length), x], H ++ [.cell c, .list l]⟩
noncomputable abbrev oQ (H : List AO) (a b c : Option AV) (l : List AV) : St := ⟨[a, b, none, none, none, some (.ref H.length), none], H ++ [.cell c, .list l]⟩
noncomputable def mvd (w : Word) (ms : List Mv) : List Word := ms.filterMap fun m => if pre m.1 w then some (m.2 ++ w.drop m.1.length) else none
theorem mvd_once (w : Word) (ms : List Mv) : (mvd w ms ++ [w])[0]? = some (once ms w) := by
  unfold mvd
  induction ms with
  | nil => rfl
  | cons m ms ih =>
    rw [List.filterMap_cons]
    unfold once
    by_cases h : pre m.1 w = true
    · rw [if_pos h, if_pos h]; rfl
    · rw [if_neg h, if_neg h]; exact ih
theorem mvd_len (w : Word) (ms : List Mv) : (mvd w ms).length ≤ ms.length := List.length_filterMap_le _ _
theorem setC_at {i r : Nat} {st : St} {a : AV} {c : Option AV} (h : st.loc[i]? = some (some (.ref r))) (h2 : st.heap[r]? = some (.cell c)) : setC i a st = some ((), ⟨st.loc, st.heap.set r (.cell (some a))⟩) := by unfold setC; rw [h]; dsimp only; rw [h2]
theorem gd_list {r : Nat} {st : St} {l : List AV} (h : st.heap[r]? = some (.list l)) : guardA isListA (.ref r) st = some ((), st) := by
  have : isListA (.ref r) st = true := by unfold isListA; dsimp only; rw [h]
  unfold guardA
  rw [if_pos this]
section
variable {H : List AO} {ms : List Mv} {r : Nat} (hr : H[r]? = some (.list (ms.map mA))) (hm : ms.length < 50) (l2 : ∀ m ∈ ms, m.1.length < 400 ∧ m.2.length < 400)
include hr hm l2
theorem ao_comp {w : Word} (hw : w.length < 400) {fv : AV} {x : Option AV} {l : List AV} : aoC (oA H fv r x (some (wA w)) l) = some ((mvd w ms).map wA, oA H fv r x (some (wA w)) l) := by
  have hrl : r < H.length := (List.getElem?_eq_some_iff.mp hr).1
  have hsrc : ∀ st : St, (∃ L, st.heap = H ++ L) → trkSrc r st = some (ms.map mA) := fun st ⟨L, e⟩ => by
    unfold trkSrc
    rw [e, List.getElem?_append_left hrl, hr]
  obtain ⟨st', h1, a, b, h2⟩ := ctA_list (src := trkSrc r) (ta := fun x => unpackA [fun x => setL 0 x, fun x => setL 1 x] x) (mt := aoT) (ma := emitA aoM) ms mA (fun m => if pre m.1 w then some (wA (m.2 ++ w.drop m.1.length)) else none)
    (fun st => ∃ a b, st = oQ H a b (some (wA w)) l) (fun st ⟨a, b, e⟩ => hsrc st ⟨_, congrArg St.heap e⟩)
    (fun m hmm st l' ⟨a, b, hst⟩ hl => by
      subst hst
      obtain ⟨k1, k2⟩ := l2 m hmm
      have e1 : unpackA [fun x => setL 0 x, fun x => setL 1 x] (mA m) (oQ H a b (some (wA w)) l) = some ((), oQ H (some (wA m.1)) (some (wA m.2)) (some (wA w)) l) := rfl
      have h0 : getL 0 (oQ H (some (wA m.1)) (some (wA m.2)) (some (wA w)) l) = some (wA m.1, oQ H (some (wA m.1)) (some (wA m.2)) (some (wA w)) l) := gL rfl
      have h1 : getL 1 (oQ H (some (wA m.1)) (some (wA m.2)) (some (wA w)) l) = some (wA m.2, oQ H (some (wA m.1)) (some (wA m.2)) (some (wA w)) l) := gL rfl
      have h5 : getC 5 (oQ H (some (wA m.1)) (some (wA m.2)) (some (wA w)) l) = some (wA w, oQ H (some (wA m.1)) (some (wA m.2)) (some (wA w)) l) := gC rfl ap0
      refine ⟨_, _, pre m.1 w, e1, preT h5 h0 (by omega) (by omega), ?_⟩
      cases hp : pre m.1 w with
      | false => exact ⟨by rw [if_neg (by decide)], _, _, rfl⟩
      | true =>
        refine ⟨wA (m.2 ++ w.drop m.1.length), oQ H (some (wA m.1)) (some (wA m.2)) (some (wA w)) l, by rw [if_pos rfl], ?_, _, _, rfl⟩
        unfold emitA
        refine bnd (mvT h1 h5 h0 hw k1 k2) ?_
        rw [if_pos hl]; rfl) 100 0 [] (oQ H none none (some (wA w)) l) ⟨none, none, rfl⟩ (by omega) (by simp; omega) (Nat.zero_le _)
  unfold aoC compA
  refine bnd (b := trkSrc r) (st1 := oA H fv r x (some (wA w)) l) ?_ ?_
  · unfold iterT
    refine bnd (gL rfl) ?_
    show (match (H ++ [AO.cell (some (wA w)), AO.list l])[r]? with | some (.list _) => some (trkSrc r, oA H fv r x (some (wA w)) l) | _ => none) = _
    rw [List.getElem?_append_left hrl, hr]
  · dsimp only
    have h1' : ctA (trkSrc r) (fun x => unpackA [fun x => setL 0 x, fun x => setL 1 x] x) aoT (emitA aoM) 100 0 [] ⟨List.replicate 2 none ++ maskLoc [false, false, false, true, false] [some fv, some (.ref r), some (.ref (H.length + 1)), some (.ref H.length), x], H ++ [.cell (some (wA w)), .list l]⟩ = _ := h1
    rw [h1', h2]
    dsimp only
    have : (ms.filterMap fun m => if pre m.1 w then some (wA (m.2 ++ w.drop m.1.length)) else none) = (mvd w ms).map wA := by
      unfold mvd
      rw [List.map_filterMap]
      congr 1
      funext m
      by_cases h : pre m.1 w = true
      · rw [if_pos h, if_pos h]; rfl
      · rw [if_neg h, if_neg h]; rfl
    rw [List.nil_append, List.drop_zero, this]
theorem ao_body {w : Word} (hw : w.length < 400) {fv : AV} {x : Option AV} {l : List AV} (hl : l.length < 900) : ∃ x', aoB (oA H fv r x (some (wA w)) l) = some (.next, oA H fv r x' (some (wA w)) (l ++ [wA (once ms w)])) := by
  have hfin : finD ((mvd w ms).map wA) (oA H fv r x (some (wA w)) l) = some (.dat (fD (mvd w ms)), oA H fv r x (some (wA w)) l) := by
    unfold finD
    rw [show ((mvd w ms).map wA) = (((mvd w ms).map wD).map AV.dat) from by simp only [List.map_map]; rfl, datsA_map]
    rfl
  refine ⟨some (.dat (fD (mvd w ms))), ?_⟩
  unfold aoB
  refine sq (st1 := oA H fv r (some (.dat (fD (mvd w ms)))) (some (wA w)) l) (bnd (ao_comp hr hm l2 hw) (bnd hfin rfl)) ?_
  have hp : aoP (oA H fv r (some (.dat (fD (mvd w ms)))) (some (wA w)) l) = some (wA (once ms w), oA H fv r (some (.dat (fD (mvd w ms)))) (some (wA w)) l) := by
    unfold aoP
    refine bnd (b := .dat (.list ((mvd w ms ++ [w]).map wD))) (st1 := oA H fv r (some (.dat (fD (mvd w ms)))) (some (wA w)) l) ?_ ?_
    · refine bnd (gL rfl) (bnd (b := .dat (.list [wD w])) (st1 := oA H fv r (some (.dat (fD (mvd w ms)))) (some (wA w)) l) (bnd (ls1 (gC rfl ap0)) rfl) ?_)
      show (if ((mvd w ms).map wD).length + [wD w].length < 1000 then (some (AV.dat (.list ((mvd w ms).map wD ++ [wD w])), _) : Option (AV × St)) else none) = _
      have := mvd_len w ms
      rw [if_pos (by rw [List.length_map, List.length_singleton]; omega), List.map_append]
      rfl
    · refine bnd rfl ?_
      show (if 0 ≤ (0 : Int) ∧ (0 : Int) < 1000 then match ((mvd w ms ++ [w]).map wD)[0]? with | some d => (some (AV.dat d, _) : Option (AV × St)) | none => none else none) = _
      rw [if_pos ⟨by decide, by decide⟩, List.getElem?_map, mvd_once]
      rfl
  have h2 : getL 2 (oA H fv r (some (.dat (fD (mvd w ms)))) (some (wA w)) l) = some (.ref (H.length + 1), oA H fv r (some (.dat (fD (mvd w ms)))) (some (wA w)) l) := gL rfl
  refine bnd (b := .dat .none) (st1 := oA H fv r (some (.dat (fD (mvd w ms)))) (some (wA w)) (l ++ [wA (once ms w)])) ?_ rfl
  unfold methA
  refine bnd h2 (bnd (b := ()) (st1 := oA H fv r (some (.dat (fD (mvd w ms)))) (some (wA w)) l) ?_ (bnd (ls1 hp) ?_))
  · exact gd_list ap1
  · unfold appendA
    dsimp only
    rw [ap1]
    dsimp only
    rw [if_pos hl, se1]
theorem ao_call (loc : List (Option AV)) (fs : List Word) (hf : fs.length < 100) (l1 : ∀ w ∈ fs, w.length < 400) :
    ∃ c, (∀ n, okAO n (.cell c) = true) ∧ callA F_law_at_once m_law_at_once.1 [.dat (fD fs), .ref r] ⟨loc, H⟩ = some (.ref (H.length + 1), ⟨loc, H ++ [.cell c, .list (fs.map fun w => wA (once ms w))]⟩) := by
  obtain ⟨st', h1, x, c, hc, h2⟩ := forA_inv (src := constSrc (fs.map wA)) (ta := fun x => setC 3 x) (mb := aoB) (xs := fs.map wA)
    (I := fun i st => ∃ x c, (∀ n, okAO n (.cell c) = true) ∧ st = oA H (.dat (fD fs)) r x c ((fs.take i).map fun w => wA (once ms w))) (fun _ _ _ => rfl)
    (fun i av st ⟨x, c, _, hst⟩ hav => by
      subst hst
      rw [List.getElem?_map] at hav
      obtain ⟨w, hw, rfl⟩ := Option.map_eq_some_iff.mp hav
      have hmem := List.mem_of_getElem? hw
      obtain ⟨x', hb⟩ := ao_body hr hm l2 (w := w) (l1 w hmem) (fv := .dat (fD fs)) (x := x) (l := (fs.take i).map fun w => wA (once ms w)) (by rw [List.length_map, List.length_take]; omega)
      refine ⟨oA H (.dat (fD fs)) r x (some (wA w)) ((fs.take i).map fun w => wA (once ms w)), _, ?_, hb, x', some (wA w), fun _ => rfl, ?_⟩
      · show setC 3 (wA w) _ = _
        rw [setC_at (r := H.length) (c := c) rfl ap0]
        dsimp only
        rw [se0]
      · rw [List.take_add_one, hw, Option.toList_some, List.map_append]; rfl)
    100 0 (oA H (.dat (fD fs)) r none none []) ⟨none, none, fun _ => rfl, rfl⟩ (Nat.zero_le _) (by rw [List.length_map]; omega)
  refine ⟨c, hc, ?_⟩
  have h3 : seqA (newListA.bind fun v => (setL 2 v).bind fun _ => AM.pure AF.next) (seqA ((iterM (getL 0)).bind fun src => forA src (fun x => setC 3 x) aoB 100 0) ((getL 2).bind fun v => AM.pure (AF.ret v)))
      ⟨[AV.dat (fD fs), .ref r].map some ++ restLoc F_law_at_once.rest H.length, H ++ F_law_at_once.ks.map fun _ => .cell none⟩ = some (.ret (.ref (H.length + 1)), st') := by
    refine sq (st1 := oA H (.dat (fD fs)) r none none []) ?_ (sq (st1 := st') ?_ ?_)
    · refine bnd (b := .ref (H.length + 1)) (st1 := ⟨[some (.dat (fD fs)), some (.ref r), none, some (.ref H.length), none], H ++ [.cell none, .list []]⟩) ?_ rfl
      unfold newListA
      show some (AV.ref (H ++ [AO.cell none]).length, (⟨_, (H ++ [AO.cell none]) ++ [AO.list []]⟩ : St)) = _
      rw [List.length_append, List.append_assoc]
      rfl
    · refine bnd (b := constSrc (fs.map wA)) (st1 := oA H (.dat (fD fs)) r none none []) ?_ h1
      unfold iterM
      refine bnd (gL rfl) ?_
      show (match iterA (.dat (.list (fs.map wD))) with | some l => AM.pure (constSrc l) | none => AM.fail) _ = _
      unfold iterA
      dsimp only
      rw [List.map_map]
      rfl
    · rw [h2, List.length_map, List.take_length]
      exact bnd (gL rfl) rfl
  have h4 := callA_of (F := F_law_at_once) (mb := m_law_at_once.1) (args := [.dat (fD fs), .ref r]) (st := ⟨loc, H⟩) rfl (by rw [ao_eq]; exact h3)
  rw [h4, h2, List.length_map, List.take_length]
end
end Mine

open PySem PySem.W PyProof.Rows PySem.Calls PySem.Spec
set_option Elab.async false
namespace Mine
set_option maxRecDepth 100000
set_option maxHeartbeats 1000000
/-! _law_moves -/
noncomputable def lmX (D : Addr) (ns : List Int) : AM AV := ((((getL 1).bind fun a => (getL 4).bind fun b => getA a b).bind fun a => ((listA [(getL 0).bind fun av => (getL 4).bind fun x => (AM.pure (AV.dat (PyData.int 60))).bind fun y => (AM.pure (AV.dat (PyData.int 4))).bind fun z => match av with
    | AV.ext D' => if D' = D then pickA ns x y z else AM.fail
    | _ => AM.fail]).bind sumA).bind fun b => addA a b).bind fun a => (AM.pure (AV.dat (PyData.int 36))).bind fun b => modA a b)
noncomputable def lmS : AM AV := (getL 2).bind fun a => ((getL 5).bind fun a => (AM.pure (AV.dat (PyData.int 6))).bind fun b => modA a b).bind fun b => getA a b
noncomputable def lmG : AM AV := (getL 2).bind fun a => ((getL 5).bind fun a => (AM.pure (AV.dat (PyData.int 6))).bind fun b => divA a b).bind fun b => getA a b
noncomputable def lmT : AM Bool := ((getL 0).bind fun a => ((partA none).bind fun lo => (partA (some ((listA [getC 8]).bind lenA))).bind fun hi => AM.pure (AV.slc lo hi)).bind fun b => getA a b).bind fun a =>
  ((getC 8).bind fun a => ((partA none).bind fun lo => (partA (some ((listA [getL 0]).bind lenA))).bind fun hi => AM.pure (AV.slc lo hi)).bind fun b => getA a b).bind fun b => (eqA false a b).bind fun x => truthA x
noncomputable def lmN : AM (List AV) := compA 2 [false, false, false, false, false, false, true, false, false] (iterT (getL 3)) (fun x => unpackA [fun x => setL 0 x, fun x => setL 1 x] x) lmT (emitA (getL 0)) 100
noncomputable def lmI : AM Bool := ((getC 6).bind fun a => (getL 7).bind fun b => (eqA true a b).bind fun x => truthA x).bind fun b => match b with
  | true => ((getL 8).bind fun a => ((listA []).bind lstA).bind fun b => (eqA false a b).bind fun x => truthA x).bind fun b => match b with
    | true => (((listA [getL 3]).bind lenA).bind fun a => (AM.pure (AV.dat (PyData.int 3))).bind fun b => (ltA a b).bind fun x => truthA x).bind fun b => match b with
      | true => AM.pure true
      | false => AM.pure false
    | false => AM.pure false
  | false => AM.pure false
noncomputable def lmB (D : Addr) (ns : List Int) : AM AF := seqA ((lmX D ns).bind fun v => (setL 5 v).bind fun _ => AM.pure AF.next) (seqA (lmS.bind fun v => (setC 6 v).bind fun _ => AM.pure AF.next) (seqA (lmG.bind fun v => (setL 7 v).bind fun _ => AM.pure AF.next)
  (seqA (lmN.bind fun l => (finD l).bind fun av => (setL 8 av).bind fun _ => AM.pure AF.next) (iteA lmI ((methA (getL 3) isListA [(listA [getC 6, getL 7]).bind tupA] appendA).bind fun _ => AM.pure AF.next) (AM.pure AF.next)))))
theorem lm_eq (D : Addr) (ns : List Int) : (m_law_moves D ns).1 = seqA (((listA [AM.pure (AV.dat (PyData.int 20)), AM.pure (AV.dat (PyData.int 27)), AM.pure (AV.dat (PyData.int 34)), AM.pure (AV.dat (PyData.int 0))]).bind lstA).bind fun v => (setL 1 v).bind fun _ => AM.pure AF.next)
  (seqA ((callA F_law_folders m_law_folders.1 []).bind fun v => (setL 2 v).bind fun _ => AM.pure AF.next) (seqA (newListA.bind fun v => (setL 3 v).bind fun _ => AM.pure AF.next)
    (seqA ((iterM ((listA [AM.pure (AV.dat (PyData.int 4))]).bind rangeA)).bind fun src => forA src (fun x => setL 4 x) (lmB D ns) 100 0) ((getL 3).bind fun v => AM.pure (AF.ret v))))) := rfl
theorem folders_3 (loc : List (Option AV)) (c0 c1 : AO) : callA F_law_folders m_law_folders.1 [] ⟨loc, [c0, c1]⟩ = some (.dat (fD files), ⟨loc, [c0, c1, .cell (some (.dat (.int 2)))]⟩) := by kernel_rfl
noncomputable def folds : List Word := files.take 6
structure Valid (ms : List Mv) : Prop where
  len : ms.length ≤ 3
  ok : ∀ m ∈ ms, okM m
  fo : ∀ m ∈ ms, m.1 ∈ folds ∧ m.2 ∈ folds
  anti : Anti ms
theorem folds_ok : ∀ w ∈ folds, w.length ≤ 2 ∧ w ≠ [] ∧ ∀ x ∈ w, x < 2 := by decide
theorem intsA_of (l : List Int) : intsA (l.map .int) = some l := by
  induction l with
  | nil => rfl
  | cons x l ih => simp only [List.map_cons, intsA, ih]
theorem pick_len (ns : List Int) (h : ns.length ≤ 63) (i : Nat) : (pickNums ns (some (i : Int)) (some 60) (some 4)).length < 100 := by
  unfold pickNums
  refine Nat.lt_of_le_of_lt (List.length_filterMap_le _ _) ?_
  unfold sliceRange sliceBounds
  simp only [List.length_map, List.length_range]
  have h1 : ¬ ((i : Int) < 0) := by omega
  simp only [Option.getD_some, h1, if_false, show ((4 : Int) > 0) = True from by simp, show ((60 : Int) < 0) = False from by simp, if_true]
  split <;> omega
noncomputable abbrev lmF (D : Addr) (k x g nr : Option AV) (c0 : AO) (c : Option AV) (c2 : AO) (ms : List Mv) : St :=
  ⟨[some (.ext D), some (.dat (.list [.int 20, .int 27, .int 34, .int 0])), some (.dat (fD files)), some (.ref 3), k, x, some (.ref 1), g, nr], [c0, .cell c, c2, .list (ms.map mA)]⟩
theorem files_at {n : Nat} (h : n < 6) : ∃ w ∈ folds, files[n]? = some w := by
  match n, h with
  | 0, _ => exact ⟨_, by decide, rfl⟩
  | 1, _ => exact ⟨_, by decide, rfl⟩
  | 2, _ => exact ⟨_, by decide, rfl⟩
  | 3, _ => exact ⟨_, by decide, rfl⟩
  | 4, _ => exact ⟨_, by decide, rfl⟩
  | 5, _ => exact ⟨_, by decide, rfl⟩
theorem getA_files {n : Nat} {w : Word} {st : St} (h : files[n]? = some w) : getA (.dat (fD files)) (.dat (.int (n : Int))) st = some (wA w, st) := by
  have hn : n < 14 := (List.getElem?_eq_some_iff.mp h).1
  show (if 0 ≤ (n : Int) ∧ (n : Int) < 1000 then match (files.map wD)[(n : Int).toNat]? with | some d => (some (AV.dat d, st) : Option (AV × St)) | none => none else none) = _
  rw [if_pos (by omega), Int.toNat_natCast, List.getElem?_map, h]
  rfl
section
variable {D : Addr} {ns : List Int} (hns : ns.length ≤ 63) {c0 c2 : AO}
include hns in
theorem lm_x {i : Nat} (hi : i < 4) {x g nr c : Option AV} {ms : List Mv} : ∃ n : Nat, n < 36 ∧ lmX D ns (lmF D (some (.dat (.int (i : Int)))) x g nr c0 c c2 ms) = some (.dat (.int (n : Int)), lmF D (some (.dat (.int (i : Int)))) x g nr c0 c c2 ms) := by
  have h1 : ∃ q : Int, getA (.dat (.list [.int 20, .int 27, .int 34, .int 0])) (.dat (.int (i : Int))) (lmF D (some (.dat (.int (i : Int)))) x g nr c0 c c2 ms) = some (.dat (.int q), lmF D (some (.dat (.int (i : Int)))) x g nr c0 c c2 ms) := by
    match i, hi with
    | 0, _ => exact ⟨20, rfl⟩
    | 1, _ => exact ⟨27, rfl⟩
    | 2, _ => exact ⟨34, rfl⟩
    | 3, _ => exact ⟨0, rfl⟩
  obtain ⟨q, h1⟩ := h1
  have h2 : pickA ns (.dat (.int (i : Int))) (.dat (.int 60)) (.dat (.int 4)) (lmF D (some (.dat (.int (i : Int)))) x g nr c0 c c2 ms) = some (.dat (.list ((pickNums ns (some (i : Int)) (some 60) (some 4)).map .int)), lmF D (some (.dat (.int (i : Int)))) x g nr c0 c c2 ms) := by
    unfold pickA intOf
    dsimp only
    rw [if_pos ⟨by decide, pick_len ns hns i⟩]
    rfl
  have h3 : sumA [.dat (.list ((pickNums ns (some (i : Int)) (some 60) (some 4)).map .int))] (lmF D (some (.dat (.int (i : Int)))) x g nr c0 c c2 ms) = some (.dat (.int (pickNums ns (some (i : Int)) (some 60) (some 4)).sum), lmF D (some (.dat (.int (i : Int)))) x g nr c0 c c2 ms) := by
    unfold sumA
    dsimp only
    rw [intsA_of]
    rfl
  have hn0 : 0 ≤ (q + (pickNums ns (some (i : Int)) (some 60) (some 4)).sum).fmod 36 := Int.fmod_nonneg_of_pos _ (by decide)
  have hn1 : (q + (pickNums ns (some (i : Int)) (some 60) (some 4)).sum).fmod 36 < 36 := Int.fmod_lt_of_pos _ (by decide)
  refine ⟨((q + (pickNums ns (some (i : Int)) (some 60) (some 4)).sum).fmod 36).toNat, by omega, ?_⟩
  unfold lmX
  refine bnd (bnd (bnd (gL rfl) (bnd (gL rfl) h1)) (bnd (bnd (ls1 (bnd (gL rfl) (bnd (gL rfl) (bnd rfl (bnd rfl ?_))))) h3) rfl)) (bnd rfl ?_)
  · dsimp only
    rw [if_pos rfl]; exact h2
  · unfold modA
    dsimp only
    rw [if_pos (by decide), Int.toNat_of_nonneg hn0]
theorem lm_s {n : Nat} (hn : n < 36) {k g nr c : Option AV} {ms : List Mv} : ∃ w ∈ folds, lmS (lmF D k (some (.dat (.int (n : Int)))) g nr c0 c c2 ms) = some (wA w, lmF D k (some (.dat (.int (n : Int)))) g nr c0 c c2 ms) := by
  obtain ⟨w, hw, h⟩ := files_at (n := n % 6) (by omega)
  refine ⟨w, hw, ?_⟩
  unfold lmS
  refine bnd (gL rfl) (bnd (b := .dat (.int ((n % 6 : Nat) : Int))) (st1 := lmF D k (some (.dat (.int (n : Int)))) g nr c0 c c2 ms) (bnd (gL rfl) (bnd rfl ?_)) (getA_files h))
  unfold modA
  dsimp only
  rw [if_pos (by decide), Int.fmod_eq_emod_of_nonneg _ (by decide)]
  rfl
theorem lm_g {n : Nat} (hn : n < 36) {k g nr c : Option AV} {ms : List Mv} : ∃ w ∈ folds, lmG (lmF D k (some (.dat (.int (n : Int)))) g nr c0 c c2 ms) = some (wA w, lmF D k (some (.dat (.int (n : Int)))) g nr c0 c c2 ms) := by
  obtain ⟨w, hw, h⟩ := files_at (n := n / 6) (by omega)
  refine ⟨w, hw, ?_⟩
  unfold lmG
  refine bnd (gL rfl) (bnd (b := .dat (.int ((n / 6 : Nat) : Int))) (st1 := lmF D k (some (.dat (.int (n : Int)))) g nr c0 c c2 ms) (bnd (gL rfl) (bnd rfl ?_)) (getA_files h))
  unfold divA
  dsimp only
  rw [if_pos ⟨by decide, by decide⟩, Int.fdiv_eq_ediv_of_nonneg _ (by decide)]
  rfl
noncomputable abbrev lmQ (a b : Option AV) (c0 : AO) (s : Word) (c2 : AO) (ms : List Mv) : St := ⟨[a, b, none, none, none, none, none, none, some (.ref 1), none, none], [c0, .cell (some (wA s)), c2, .list (ms.map mA)]⟩
noncomputable def nearW (s : Word) (ms : List Mv) : List Word := ms.filterMap fun m => if rel m.1 s then some m.1 else none
theorem lm_n {s : Word} (hs : s ∈ folds) {k x g nr : Option AV} {ms : List Mv} (hv : Valid ms) : lmN (lmF D k x g nr c0 (some (wA s)) c2 ms) = some ((nearW s ms).map wA, lmF D k x g nr c0 (some (wA s)) c2 ms) := by
  obtain ⟨st', h1, a, b, h2⟩ := ctA_list (src := trkSrc 3) (ta := fun x => unpackA [fun x => setL 0 x, fun x => setL 1 x] x) (mt := lmT) (ma := emitA (getL 0)) ms mA (fun m => if rel m.1 s then some (wA m.1) else none)
    (fun st => ∃ a b, st = lmQ a b c0 s c2 ms) (fun st ⟨a, b, e⟩ => by subst e; rfl)
    (fun m hmm st l' ⟨a, b, hst⟩ hl => by
      subst hst
      have k1 := (folds_ok _ (hv.fo m hmm).1).1
      have k2 := (folds_ok _ hs).1
      have h0 : getL 0 (lmQ (some (wA m.1)) (some (wA m.2)) c0 s c2 ms) = some (wA m.1, lmQ (some (wA m.1)) (some (wA m.2)) c0 s c2 ms) := gL rfl
      have h8 : getC 8 (lmQ (some (wA m.1)) (some (wA m.2)) c0 s c2 ms) = some (wA s, lmQ (some (wA m.1)) (some (wA m.2)) c0 s c2 ms) := gC (r := 1) rfl rfl
      have e1 : unpackA [fun x => setL 0 x, fun x => setL 1 x] (mA m) (lmQ a b c0 s c2 ms) = some ((), lmQ (some (wA m.1)) (some (wA m.2)) c0 s c2 ms) := rfl
      refine ⟨_, lmQ (some (wA m.1)) (some (wA m.2)) c0 s c2 ms, rel m.1 s, e1, bnd (slTake h0 h8 (by omega) (by omega)) (bnd (slTake h8 h0 (by omega) (by omega)) (bnd (eqA_w false _ _ _) rfl)), ?_⟩
      cases hp : rel m.1 s with
      | false => exact ⟨by rw [if_neg (by decide)], _, _, rfl⟩
      | true =>
        refine ⟨wA m.1, lmQ (some (wA m.1)) (some (wA m.2)) c0 s c2 ms, by rw [if_pos rfl], ?_, _, _, rfl⟩
        unfold emitA
        refine bnd h0 ?_
        rw [if_pos hl]; rfl) 100 0 [] (lmQ none none c0 s c2 ms) ⟨none, none, rfl⟩ (by have := hv.len; omega) (by have := hv.len; simp; omega) (Nat.zero_le _)
  unfold lmN compA
  refine bnd (b := trkSrc 3) (st1 := lmF D k x g nr c0 (some (wA s)) c2 ms) rfl ?_
  dsimp only
  have h1' : ctA (trkSrc 3) (fun x => unpackA [fun x => setL 0 x, fun x => setL 1 x] x) lmT (emitA (getL 0)) 100 0 [] ⟨List.replicate 2 none ++ maskLoc [false, false, false, false, false, false, true, false, false] (lmF D k x g nr c0 (some (wA s)) c2 ms).loc, (lmF D k x g nr c0 (some (wA s)) c2 ms).heap⟩ = _ := h1
  rw [h1', h2]
  dsimp only
  have : (ms.filterMap fun m => if rel m.1 s then some (wA m.1) else none) = (nearW s ms).map wA := by
    unfold nearW
    rw [List.map_filterMap]
    congr 1
    funext m
    by_cases h : rel m.1 s = true
    · rw [if_pos h, if_pos h]; rfl
    · rw [if_neg h, if_neg h]; rfl
  rw [List.nil_append, List.drop_zero, this]
theorem lm_i {s g : Word} {k x : Option AV} {ms : List Mv} (hl : ms.length ≤ 3) (l : List Word) :
    lmI (lmF D k x (some (wA g)) (some (.dat (fD l))) c0 (some (wA s)) c2 ms) = some (!decide (s = g) && (decide (l = []) && decide (ms.length < 3)), lmF D k x (some (wA g)) (some (.dat (fD l))) c0 (some (wA s)) c2 ms) := by
  have h6 : getC 6 (lmF D k x (some (wA g)) (some (.dat (fD l))) c0 (some (wA s)) c2 ms) = some (wA s, lmF D k x (some (wA g)) (some (.dat (fD l))) c0 (some (wA s)) c2 ms) := gC (r := 1) rfl rfl
  have he : eqA false (.dat (fD l)) (.dat (.list [])) (lmF D k x (some (wA g)) (some (.dat (fD l))) c0 (some (wA s)) c2 ms) = some (.dat (.bool (decide (l = []))), lmF D k x (some (wA g)) (some (.dat (fD l))) c0 (some (wA s)) c2 ms) := by
    have h1 := okD_fD l
    have h2 : okD (.list []) = true := okD_fD []
    have h3 : PyData.eqv (fD l) (.list []) = decide (l = []) := eqv_fD l []
    unfold eqA
    simp only [dataOf, h1, h2, h3, Bool.and_self, if_true]
    rfl
  have hlen : lenA [.ref 3] (lmF D k x (some (wA g)) (some (.dat (fD l))) c0 (some (wA s)) c2 ms) = some (.dat (.int (ms.length : Nat)), lmF D k x (some (wA g)) (some (.dat (fD l))) c0 (some (wA s)) c2 ms) := by
    show (if (ms.map mA).length < 1000 then some (AV.dat (.int ((ms.map mA).length : Nat)), _) else none) = _
    rw [List.length_map, if_pos (by omega)]
  unfold lmI
  refine bnd (bnd h6 (bnd (gL rfl) (bnd (eqA_w true s g _) rfl))) ?_
  cases hsg : decide (s = g) with
  | true => rfl
  | false =>
    refine bnd (bnd (gL rfl) (bnd (b := .dat (.list [])) (st1 := lmF D k x (some (wA g)) (some (.dat (fD l))) c0 (some (wA s)) c2 ms) rfl (bnd he rfl))) ?_
    cases hn : decide (l = []) with
    | false => rfl
    | true =>
      refine bnd (bnd (bnd (ls1 (gL rfl)) hlen) (bnd rfl (bnd rfl rfl))) ?_
      have : decide ((ms.length : Int) < 3) = decide (ms.length < 3) := decide_eq_decide.mpr (by omega)
      rw [this]
      cases decide (ms.length < 3) <;> rfl
include hns in
theorem lm_body {i : Nat} (hi : i < 4) {x g nr c : Option AV} {ms : List Mv} (hv : Valid ms) : ∃ x' g' nr' c' ms', Valid ms' ∧ (∀ n, okAO n (.cell c') = true) ∧ lmB D ns (lmF D (some (.dat (.int (i : Int)))) x g nr c0 c c2 ms) = some (.next, lmF D (some (.dat (.int (i : Int)))) x' g' nr' c0 c' c2 ms') := by
  obtain ⟨n, hn, e1⟩ := lm_x hns (D := D) (c0 := c0) (c2 := c2) hi (x := x) (g := g) (nr := nr) (c := c) (ms := ms)
  obtain ⟨s, hs, e2⟩ := lm_s (D := D) (c0 := c0) (c2 := c2) hn (k := some (.dat (.int (i : Int)))) (g := g) (nr := nr) (c := c) (ms := ms)
  obtain ⟨t, ht, e3⟩ := lm_g (D := D) (c0 := c0) (c2 := c2) hn (k := some (.dat (.int (i : Int)))) (g := g) (nr := nr) (c := some (wA s)) (ms := ms)
  have e4 := lm_n (D := D) (c0 := c0) (c2 := c2) hs (k := some (.dat (.int (i : Int)))) (x := some (.dat (.int (n : Int)))) (g := some (wA t)) (nr := nr) hv
  have e5 := lm_i (D := D) (c0 := c0) (c2 := c2) (s := s) (g := t) (k := some (.dat (.int (i : Int)))) (x := some (.dat (.int (n : Int)))) hv.len (nearW s ms)
  have hfin : finD ((nearW s ms).map wA) (lmF D (some (.dat (.int (i : Int)))) (some (.dat (.int (n : Int)))) (some (wA t)) nr c0 (some (wA s)) c2 ms) = some (.dat (fD (nearW s ms)), lmF D (some (.dat (.int (i : Int)))) (some (.dat (.int (n : Int)))) (some (wA t)) nr c0 (some (wA s)) c2 ms) := by
    unfold finD
    rw [show ((nearW s ms).map wA) = (((nearW s ms).map wD).map AV.dat) from by simp only [List.map_map]; rfl, datsA_map]
    rfl
  have key : ∀ {ms'}, iteA lmI ((methA (getL 3) isListA [(listA [getC 6, getL 7]).bind tupA] appendA).bind fun _ => AM.pure AF.next) (AM.pure AF.next) (lmF D (some (.dat (.int (i : Int)))) (some (.dat (.int (n : Int)))) (some (wA t)) (some (.dat (fD (nearW s ms)))) c0 (some (wA s)) c2 ms) =
      some (.next, lmF D (some (.dat (.int (i : Int)))) (some (.dat (.int (n : Int)))) (some (wA t)) (some (.dat (fD (nearW s ms)))) c0 (some (wA s)) c2 ms') → lmB D ns (lmF D (some (.dat (.int (i : Int)))) x g nr c0 c c2 ms) =
      some (.next, lmF D (some (.dat (.int (i : Int)))) (some (.dat (.int (n : Int)))) (some (wA t)) (some (.dat (fD (nearW s ms)))) c0 (some (wA s)) c2 ms') := fun {ms'} h => by
    unfold lmB
    exact sq (st1 := lmF D (some (.dat (.int (i : Int)))) (some (.dat (.int (n : Int)))) g nr c0 c c2 ms) (bnd e1 rfl) (sq (st1 := lmF D (some (.dat (.int (i : Int)))) (some (.dat (.int (n : Int)))) g nr c0 (some (wA s)) c2 ms) (bnd e2 rfl)
      (sq (st1 := lmF D (some (.dat (.int (i : Int)))) (some (.dat (.int (n : Int)))) (some (wA t)) nr c0 (some (wA s)) c2 ms) (bnd e3 rfl) (sq (st1 := lmF D (some (.dat (.int (i : Int)))) (some (.dat (.int (n : Int)))) (some (wA t)) (some (.dat (fD (nearW s ms)))) c0 (some (wA s)) c2 ms) (bnd e4 (bnd hfin rfl)) h)))
  cases hb : (!decide (s = t) && (decide (nearW s ms = []) && decide (ms.length < 3))) with
  | false =>
    refine ⟨_, _, _, _, ms, hv, fun _ => rfl, key ?_⟩
    unfold iteA
    refine bnd e5 ?_
    rw [hb]; rfl
  | true =>
    simp only [Bool.and_eq_true, Bool.not_eq_true', decide_eq_false_iff_not, decide_eq_true_eq] at hb
    obtain ⟨h1, h2, h3⟩ := hb
    refine ⟨_, _, _, _, ms ++ [(s, t)], ⟨?_, ?_, ?_, ?_⟩, fun _ => rfl, key ?_⟩
    · rw [List.length_append, List.length_singleton]; omega
    · intro m hm
      rcases List.mem_append.mp hm with hm | hm
      · exact hv.ok m hm
      · rw [List.mem_singleton.mp hm]
        have k1 := folds_ok s hs
        have k2 := folds_ok t ht
        exact ⟨h1, k1, k2.1, k2.2.1⟩
    · intro m hm
      rcases List.mem_append.mp hm with hm | hm
      · exact hv.fo m hm
      · rw [List.mem_singleton.mp hm]; exact ⟨hs, ht⟩
    · refine List.pairwise_append.mpr ⟨hv.anti, List.pairwise_singleton _ _, fun a ha b hb => ?_⟩
      rw [List.mem_singleton.mp hb]
      cases hr : rel a.1 s with
      | false => rfl
      | true =>
        have : a.1 ∈ nearW s ms := List.mem_filterMap.mpr ⟨a, ha, by rw [if_pos hr]⟩
        rw [h2] at this; cases this
    · unfold iteA
      refine bnd e5 ?_
      rw [show (!decide (s = t) && (decide (nearW s ms = []) && decide (ms.length < 3))) = true from by simp [h1, h2, h3]]
      refine bnd (b := .dat .none) (st1 := lmF D (some (.dat (.int (i : Int)))) (some (.dat (.int (n : Int)))) (some (wA t)) (some (.dat (fD (nearW s ms)))) c0 (some (wA s)) c2 (ms ++ [(s, t)])) ?_ rfl
      unfold methA
      refine bnd (gL rfl) (bnd (gd_list (l := ms.map mA) rfl) (bnd (ls1 (bnd (ls2 (gC (r := 1) rfl rfl) (gL rfl)) rfl)) ?_))
      show (if (ms.map mA).length < 900 then (some (AV.dat .none, (⟨_, _⟩ : St)) : Option (AV × St)) else none) = _
      have hmap : (ms ++ [(s, t)]).map mA = ms.map mA ++ [AV.dat (.tuple [wD s, wD t])] := by rw [List.map_append]; rfl
      have hF : lmF D (some (.dat (.int (i : Int)))) (some (.dat (.int (n : Int)))) (some (wA t)) (some (.dat (fD (nearW s ms)))) c0 (some (wA s)) c2 (ms ++ [(s, t)]) =
          ⟨(lmF D (some (.dat (.int (i : Int)))) (some (.dat (.int (n : Int)))) (some (wA t)) (some (.dat (fD (nearW s ms)))) c0 (some (wA s)) c2 ms).loc, [c0, .cell (some (wA s)), c2, .list (ms.map mA ++ [AV.dat (.tuple [wD s, wD t])])]⟩ := by rw [← hmap]
      rw [if_pos (by rw [List.length_map]; omega), hF]
      rfl
include hns in
theorem lm_call (loc : List (Option AV)) : ∃ c c2 ms, Valid ms ∧ (∀ n, okAO n (.cell c) = true) ∧ (∀ n, okAO n c2 = true) ∧ callA F_law_moves (m_law_moves D ns).1 [.ext D] ⟨loc, [c0]⟩ = some (.ref 3, ⟨loc, [c0, .cell c, c2, .list (ms.map mA)]⟩) := by
  obtain ⟨st', h1, k, x, g, nr, c, ms, hv, hc, h2⟩ := forA_inv (src := constSrc ((List.range 4).map fun i => AV.dat (.int (i : Nat)))) (ta := fun x => setL 4 x) (mb := lmB D ns) (xs := (List.range 4).map fun i => AV.dat (.int (i : Nat)))
    (I := fun i st => ∃ k x g nr c ms, Valid ms ∧ (∀ n, okAO n (.cell c) = true) ∧ st = lmF D k x g nr c0 c (.cell (some (.dat (.int 2)))) ms) (fun _ _ _ => rfl)
    (fun i av st ⟨k, x, g, nr, c, ms, hv, _, hst⟩ hav => by
      subst hst
      rw [List.getElem?_map] at hav
      obtain ⟨j, hj, rfl⟩ := Option.map_eq_some_iff.mp hav
      obtain ⟨hlt, hget⟩ := List.getElem?_eq_some_iff.mp hj
      rw [List.length_range] at hlt
      rw [List.getElem_range] at hget
      subst hget
      obtain ⟨x', g', nr', c', ms', hv', hc', hb⟩ := lm_body hns (D := D) (c0 := c0) (c2 := .cell (some (.dat (.int 2)))) hlt (x := x) (g := g) (nr := nr) (c := c) hv
      exact ⟨_, _, rfl, hb, some (.dat (.int (i : Nat))), x', g', nr', c', ms', hv', hc', rfl⟩)
    100 0 (lmF D none none none none c0 none (.cell (some (.dat (.int 2)))) []) ⟨none, none, none, none, none, [], ⟨by decide, (fun _ h => nomatch h), (fun _ h => nomatch h), .nil⟩, fun _ => rfl, rfl⟩ (Nat.zero_le _) (by decide)
  refine ⟨c, .cell (some (.dat (.int 2))), ms, hv, hc, fun _ => rfl, ?_⟩
  have h3 : (m_law_moves D ns).1 ⟨[AV.ext D].map some ++ restLoc F_law_moves.rest 1, [c0] ++ F_law_moves.ks.map fun _ => .cell none⟩ = some (.ret (.ref 3), st') := by
    rw [lm_eq]
    refine sq (st1 := ⟨[some (.ext D), some (.dat (.list [.int 20, .int 27, .int 34, .int 0])), none, none, none, none, some (.ref 1), none, none], [c0, .cell none]⟩) rfl
      (sq (st1 := ⟨[some (.ext D), some (.dat (.list [.int 20, .int 27, .int 34, .int 0])), some (.dat (fD files)), none, none, none, some (.ref 1), none, none], [c0, .cell none, .cell (some (.dat (.int 2)))]⟩) (bnd (folders_3 _ _ _) rfl)
      (sq (st1 := lmF D none none none none c0 none (.cell (some (.dat (.int 2)))) []) rfl (sq (st1 := st') (bnd (b := constSrc ((List.range 4).map fun i => AV.dat (.int (i : Nat)))) (st1 := lmF D none none none none c0 none (.cell (some (.dat (.int 2)))) []) rfl h1) ?_)))
    rw [h2]
    exact bnd (gL rfl) rfl
  have h4 := callA_of (F := F_law_moves) (mb := (m_law_moves D ns).1) (args := [.ext D]) (st := ⟨loc, [c0]⟩) rfl h3
  rw [h4, h2]
end
end Mine

open PySem PySem.W PyProof.Rows PySem.Calls PySem.Spec
set_option Elab.async false
namespace Mine
set_option maxRecDepth 100000
set_option maxHeartbeats 1000000
/-! texts and waits -/
theorem callA_of0 {F : FnS} {mb : AM AF} {args : List AV} {loc : List (Option AV)} {H : List AO} {st' : St} {v : AV} (hk : F.ks = []) (hl : args.length = F.pars.length) (h : mb ⟨args.map some ++ restLoc F.rest H.length, H⟩ = some (.ret v, st')) :
    callA F mb args ⟨loc, H⟩ = some (v, ⟨loc, st'.heap⟩) := callA_of hl (by rw [hk, List.map_nil, List.append_nil]; exact h)
noncomputable def txt (w : Word) : Str := match m_law_text.1 ⟨[some (wA w), none, none], []⟩ with
  | some (.ret (.dat (.str x)), _) => x
  | _ => ""
noncomputable def viewR (x : Option (AF × St)) : Option (AF × List AO) := x.map fun p => (p.1, p.2.heap)
theorem six {P : Word → Prop} (h0 : P [0]) (h1 : P [1]) (h2 : P [0, 0]) (h3 : P [0, 1]) (h4 : P [1, 0]) (h5 : P [1, 1]) : ∀ w ∈ folds, P w := by
  intro w hw
  have : w = [0] ∨ w = [1] ∨ w = [0, 0] ∨ w = [0, 1] ∨ w = [1, 0] ∨ w = [1, 1] := by simpa [folds, files] using hw
  rcases this with rfl | rfl | rfl | rfl | rfl | rfl
  · exact h0
  · exact h1
  · exact h2
  · exact h3
  · exact h4
  · exact h5
theorem text_run : ∀ w ∈ folds, ∀ H : List AO, viewR (m_law_text.1 ⟨[some (wA w), none, none], H⟩) = some (.ret (.dat (.str (txt w))), H) :=
  six (fun H => by kernel_rfl) (fun H => by kernel_rfl) (fun H => by kernel_rfl) (fun H => by kernel_rfl) (fun H => by kernel_rfl) (fun H => by kernel_rfl)
theorem text_call {w : Word} (hw : w ∈ folds) (st : St) : callA F_law_text m_law_text.1 [wA w] st = some (.dat (.str (txt w)), st) := by
  obtain ⟨loc, H⟩ := st
  obtain ⟨⟨f, st'⟩, h1, h2⟩ := Option.map_eq_some_iff.mp (text_run w hw H)
  obtain ⟨h3, h4⟩ := Prod.mk.inj h2
  dsimp only at h3 h4
  rw [h3] at h1
  rw [callA_of0 (F := F_law_text) rfl rfl h1, h4]
noncomputable def anA : AV → AM AV := listGenA ((methA (getL 0) isStrA [AM.pure (AV.dat (PyData.str (Str.ofString "/")))] rstripA).bind fun v => (setL 0 v).bind fun _ => AM.pure AF.next)
  ((methA (getL 0) isStrA [AM.pure (AV.dat (PyData.str (Str.ofString "/")))] rstripA).bind fun x => truthA x) (getL 0)
  (((listA [getL 0]).bind (callA F_split m_split.1)).bind fun a => (unpackA [fun x => setL 0 x, fun x => setL 1 x] a).bind fun _ => AM.pure AF.next) 20
noncomputable def anc (w : Word) : List PyData := match anA (.dat (.str (txt w))) ⟨[], []⟩ with
  | some (.dat (.list l), _) => l
  | _ => []
theorem anc_call : ∀ w ∈ folds, ∀ st, anA (.dat (.str (txt w))) st = some (.dat (.list (anc w)), st) :=
  six (fun st => by kernel_rfl) (fun st => by kernel_rfl) (fun st => by kernel_rfl) (fun st => by kernel_rfl) (fun st => by kernel_rfl) (fun st => by kernel_rfl)
noncomputable def inB (a b : Word) : Bool := (anc b).any fun y => PyData.eqv y (.str (txt a))
theorem in_all : folds.all (fun a => folds.all fun b => okD (.str (txt a)) && okDs (anc b) && ((inB a b || inB b a) == rel b a)) = true := by kernel_rfl
theorem in_call {a b : Word} (ha : a ∈ folds) (hb : b ∈ folds) (st : St) : inA (.dat (.str (txt a))) (.dat (.list (anc b))) st = some (.dat (.bool (inB a b)), st) := by
  have h := List.all_eq_true.mp (List.all_eq_true.mp in_all a ha) b hb
  simp only [Bool.and_eq_true] at h
  unfold inA
  dsimp only
  rw [if_pos (by rw [h.1.1, h.1.2]; rfl)]
  rfl
theorem in_rel {a b : Word} (ha : a ∈ folds) (hb : b ∈ folds) : (inB a b || inB b a) = rel b a := by
  have h := List.all_eq_true.mp (List.all_eq_true.mp in_all a ha) b hb
  simp only [Bool.and_eq_true] at h
  exact beq_iff_eq.mp h.2
noncomputable def lwO : AM Bool := (((getL 3).bind fun a => (getL 7).bind fun b => getA a b).bind fun a => (((getL 4).bind fun a => (getL 6).bind fun b => getA a b).bind anA).bind fun b => (inA a b).bind fun x => truthA x).bind fun b => match b with
  | true => AM.pure true
  | false => (((getL 4).bind fun a => (getL 6).bind fun b => getA a b).bind fun a => (((getL 3).bind fun a => (getL 7).bind fun b => getA a b).bind anA).bind fun b => (inA a b).bind fun x => truthA x).bind fun b => match b with
    | true => AM.pure true
    | false => AM.pure false
noncomputable def lwC : AM Bool := ((getL 6).bind fun a => (getL 7).bind fun b => (eqA true a b).bind fun x => truthA x).bind fun b => match b with
  | true => lwO.bind fun b => match b with
    | true => AM.pure true
    | false => AM.pure false
  | false => AM.pure false
theorem getA_at {ds : List PyData} {i : Nat} {d : PyData} {st : St} (hi : i < 1000) (h : ds[i]? = some d) : getA (.dat (.list ds)) (.dat (.int (i : Int))) st = some (.dat d, st) := by
  show (if 0 ≤ (i : Int) ∧ (i : Int) < 1000 then match ds[(i : Int).toNat]? with | some d => (some (AV.dat d, st) : Option (AV × St)) | none => none else none) = _
  rw [if_pos (by omega), Int.toNat_natCast, h]
theorem lwO_run {st : St} {ss gs : List PyData} {i j : Nat} {s g : Word} (h3 : getL 3 st = some (.dat (.list ss), st)) (h4 : getL 4 st = some (.dat (.list gs), st)) (h6 : getL 6 st = some (.dat (.int (i : Int)), st)) (h7 : getL 7 st = some (.dat (.int (j : Int)), st))
    (hs : ss[j]? = some (.str (txt s))) (hg : gs[i]? = some (.str (txt g))) (fs : s ∈ folds) (fg : g ∈ folds) (hi : i < 1000) (hj : j < 1000) : lwO st = some (rel g s, st) := by
  rw [← in_rel fs fg]
  unfold lwO
  refine bnd (bnd (bnd h3 (bnd h7 (getA_at hj hs))) (bnd (bnd (bnd h4 (bnd h6 (getA_at hi hg))) (anc_call g fg st)) (bnd (in_call fs fg st) rfl))) ?_
  cases h : inB s g with
  | true => rfl
  | false =>
    refine bnd (bnd (bnd h4 (bnd h6 (getA_at hi hg))) (bnd (bnd (bnd h3 (bnd h7 (getA_at hj hs))) (anc_call s fs st)) (bnd (in_call fg fs st) rfl))) ?_
    cases inB g s <;> rfl
theorem eqA_int {st : St} (i j : Nat) : eqA true (.dat (.int (i : Int))) (.dat (.int (j : Int))) st = some (.dat (.bool (!decide (i = j))), st) := by
  have h1 : ∀ k : Int, okD (.int k) = true := fun k => by unfold okD; simp [PyData.canLay0, PyData.depth]
  have h2 : PyData.eqv (.int (i : Int)) (.int (j : Int)) = decide (i = j) := by
    rw [PyData.eqv]
    exact decide_eq_decide.mpr Int.ofNat_inj
  unfold eqA
  simp only [dataOf, h1, h2, Bool.and_self, if_true]
theorem lwC_run {st : St} {ss gs : List PyData} {i j : Nat} {s g : Word} (h3 : getL 3 st = some (.dat (.list ss), st)) (h4 : getL 4 st = some (.dat (.list gs), st)) (h6 : getL 6 st = some (.dat (.int (i : Int)), st)) (h7 : getL 7 st = some (.dat (.int (j : Int)), st))
    (hs : ss[j]? = some (.str (txt s))) (hg : gs[i]? = some (.str (txt g))) (fs : s ∈ folds) (fg : g ∈ folds) (hi : i < 1000) (hj : j < 1000) : lwC st = some (!decide (i = j) && rel g s, st) := by
  unfold lwC
  refine bnd (bnd h6 (bnd h7 (bnd (eqA_int i j) rfl))) ?_
  cases decide (i = j) with
  | true => rfl
  | false =>
    refine bnd (lwO_run h3 h4 h6 h7 hs hg fs fg hi hj) ?_
    cases rel g s <;> rfl
end Mine

open PySem PySem.W PyProof.Rows PySem.Calls PySem.Spec
set_option Elab.async false
namespace Mine
set_option maxRecDepth 100000
set_option maxHeartbeats 1000000
/-! the law, up to its last loop -/
noncomputable abbrev lwS (D : Addr) (cnt src gls wts i j fl du sm rf od so ri : Option AV) (H : List AO) : St := ⟨[some (.ext D), some (.ref 0), cnt, src, gls, wts, i, j, fl, du, sm, rf, od, so, ri], H⟩
noncomputable def lwPat : List Bool := [false, true, false, false, false, false, false, false, false, false, false, false, false, false, false]
noncomputable def lwX (q : Nat) : AM (List AV) := compA 2 lwPat (iterT (getC 1)) (fun x => unpackA [fun x => setL 0 x, fun x => setL 1 x] x) (AM.pure true) (emitA ((listA [getL q]).bind (callA F_law_text m_law_text.1))) 100
noncomputable def lwA : AM AF := (methA (getL 5) isListA [(listA [getL 6, getL 7]).bind tupA] appendA).bind fun _ => AM.pure AF.next
noncomputable def lwW : AM AF := (iterM ((listA [getL 2]).bind rangeA)).bind fun src => forA src (fun x => setL 6 x) ((iterM ((listA [getL 2]).bind rangeA)).bind fun src => forA src (fun x => setL 7 x) (iteA lwC lwA (AM.pure AF.next)) 100 0) 100 0
noncomputable def lwOb : AM AF := seqA (((listA [getL 2, getL 5]).bind (callA F_law_sorter m_law_sorter.1)).bind fun v => (setL 13 v).bind fun _ => AM.pure AF.next)
  (seqA (((listA [getL 13]).bind (callA F_law_refused m_law_refused.1)).bind fun v => (setL 11 v).bind fun _ => AM.pure AF.next)
  (seqA ((((listA [getL 8, (compA 1 [false, true, false, false, false, false, false, false, false, false, false, false, false, false, false] (iterM (getL 12)) (fun x => setL 0 x) (AM.pure true) (emitA ((getC 2).bind fun a => (getL 0).bind fun b => getA a b)) 100).bind finD]).bind (callA F_law_one_by_one m_law_one_by_one.1)).bind fun a => (getL 9).bind fun b => eqA false a b).bind fun v => (setL 14 v).bind fun _ => AM.pure AF.next)
  (seqA (iteA (((listA [getL 13, getL 12]).bind (callA F_law_taken m_law_taken.1)).bind fun a => (getL 14).bind fun b => (eqA true a b).bind fun x => truthA x) ((AM.pure (AV.dat (PyData.bool false))).bind fun v => AM.pure (AF.ret v)) (AM.pure AF.next))
    (((getL 10).bind fun a => (truthA a).bind fun b => match b with
      | true => AM.pure a
      | false => getL 14).bind fun v => (setL 10 v).bind fun _ => AM.pure AF.next))))
noncomputable def lwL : AM AF := seqA ((iterM ((listA [getL 2]).bind (callA F_law_orders m_law_orders.1))).bind fun src => forA src (fun x => setL 12 x) (scopeF lwOb) 100 0) (((getL 11).bind fun a => (getL 10).bind fun b => eqA true a b).bind fun v => AM.pure (AF.ret v))
theorem lw_eq (D : Addr) (ns : List Int) : (m_law D ns).1 = seqA (((listA [getL 0]).bind (callA F_law_moves (m_law_moves D ns).1)).bind fun v => (setC 1 v).bind fun _ => AM.pure AF.next)
  (seqA (((listA [getC 1]).bind lenA).bind fun v => (setL 2 v).bind fun _ => AM.pure AF.next)
  (seqA ((lwX 0).bind fun l => (finD l).bind fun av => (setL 3 av).bind fun _ => AM.pure AF.next)
  (seqA ((lwX 1).bind fun l => (finD l).bind fun av => (setL 4 av).bind fun _ => AM.pure AF.next)
  (seqA (newListA.bind fun v => (setL 5 v).bind fun _ => AM.pure AF.next)
  (seqA lwW
  (seqA ((callA F_law_folders m_law_folders.1 []).bind fun v => (setL 8 v).bind fun _ => AM.pure AF.next)
  (seqA (((listA [getL 8, getC 1]).bind (callA F_law_at_once m_law_at_once.1)).bind fun v => (setL 9 v).bind fun _ => AM.pure AF.next)
  (seqA ((AM.pure (AV.dat (PyData.bool false))).bind fun v => (setL 10 v).bind fun _ => AM.pure AF.next)
  (seqA ((AM.pure (AV.dat (PyData.bool false))).bind fun v => (setL 11 v).bind fun _ => AM.pure AF.next) lwL))))))))) := rfl
section
variable {D : Addr} {ms : List Mv} (hv : Valid ms) {c1 c2 : AO}
noncomputable abbrev lwQ (a b : Option AV) (c1 c2 : AO) (ms : List Mv) : St := ⟨[a, b, none, some (.ref 0), none, none, none, none, none, none, none, none, none, none, none, none, none], [.cell (some (.ref 3)), c1, c2, .list (ms.map mA)]⟩
include hv in
theorem lwX_run (q : Nat) (pr : Mv → Word) (hq : (q = 0 ∧ pr = Prod.fst) ∨ (q = 1 ∧ pr = Prod.snd)) {cnt src : Option AV} : lwX q (lwS D cnt src none none none none none none none none none none none [.cell (some (.ref 3)), c1, c2, .list (ms.map mA)]) =
    some ((ms.map fun m => PyData.str (txt (pr m))).map .dat, lwS D cnt src none none none none none none none none none none none [.cell (some (.ref 3)), c1, c2, .list (ms.map mA)]) := by
  have hpr : ∀ m ∈ ms, pr m ∈ folds ∧ getL q (lwQ (some (wA m.1)) (some (wA m.2)) c1 c2 ms) = some (wA (pr m), lwQ (some (wA m.1)) (some (wA m.2)) c1 c2 ms) := fun m hm => by
    rcases hq with ⟨rfl, rfl⟩ | ⟨rfl, rfl⟩
    · exact ⟨(hv.fo m hm).1, gL rfl⟩
    · exact ⟨(hv.fo m hm).2, gL rfl⟩
  have hlen := hv.len
  obtain ⟨st', h1, a, b, h2⟩ := ctA_list (src := trkSrc 3) (ta := fun x => unpackA [fun x => setL 0 x, fun x => setL 1 x] x) (mt := AM.pure true) (ma := emitA ((listA [getL q]).bind (callA F_law_text m_law_text.1))) ms mA (fun m => some (AV.dat (.str (txt (pr m)))))
    (fun st => ∃ a b, st = lwQ a b c1 c2 ms) (fun st ⟨a, b, e⟩ => by subst e; rfl)
    (fun m hmm st l' ⟨a, b, hst⟩ hl => by
      subst hst
      obtain ⟨k1, k2⟩ := hpr m hmm
      refine ⟨lwQ (some (wA m.1)) (some (wA m.2)) c1 c2 ms, lwQ (some (wA m.1)) (some (wA m.2)) c1 c2 ms, true, rfl, rfl, _, lwQ (some (wA m.1)) (some (wA m.2)) c1 c2 ms, rfl, ?_, _, _, rfl⟩
      unfold emitA
      refine bnd (bnd (ls1 k2) (text_call k1 _)) ?_
      rw [if_pos hl]; rfl) 100 0 [] (lwQ none none c1 c2 ms) ⟨none, none, rfl⟩ (by omega) (by simp; omega) (Nat.zero_le _)
  unfold lwX compA
  refine bnd (b := trkSrc 3) (st1 := lwS D cnt src none none none none none none none none none none none [.cell (some (.ref 3)), c1, c2, .list (ms.map mA)]) rfl ?_
  dsimp only
  have h1' : ctA (trkSrc 3) (fun x => unpackA [fun x => setL 0 x, fun x => setL 1 x] x) (AM.pure true) (emitA ((listA [getL q]).bind (callA F_law_text m_law_text.1))) 100 0 [] ⟨List.replicate 2 none ++ maskLoc lwPat (lwS D cnt src none none none none none none none none none none none [.cell (some (.ref 3)), c1, c2, .list (ms.map mA)]).loc, [.cell (some (.ref 3)), c1, c2, .list (ms.map mA)]⟩ = _ := h1
  rw [h1', h2]
  dsimp only
  rw [List.nil_append, List.drop_zero, show (ms.filterMap fun m => some (AV.dat (.str (txt (pr m))))) = ms.map fun m => AV.dat (.str (txt (pr m))) from congrFun (List.filterMap_eq_map (f := fun m => AV.dat (.str (txt (pr m))))) ms, List.map_map]
  rfl
noncomputable def pD (p : Nat × Nat) : AV := .dat (.tuple [iD p.1, iD p.2])
noncomputable def rB (ms : List Mv) (i j : Nat) : Bool := rel (ms.getD i default).2 (ms.getD j default).1
noncomputable def wF (r : Nat → Nat → Bool) (i j : Nat) : Option (Nat × Nat) := if (!decide (i = j) && r i j) = true then some (i, j) else none
noncomputable def wRow (r : Nat → Nat → Bool) (i k : Nat) : List (Nat × Nat) := (List.range k).filterMap (wF r i)
noncomputable def wAll (r : Nat → Nat → Bool) (n k : Nat) : List (Nat × Nat) := (List.range k).flatMap fun i => wRow r i n
noncomputable def sD (ms : List Mv) (pr : Mv → Word) : AV := .dat (.list (ms.map fun m => PyData.str (txt (pr m))))
noncomputable abbrev lwT (D : Addr) (ms : List Mv) (c1 c2 : AO) (i j : Option AV) (W : List (Nat × Nat)) : St := lwS D (some (.dat (.int (ms.length : Nat)))) (some (sD ms Prod.fst)) (some (sD ms Prod.snd)) (some (.ref 4)) i j none none none none none none none [.cell (some (.ref 3)), c1, c2, .list (ms.map mA), .list (W.map pD)]
theorem wlen (r : Nat → Nat → Bool) (n k : Nat) : (wAll r n k).length ≤ k * n := by
  unfold wAll
  rw [List.length_flatMap]
  induction k with
  | zero => simp
  | succ k ih =>
    rw [List.range_succ, List.map_append, List.sum_append_nat, List.map_singleton, List.sum_singleton, Nat.succ_mul]
    have : (wRow r k n).length ≤ n := by unfold wRow; exact Nat.le_trans (List.length_filterMap_le _ _) (by rw [List.length_range]; exact Nat.le_refl _)
    omega
theorem range_it {st : St} {n : Nat} (hn : n < 1000) (h : getL 2 st = some (.dat (.int (n : Nat)), st)) : iterM ((listA [getL 2]).bind rangeA) st = some (constSrc ((List.range n).map fun i => AV.dat (.int (i : Nat))), st) := by
  unfold iterM
  refine bnd (bnd (ls1 h) rfl) ?_
  show (match (if 0 ≤ (n : Int) ∧ (n : Int) < 1000 then some ((List.range (n : Int).toNat).map fun i => AV.dat (.int (i : Nat))) else none) with | some l => AM.pure (constSrc l) | none => AM.fail) _ = _
  rw [if_pos (by omega), Int.toNat_natCast]
  rfl
include hv in
theorem lwI_run {i j : Nat} (hi : i < ms.length) (hj : j < ms.length) {W : List (Nat × Nat)} (hW : W.length < 900) :
    iteA lwC lwA (AM.pure AF.next) (lwT D ms c1 c2 (some (.dat (.int (i : Nat)))) (some (.dat (.int (j : Nat)))) W) = some (.next, lwT D ms c1 c2 (some (.dat (.int (i : Nat)))) (some (.dat (.int (j : Nat)))) (W ++ (wF (rB ms) i j).toList)) := by
  have hlen := hv.len
  have hs : (ms.map fun m => PyData.str (txt m.1))[j]? = some (.str (txt (ms.getD j default).1)) := by
    rw [List.getElem?_map, List.getElem?_eq_getElem hj, List.getD_eq_getElem?_getD, List.getElem?_eq_getElem hj]; rfl
  have hg : (ms.map fun m => PyData.str (txt m.2))[i]? = some (.str (txt (ms.getD i default).2)) := by
    rw [List.getElem?_map, List.getElem?_eq_getElem hi, List.getD_eq_getElem?_getD, List.getElem?_eq_getElem hi]; rfl
  have fs : (ms.getD j default).1 ∈ folds := by
    rw [List.getD_eq_getElem?_getD, List.getElem?_eq_getElem hj]; exact (hv.fo _ (List.getElem_mem hj)).1
  have fg : (ms.getD i default).2 ∈ folds := by
    rw [List.getD_eq_getElem?_getD, List.getElem?_eq_getElem hi]; exact (hv.fo _ (List.getElem_mem hi)).2
  have hc := lwC_run (st := lwT D ms c1 c2 (some (.dat (.int (i : Nat)))) (some (.dat (.int (j : Nat)))) W) (gL rfl) (gL rfl) (gL rfl) (gL rfl) hs hg fs fg (by omega) (by omega)
  unfold iteA
  refine bnd hc ?_
  unfold wF rB
  cases hb : (!decide (i = j) && rel (ms.getD i default).2 (ms.getD j default).1) with
  | false =>
    rw [if_neg (by decide)]
    simp only [Option.toList_none, List.append_nil]
    rfl
  | true =>
    rw [if_pos rfl]
    simp only [Option.toList_some]
    unfold lwA
    refine bnd (b := .dat .none) (st1 := lwT D ms c1 c2 (some (.dat (.int (i : Nat)))) (some (.dat (.int (j : Nat)))) (W ++ [(i, j)])) ?_ rfl
    unfold methA
    refine bnd (gL rfl) (bnd (gd_list (l := W.map pD) rfl) (bnd (ls1 (bnd (ls2 (gL rfl) (gL rfl)) rfl)) ?_))
    show (if (W.map pD).length < 900 then (some (AV.dat .none, (⟨_, _⟩ : St)) : Option (AV × St)) else none) = _
    have hF : lwT D ms c1 c2 (some (.dat (.int (i : Nat)))) (some (.dat (.int (j : Nat)))) (W ++ [(i, j)]) = ⟨(lwT D ms c1 c2 (some (.dat (.int (i : Nat)))) (some (.dat (.int (j : Nat)))) W).loc, [.cell (some (.ref 3)), c1, c2, .list (ms.map mA), .list (W.map pD ++ [pD (i, j)])]⟩ := by
      have hmap : (W ++ [(i, j)]).map pD = W.map pD ++ [pD (i, j)] := by rw [List.map_append]; rfl
      rw [← hmap]
    rw [if_pos (by rw [List.length_map]; exact hW), hF]
    rfl
include hv in
theorem lwW_run : ∃ i j, lwW (lwT D ms c1 c2 none none []) = some (.next, lwT D ms c1 c2 i j (wAll (rB ms) ms.length ms.length)) := by
  have hlen := hv.len
  obtain ⟨st', h1, i, j, h2⟩ := forA_inv (src := constSrc ((List.range ms.length).map fun i => AV.dat (.int (i : Nat)))) (ta := fun x => setL 6 x) (mb := (iterM ((listA [getL 2]).bind rangeA)).bind fun src => forA src (fun x => setL 7 x) (iteA lwC lwA (AM.pure AF.next)) 100 0) (xs := (List.range ms.length).map fun i => AV.dat (.int (i : Nat)))
    (I := fun k st => ∃ i j, st = lwT D ms c1 c2 i j (wAll (rB ms) ms.length k)) (fun _ _ _ => rfl)
    (fun k av st ⟨i, j, hst⟩ hav => by
      subst hst
      rw [List.getElem?_map] at hav
      obtain ⟨k', hk', rfl⟩ := Option.map_eq_some_iff.mp hav
      obtain ⟨hlt, hget⟩ := List.getElem?_eq_some_iff.mp hk'
      rw [List.length_range] at hlt
      rw [List.getElem_range] at hget
      subst hget
      have hw := wlen (rB ms) ms.length k
      have hw2 : k * ms.length ≤ 9 := by
        have h1 : k ≤ 3 := by omega
        exact Nat.le_trans (Nat.mul_le_mul h1 hlen) (by decide)
      obtain ⟨st', h1, j', h2⟩ := forA_inv (src := constSrc ((List.range ms.length).map fun i => AV.dat (.int (i : Nat)))) (ta := fun x => setL 7 x) (mb := iteA lwC lwA (AM.pure AF.next)) (xs := (List.range ms.length).map fun i => AV.dat (.int (i : Nat)))
        (I := fun q st => ∃ j, st = lwT D ms c1 c2 (some (.dat (.int (k : Nat)))) j (wAll (rB ms) ms.length k ++ wRow (rB ms) k q)) (fun _ _ _ => rfl)
        (fun q av st ⟨j, hst⟩ hav => by
          subst hst
          rw [List.getElem?_map] at hav
          obtain ⟨q', hq', rfl⟩ := Option.map_eq_some_iff.mp hav
          obtain ⟨hltq, hgetq⟩ := List.getElem?_eq_some_iff.mp hq'
          rw [List.length_range] at hltq
          rw [List.getElem_range] at hgetq
          subst hgetq
          have hrow : (wRow (rB ms) k q).length ≤ q := by unfold wRow; exact Nat.le_trans (List.length_filterMap_le _ _) (by rw [List.length_range]; exact Nat.le_refl _)
          refine ⟨_, _, rfl, lwI_run hv hlt hltq (by rw [List.length_append]; omega), some (.dat (.int (q : Nat))), ?_⟩
          rw [List.append_assoc]
          congr 3
          unfold wRow
          rw [List.range_succ, List.filterMap_append]
          simp only [List.filterMap_cons, List.filterMap_nil]
          cases wF (rB ms) k q <;> rfl)
        100 0 (lwT D ms c1 c2 (some (.dat (.int (k : Nat)))) j (wAll (rB ms) ms.length k)) ⟨j, by simp [wRow]⟩ (Nat.zero_le _) (by rw [List.length_map, List.length_range]; omega)
      refine ⟨lwT D ms c1 c2 (some (.dat (.int (k : Nat)))) j (wAll (rB ms) ms.length k), st', rfl, bnd (range_it (n := ms.length) (by omega) (gL rfl)) h1, some (.dat (.int (k : Nat))), j', ?_⟩
      rw [h2, List.length_map, List.length_range]
      congr 2
      unfold wAll
      rw [List.range_succ, List.flatMap_append]
      simp)
    100 0 (lwT D ms c1 c2 none none []) ⟨none, none, rfl⟩ (Nat.zero_le _) (by rw [List.length_map, List.length_range]; omega)
  refine ⟨i, j, ?_⟩
  unfold lwW
  refine bnd (range_it (n := ms.length) (by omega) (gL rfl)) (h1.trans ?_)
  rw [h2, List.length_map, List.length_range]
end
end Mine

open PySem PySem.W PyProof.Rows PySem.Calls PySem.Spec
set_option Elab.async false
namespace Mine
set_option maxRecDepth 100000
set_option maxHeartbeats 1000000
/-! the sorter, by its waits -/
noncomputable abbrev hV (x1 x2 l3 : AO) (W : List (Nat × Nat)) (x5 x6 l7 x8 : AO) : List AO := [.cell (some (.ref 3)), x1, x2, l3, .list (W.map pD), x5, x6, l7, x8]
noncomputable def hD (W : List (Nat × Nat)) : List AO := hV .dead .dead .dead W .dead .dead .dead .dead
noncomputable def srA (n : Nat) (H : List AO) : Option (AV × AV × List AO) := match callA F_law_sorter m_law_sorter.1 [.dat (.int (n : Nat)), .ref 4] ⟨[], H⟩ with
  | some (v, st) => match callA F_law_refused m_law_refused.1 [v] st with
    | some (b, st') => some (v, b, st'.heap)
    | none => none
  | none => none
noncomputable def tkA (v : AV) (o : List Nat) (H : List AO) : Option (AV × List AO × Bool) := match callA F_law_taken m_law_taken.1 [v, .dat (.list (o.map iD))] ⟨[], H⟩ with
  | some (b, st') => some (b, st'.heap.take 9, decide (9 ≤ st'.heap.length))
  | none => none
noncomputable def orders : Nat → List (List Nat)
  | 0 => [[]]
  | 1 => [[0]]
  | 2 => [[1, 0], [0, 1]]
  | _ => [[2, 1, 0], [1, 2, 0], [1, 0, 2], [2, 0, 1], [0, 2, 1], [0, 1, 2]]
noncomputable def resp (r : Nat → Nat → Bool) : List Nat → Bool
  | [] => true
  | i :: l => l.all (fun j => !r i j) && resp r l
noncomputable def rOf (W : List (Nat × Nat)) (i j : Nat) : Bool := W.any fun p => Nat.beq p.1 i && Nat.beq p.2 j
noncomputable def cycB (n : Nat) (W : List (Nat × Nat)) : Bool := !(orders n).any (resp (rOf W))
noncomputable def tabA (n : Nat) (H : List AO) (c d : AO) : Option (AV × List AO × List (Option (AV × List AO × Bool))) := match srA n H with
  | some (v, b, h) => some (b, h.take 9, (orders n).map fun o => tkA v o (h ++ [c, d]))
  | none => none
noncomputable def Tab (n : Nat) (W : List (Nat × Nat)) : Prop := ∀ x1 x2 l3 x5 x6 l7 x8 c d, tabA n (hV x1 x2 l3 W x5 x6 l7 x8) c d = some (.dat (.bool (cycB n W)), hV x1 x2 l3 W x5 x6 l7 x8, (orders n).map fun o => some (.dat (.bool (resp (rOf W) o)), hV x1 x2 l3 W x5 x6 l7 x8, true))
theorem tb_test : Tab 3 [(0, 1), (1, 2)] := fun _ _ _ _ _ _ _ _ _ => by kernel_rfl
end Mine

open PySem PySem.W PyProof.Rows PySem.Calls PySem.Spec
set_option Elab.async false
namespace Mine
set_option maxRecDepth 100000
set_option maxHeartbeats 8000000
noncomputable def wL (a b c d e f : Bool) : List (Nat × Nat) := (if a then [(0, 1)] else []) ++ ((if b then [(0, 2)] else []) ++ ((if c then [(1, 0)] else []) ++ ((if d then [(1, 2)] else []) ++ ((if e then [(2, 0)] else []) ++ (if f then [(2, 1)] else [])))))
theorem tb_0 : Tab 3 (wL false false false false false false) := fun _ _ _ _ _ _ _ _ _ => by kernel_rfl
theorem tb_1 : Tab 3 (wL false false false false false true) := fun _ _ _ _ _ _ _ _ _ => by kernel_rfl
theorem tb_2 : Tab 3 (wL false false false false true false) := fun _ _ _ _ _ _ _ _ _ => by kernel_rfl
theorem tb_3 : Tab 3 (wL false false false false true true) := fun _ _ _ _ _ _ _ _ _ => by kernel_rfl
theorem tb_4 : Tab 3 (wL false false false true false false) := fun _ _ _ _ _ _ _ _ _ => by kernel_rfl
theorem tb_5 : Tab 3 (wL false false false true false true) := fun _ _ _ _ _ _ _ _ _ => by kernel_rfl
theorem tb_6 : Tab 3 (wL false false false true true false) := fun _ _ _ _ _ _ _ _ _ => by kernel_rfl
theorem tb_7 : Tab 3 (wL false false false true true true) := fun _ _ _ _ _ _ _ _ _ => by kernel_rfl
theorem tb_8 : Tab 3 (wL false false true false false false) := fun _ _ _ _ _ _ _ _ _ => by kernel_rfl
theorem tb_9 : Tab 3 (wL false false true false false true) := fun _ _ _ _ _ _ _ _ _ => by kernel_rfl
theorem tb_10 : Tab 3 (wL false false true false true false) := fun _ _ _ _ _ _ _ _ _ => by kernel_rfl
theorem tb_11 : Tab 3 (wL false false true false true true) := fun _ _ _ _ _ _ _ _ _ => by kernel_rfl
theorem tb_12 : Tab 3 (wL false false true true false false) := fun _ _ _ _ _ _ _ _ _ => by kernel_rfl
theorem tb_13 : Tab 3 (wL false false true true false true) := fun _ _ _ _ _ _ _ _ _ => by kernel_rfl
theorem tb_14 : Tab 3 (wL false false true true true false) := fun _ _ _ _ _ _ _ _ _ => by kernel_rfl
theorem tb_15 : Tab 3 (wL false false true true true true) := fun _ _ _ _ _ _ _ _ _ => by kernel_rfl
theorem tb_16 : Tab 3 (wL false true false false false false) := fun _ _ _ _ _ _ _ _ _ => by kernel_rfl
theorem tb_17 : Tab 3 (wL false true false false false true) := fun _ _ _ _ _ _ _ _ _ => by kernel_rfl
theorem tb_18 : Tab 3 (wL false true false false true false) := fun _ _ _ _ _ _ _ _ _ => by kernel_rfl
theorem tb_19 : Tab 3 (wL false true false false true true) := fun _ _ _ _ _ _ _ _ _ => by kernel_rfl
theorem tb_20 : Tab 3 (wL false true false true false false) := fun _ _ _ _ _ _ _ _ _ => by kernel_rfl
theorem tb_21 : Tab 3 (wL false true false true false true) := fun _ _ _ _ _ _ _ _ _ => by kernel_rfl
theorem tb_22 : Tab 3 (wL false true false true true false) := fun _ _ _ _ _ _ _ _ _ => by kernel_rfl
theorem tb_23 : Tab 3 (wL false true false true true true) := fun _ _ _ _ _ _ _ _ _ => by kernel_rfl
theorem tb_24 : Tab 3 (wL false true true false false false) := fun _ _ _ _ _ _ _ _ _ => by kernel_rfl
theorem tb_25 : Tab 3 (wL false true true false false true) := fun _ _ _ _ _ _ _ _ _ => by kernel_rfl
theorem tb_26 : Tab 3 (wL false true true false true false) := fun _ _ _ _ _ _ _ _ _ => by kernel_rfl
theorem tb_27 : Tab 3 (wL false true true false true true) := fun _ _ _ _ _ _ _ _ _ => by kernel_rfl
theorem tb_28 : Tab 3 (wL false true true true false false) := fun _ _ _ _ _ _ _ _ _ => by kernel_rfl
theorem tb_29 : Tab 3 (wL false true true true false true) := fun _ _ _ _ _ _ _ _ _ => by kernel_rfl
theorem tb_30 : Tab 3 (wL false true true true true false) := fun _ _ _ _ _ _ _ _ _ => by kernel_rfl
theorem tb_31 : Tab 3 (wL false true true true true true) := fun _ _ _ _ _ _ _ _ _ => by kernel_rfl
theorem tb_32 : Tab 3 (wL true false false false false false) := fun _ _ _ _ _ _ _ _ _ => by kernel_rfl
theorem tb_33 : Tab 3 (wL true false false false false true) := fun _ _ _ _ _ _ _ _ _ => by kernel_rfl
theorem tb_34 : Tab 3 (wL true false false false true false) := fun _ _ _ _ _ _ _ _ _ => by kernel_rfl
theorem tb_35 : Tab 3 (wL true false false false true true) := fun _ _ _ _ _ _ _ _ _ => by kernel_rfl
theorem tb_36 : Tab 3 (wL true false false true false false) := fun _ _ _ _ _ _ _ _ _ => by kernel_rfl
theorem tb_37 : Tab 3 (wL true false false true false true) := fun _ _ _ _ _ _ _ _ _ => by kernel_rfl
theorem tb_38 : Tab 3 (wL true false false true true false) := fun _ _ _ _ _ _ _ _ _ => by kernel_rfl
theorem tb_39 : Tab 3 (wL true false false true true true) := fun _ _ _ _ _ _ _ _ _ => by kernel_rfl
theorem tb_40 : Tab 3 (wL true false true false false false) := fun _ _ _ _ _ _ _ _ _ => by kernel_rfl
theorem tb_41 : Tab 3 (wL true false true false false true) := fun _ _ _ _ _ _ _ _ _ => by kernel_rfl
theorem tb_42 : Tab 3 (wL true false true false true false) := fun _ _ _ _ _ _ _ _ _ => by kernel_rfl
theorem tb_43 : Tab 3 (wL true false true false true true) := fun _ _ _ _ _ _ _ _ _ => by kernel_rfl
theorem tb_44 : Tab 3 (wL true false true true false false) := fun _ _ _ _ _ _ _ _ _ => by kernel_rfl
theorem tb_45 : Tab 3 (wL true false true true false true) := fun _ _ _ _ _ _ _ _ _ => by kernel_rfl
theorem tb_46 : Tab 3 (wL true false true true true false) := fun _ _ _ _ _ _ _ _ _ => by kernel_rfl
theorem tb_47 : Tab 3 (wL true false true true true true) := fun _ _ _ _ _ _ _ _ _ => by kernel_rfl
theorem tb_48 : Tab 3 (wL true true false false false false) := fun _ _ _ _ _ _ _ _ _ => by kernel_rfl
theorem tb_49 : Tab 3 (wL true true false false false true) := fun _ _ _ _ _ _ _ _ _ => by kernel_rfl
theorem tb_50 : Tab 3 (wL true true false false true false) := fun _ _ _ _ _ _ _ _ _ => by kernel_rfl
theorem tb_51 : Tab 3 (wL true true false false true true) := fun _ _ _ _ _ _ _ _ _ => by kernel_rfl
theorem tb_52 : Tab 3 (wL true true false true false false) := fun _ _ _ _ _ _ _ _ _ => by kernel_rfl
theorem tb_53 : Tab 3 (wL true true false true false true) := fun _ _ _ _ _ _ _ _ _ => by kernel_rfl
theorem tb_54 : Tab 3 (wL true true false true true false) := fun _ _ _ _ _ _ _ _ _ => by kernel_rfl
theorem tb_55 : Tab 3 (wL true true false true true true) := fun _ _ _ _ _ _ _ _ _ => by kernel_rfl
theorem tb_56 : Tab 3 (wL true true true false false false) := fun _ _ _ _ _ _ _ _ _ => by kernel_rfl
theorem tb_57 : Tab 3 (wL true true true false false true) := fun _ _ _ _ _ _ _ _ _ => by kernel_rfl
theorem tb_58 : Tab 3 (wL true true true false true false) := fun _ _ _ _ _ _ _ _ _ => by kernel_rfl
theorem tb_59 : Tab 3 (wL true true true false true true) := fun _ _ _ _ _ _ _ _ _ => by kernel_rfl
theorem tb_60 : Tab 3 (wL true true true true false false) := fun _ _ _ _ _ _ _ _ _ => by kernel_rfl
theorem tb_61 : Tab 3 (wL true true true true false true) := fun _ _ _ _ _ _ _ _ _ => by kernel_rfl
theorem tb_62 : Tab 3 (wL true true true true true false) := fun _ _ _ _ _ _ _ _ _ => by kernel_rfl
theorem tb_63 : Tab 3 (wL true true true true true true) := fun _ _ _ _ _ _ _ _ _ => by kernel_rfl
theorem tab3 : ∀ a b c d e f : Bool, Tab 3 (wL a b c d e f)
  | false, false, false, false, false, false => tb_0
  | false, false, false, false, false, true => tb_1
  | false, false, false, false, true, false => tb_2
  | false, false, false, false, true, true => tb_3
  | false, false, false, true, false, false => tb_4
  | false, false, false, true, false, true => tb_5
  | false, false, false, true, true, false => tb_6
  | false, false, false, true, true, true => tb_7
  | false, false, true, false, false, false => tb_8
  | false, false, true, false, false, true => tb_9
  | false, false, true, false, true, false => tb_10
  | false, false, true, false, true, true => tb_11
  | false, false, true, true, false, false => tb_12
  | false, false, true, true, false, true => tb_13
  | false, false, true, true, true, false => tb_14
  | false, false, true, true, true, true => tb_15
  | false, true, false, false, false, false => tb_16
  | false, true, false, false, false, true => tb_17
  | false, true, false, false, true, false => tb_18
  | false, true, false, false, true, true => tb_19
  | false, true, false, true, false, false => tb_20
  | false, true, false, true, false, true => tb_21
  | false, true, false, true, true, false => tb_22
  | false, true, false, true, true, true => tb_23
  | false, true, true, false, false, false => tb_24
  | false, true, true, false, false, true => tb_25
  | false, true, true, false, true, false => tb_26
  | false, true, true, false, true, true => tb_27
  | false, true, true, true, false, false => tb_28
  | false, true, true, true, false, true => tb_29
  | false, true, true, true, true, false => tb_30
  | false, true, true, true, true, true => tb_31
  | true, false, false, false, false, false => tb_32
  | true, false, false, false, false, true => tb_33
  | true, false, false, false, true, false => tb_34
  | true, false, false, false, true, true => tb_35
  | true, false, false, true, false, false => tb_36
  | true, false, false, true, false, true => tb_37
  | true, false, false, true, true, false => tb_38
  | true, false, false, true, true, true => tb_39
  | true, false, true, false, false, false => tb_40
  | true, false, true, false, false, true => tb_41
  | true, false, true, false, true, false => tb_42
  | true, false, true, false, true, true => tb_43
  | true, false, true, true, false, false => tb_44
  | true, false, true, true, false, true => tb_45
  | true, false, true, true, true, false => tb_46
  | true, false, true, true, true, true => tb_47
  | true, true, false, false, false, false => tb_48
  | true, true, false, false, false, true => tb_49
  | true, true, false, false, true, false => tb_50
  | true, true, false, false, true, true => tb_51
  | true, true, false, true, false, false => tb_52
  | true, true, false, true, false, true => tb_53
  | true, true, false, true, true, false => tb_54
  | true, true, false, true, true, true => tb_55
  | true, true, true, false, false, false => tb_56
  | true, true, true, false, false, true => tb_57
  | true, true, true, false, true, false => tb_58
  | true, true, true, false, true, true => tb_59
  | true, true, true, true, false, false => tb_60
  | true, true, true, true, false, true => tb_61
  | true, true, true, true, true, false => tb_62
  | true, true, true, true, true, true => tb_63
theorem tb2_0 : Tab 2 [] := fun _ _ _ _ _ _ _ _ _ => by kernel_rfl
theorem tb2_1 : Tab 2 [(0, 1)] := fun _ _ _ _ _ _ _ _ _ => by kernel_rfl
theorem tb2_2 : Tab 2 [(1, 0)] := fun _ _ _ _ _ _ _ _ _ => by kernel_rfl
theorem tb2_3 : Tab 2 [(0, 1), (1, 0)] := fun _ _ _ _ _ _ _ _ _ => by kernel_rfl
theorem tb1_0 : Tab 1 [] := fun _ _ _ _ _ _ _ _ _ => by kernel_rfl
theorem tb0_0 : Tab 0 [] := fun _ _ _ _ _ _ _ _ _ => by kernel_rfl
theorem row0 (r : Nat → Nat → Bool) : wRow r 0 3 = (if r 0 1 then [(0, 1)] else []) ++ (if r 0 2 then [(0, 2)] else []) := by
  show [0, 1, 2].filterMap (wF r 0) = _
  unfold wF
  cases h1 : r 0 1 <;> cases h2 : r 0 2 <;> simp [h1, h2]
theorem row1 (r : Nat → Nat → Bool) : wRow r 1 3 = (if r 1 0 then [(1, 0)] else []) ++ (if r 1 2 then [(1, 2)] else []) := by
  show [0, 1, 2].filterMap (wF r 1) = _
  unfold wF
  cases h1 : r 1 0 <;> cases h2 : r 1 2 <;> simp [h1, h2]
theorem row2 (r : Nat → Nat → Bool) : wRow r 2 3 = (if r 2 0 then [(2, 0)] else []) ++ (if r 2 1 then [(2, 1)] else []) := by
  show [0, 1, 2].filterMap (wF r 2) = _
  unfold wF
  cases h1 : r 2 0 <;> cases h2 : r 2 1 <;> simp [h1, h2]
theorem wAll3 (r : Nat → Nat → Bool) : wAll r 3 3 = wL (r 0 1) (r 0 2) (r 1 0) (r 1 2) (r 2 0) (r 2 1) := by
  show wRow r 0 3 ++ (wRow r 1 3 ++ (wRow r 2 3 ++ [])) = _
  rw [row0, row1, row2]
  unfold wL
  simp only [List.append_assoc, List.append_nil]
theorem wAll2 (r : Nat → Nat → Bool) : wAll r 2 2 = (if r 0 1 then [(0, 1)] else []) ++ (if r 1 0 then [(1, 0)] else []) := by
  show [0, 1].filterMap (wF r 0) ++ ([0, 1].filterMap (wF r 1) ++ []) = _
  unfold wF
  cases h1 : r 0 1 <;> cases h2 : r 1 0 <;> simp [h1, h2]
theorem tab (r : Nat → Nat → Bool) : ∀ n, n ≤ 3 → Tab n (wAll r n n)
  | 0, _ => tb0_0
  | 1, _ => by
    have : wAll r 1 1 = [] := by
      show [0].filterMap (wF r 0) ++ [] = _
      unfold wF
      simp
    rw [this]; exact tb1_0
  | 2, _ => by
    rw [wAll2]
    cases r 0 1 <;> cases r 1 0
    · exact tb2_0
    · exact tb2_2
    · exact tb2_1
    · exact tb2_3
  | 3, _ => by rw [wAll3]; exact tab3 _ _ _ _ _ _
  | n + 4, h => absurd h (by omega)
theorem rOf_wAll (r : Nat → Nat → Bool) {n i j : Nat} (hi : i < n) (hj : j < n) (hij : i ≠ j) : rOf (wAll r n n) i j = r i j := by
  unfold rOf
  cases h : r i j with
  | true =>
    refine List.any_eq_true.mpr ⟨(i, j), ?_, by simp⟩
    unfold wAll wRow
    refine List.mem_flatMap.mpr ⟨i, List.mem_range.mpr hi, List.mem_filterMap.mpr ⟨j, List.mem_range.mpr hj, ?_⟩⟩
    unfold wF
    rw [if_pos (by simp [hij, h])]
  | false =>
    refine List.any_eq_false.mpr fun p hp q => ?_
    unfold wAll wRow at hp
    obtain ⟨a, ha, hp⟩ := List.mem_flatMap.mp hp
    obtain ⟨b, hb, hp⟩ := List.mem_filterMap.mp hp
    unfold wF at hp
    split at hp
    · rename_i hc
      cases hp
      simp only [Bool.and_eq_true] at q
      have e1 := Nat.eq_of_beq_eq_true q.1
      have e2 := Nat.eq_of_beq_eq_true q.2
      subst e1 e2
      simp [h] at hc
    · cases hp
end Mine

open PySem PySem.W PyProof.Rows PySem.Calls PySem.Spec
set_option Elab.async false
namespace Mine
set_option maxRecDepth 100000
set_option maxHeartbeats 1000000
/-! orders of moves -/
theorem resp_iff (r : Nat → Nat → Bool) (o : List Nat) : resp r o = true ↔ o.Pairwise fun i j => r i j = false := by
  induction o with
  | nil => exact ⟨fun _ => .nil, fun _ => rfl⟩
  | cons i o ih =>
    unfold resp
    rw [Bool.and_eq_true, List.pairwise_cons, ih, List.all_eq_true]
    simp only [Bool.not_eq_true']
theorem pw_congr {R S : Nat → Nat → Prop} : ∀ {o : List Nat}, o.Nodup → (∀ i ∈ o, ∀ j ∈ o, i ≠ j → (R i j ↔ S i j)) → (o.Pairwise R ↔ o.Pairwise S)
  | [], _, _ => ⟨fun _ => .nil, fun _ => .nil⟩
  | i :: o, hn, h => by
    rw [List.nodup_cons] at hn
    rw [List.pairwise_cons, List.pairwise_cons, pw_congr hn.2 fun a ha b hb => h a (.tail _ ha) b (.tail _ hb)]
    refine and_congr_left fun _ => forall_congr' fun j => imp_congr_right fun hj => ?_
    exact h i (.head _) j (.tail _ hj) fun e => hn.1 (e ▸ hj)
theorem orders_perm : ∀ n, n ≤ 3 → ∀ o ∈ orders n, o.isPerm (List.range n) = true
  | 0, _ => by decide
  | 1, _ => by decide
  | 2, _ => by decide
  | 3, _ => by decide
  | n + 4, h => absurd h (by omega)
noncomputable def mG (ms : List Mv) (k : Nat) : Mv := ms.getD k default
theorem range_map (ms : List Mv) : (List.range ms.length).map (mG ms) = ms := by
  refine List.ext_getElem (by simp) fun i h1 h2 => ?_
  rw [List.getElem_map, List.getElem_range]
  unfold mG
  rw [List.getD_eq_getElem?_getD, List.getElem?_eq_getElem h2]; rfl
noncomputable def rightB (ms : List Mv) (o : List Nat) : Bool := decide (files.map (seqAll (o.map (mG ms))) = files.map (once ms))
theorem right_resp {ms : List Mv} (hv : Valid ms) {o : List Nat} (ho : o ∈ orders ms.length) : rightB ms o = resp (rOf (wAll (rB ms) ms.length ms.length)) o := by
  have hp : o.Perm (List.range ms.length) := List.isPerm_iff.mp (orders_perm _ hv.len o ho)
  have hL : (o.map (mG ms)).Perm ms := by
    have := hp.map (mG ms)
    rwa [range_map] at this
  have ha : Anti (o.map (mG ms)) := anti_perm hL.symm hv.anti
  have hok : ∀ m ∈ o.map (mG ms), okM m := fun m hm => hv.ok m (hL.mem_iff.mp hm)
  have h1 : files.map (once ms) = files.map (once (o.map (mG ms))) := List.map_congr_left fun w _ => once_perm hL.symm hv.anti w
  have h2 := right_iff ha hok
  have h3 : NoV (o.map (mG ms)) ↔ o.Pairwise fun i j => rB ms i j = false := by
    unfold NoV
    rw [List.pairwise_map]
    exact Iff.rfl
  have h4 := resp_iff (rOf (wAll (rB ms) ms.length ms.length)) o
  have h5 : (o.Pairwise fun i j => rOf (wAll (rB ms) ms.length ms.length) i j = false) ↔ o.Pairwise fun i j => rB ms i j = false := by
    refine pw_congr (hp.nodup_iff.mpr List.nodup_range) fun i hi j hj hij => ?_
    rw [rOf_wAll (rB ms) (List.mem_range.mp (hp.mem_iff.mp hi)) (List.mem_range.mp (hp.mem_iff.mp hj)) hij]
  unfold rightB
  rw [h1]
  cases hr : resp (rOf (wAll (rB ms) ms.length ms.length)) o with
  | true => exact decide_eq_true (h2.mpr (h3.mpr (h5.mp (h4.mp hr))))
  | false =>
    refine decide_eq_false fun e => ?_
    have := h4.mpr (h5.mpr (h3.mp (h2.mp e)))
    rw [hr] at this; cases this
/-! the last loop -/
theorem callA_loc {F : FnS} {mb : AM AF} {args : List AV} {loc : List (Option AV)} {H : List AO} {v : AV} {st' : St} (h : callA F mb args ⟨[], H⟩ = some (v, st')) : callA F mb args ⟨loc, H⟩ = some (v, ⟨loc, st'.heap⟩) := by
  unfold callA at h ⊢
  split at h
  · rename_i hl
    rw [if_pos hl]
    dsimp only at h ⊢
    split at h
    · cases h; rfl
    · cases h; rfl
    · cases h
  · cases h
theorem tab_use {n : Nat} {W : List (Nat × Nat)} (T : Tab n W) (x1 x2 l3 x5 x6 l7 x8 : AO) : ∃ v h1 h2, callA F_law_sorter m_law_sorter.1 [.dat (.int (n : Nat)), .ref 4] ⟨[], hV x1 x2 l3 W x5 x6 l7 x8⟩ = some (v, ⟨[], h1⟩) ∧
    callA F_law_refused m_law_refused.1 [v] ⟨[], h1⟩ = some (.dat (.bool (cycB n W)), ⟨[], h2⟩) ∧ h2.take 9 = hV x1 x2 l3 W x5 x6 l7 x8 ∧
    ∀ o ∈ orders n, ∀ c d, ∃ h3, callA F_law_taken m_law_taken.1 [v, .dat (.list (o.map iD))] ⟨[], h2 ++ [c, d]⟩ = some (.dat (.bool (resp (rOf W) o)), ⟨[], h3⟩) ∧ h3.take 9 = hV x1 x2 l3 W x5 x6 l7 x8 ∧ 9 ≤ h3.length := by
  have cl : ∀ {F : FnS} {mb : AM AF} {args : List AV} {H : List AO} {v : AV} {st' : St}, callA F mb args ⟨[], H⟩ = some (v, st') → st' = ⟨[], st'.heap⟩ := fun {F mb args H v st'} h => by
    have := callA_loc (loc := []) h
    rw [h] at this
    exact (Prod.mk.inj (Option.some.inj this)).2
  have t0 := T x1 x2 l3 x5 x6 l7 x8
  unfold tabA srA at t0
  cases e1 : callA F_law_sorter m_law_sorter.1 [.dat (.int (n : Nat)), .ref 4] ⟨[], hV x1 x2 l3 W x5 x6 l7 x8⟩ with
  | none => have := t0 .dead .dead; rw [e1] at this; cases this
  | some p =>
    obtain ⟨v, s1⟩ := p
    have q1 := cl e1
    cases e2 : callA F_law_refused m_law_refused.1 [v] s1 with
    | none => have := t0 .dead .dead; rw [e1] at this; dsimp only at this; rw [e2] at this; cases this
    | some p =>
      obtain ⟨b, s2⟩ := p
      rw [q1] at e2
      have q2 := cl e2
      have t1 : ∀ c d, b = .dat (.bool (cycB n W)) ∧ s2.heap.take 9 = hV x1 x2 l3 W x5 x6 l7 x8 ∧ ((orders n).map fun o => tkA v o (s2.heap ++ [c, d])) = (orders n).map fun o => some (.dat (.bool (resp (rOf W) o)), hV x1 x2 l3 W x5 x6 l7 x8, true) := fun c d => by
        have := t0 c d
        rw [e1] at this
        dsimp only at this
        rw [q1, e2] at this
        have h := Option.some.inj this
        obtain ⟨h1, h⟩ := Prod.mk.inj h
        obtain ⟨h2, h3⟩ := Prod.mk.inj h
        exact ⟨h1, h2, h3⟩
      obtain ⟨hb, ht, _⟩ := t1 .dead .dead
      subst hb
      refine ⟨v, s1.heap, s2.heap, by rw [← q1], by rw [← q2]; exact e2, ht, fun o ho c d => ?_⟩
      have h := List.map_inj_left.mp (t1 c d).2.2 o ho
      unfold tkA at h
      cases e3 : callA F_law_taken m_law_taken.1 [v, .dat (.list (o.map iD))] ⟨[], s2.heap ++ [c, d]⟩ with
      | none => rw [e3] at h; cases h
      | some p =>
        obtain ⟨b, s3⟩ := p
        rw [e3] at h
        have h := Option.some.inj h
        obtain ⟨h1, h⟩ := Prod.mk.inj h
        obtain ⟨h2, h3⟩ := Prod.mk.inj h
        subst h1
        exact ⟨s3.heap, by rw [← cl e3], h2, of_decide_eq_true h3⟩
theorem eqA_bool {neg a b : Bool} {st : St} : eqA neg (.dat (.bool a)) (.dat (.bool b)) st = some (.dat (.bool (if neg then !(a == b) else a == b)), st) := by
  have h1 : ∀ k : Bool, okD (.bool k) = true := fun k => by unfold okD; simp [PyData.canLay0, PyData.depth]
  have h2 : PyData.eqv (.bool a) (.bool b) = (a == b) := by rw [PyData.eqv]
  unfold eqA
  simp only [dataOf, h1, h2, Bool.and_self, if_true]
noncomputable def oD (o : List Nat) : AV := .dat (.list (o.map iD))
section
variable {D : Addr} {ms : List Mv} (hv : Valid ms) {c1 c2 c5 c6 c8 : AO}
noncomputable abbrev lwH (ms : List Mv) (c1 c2 c5 c6 c8 : AO) : List AO := hV c1 c2 (.list (ms.map mA)) (wAll (rB ms) ms.length ms.length) c5 c6 (.list (files.map fun w => wA (once ms w))) c8
noncomputable abbrev lwR (D : Addr) (ms : List Mv) (i j sm rf od so ri : Option AV) (H : List AO) : St := lwS D (some (.dat (.int (ms.length : Nat)))) (some (sD ms Prod.fst)) (some (sD ms Prod.snd)) (some (.ref 4)) i j (some (.dat (fD files))) (some (.ref 7)) sm rf od so ri H
theorem take_at {h H : List AO} (e : h.take 9 = H) {i : Nat} {a : AO} (hi : i < 9) (ha : H[i]? = some a) : h[i]? = some a := by
  rw [← e, List.getElem?_take, if_pos hi] at ha; exact ha
noncomputable abbrev lwP (y : Option AV) (h : List AO) : St := ⟨[y, none, some (.ref 0), none, none, none, none, none, none, none, none, none, none, none, none, none], h⟩
include hv in
theorem lw_pick {h : List AO} (e : h.take 9 = lwH ms c1 c2 c5 c6 c8) {o : List Nat} (ho : ∀ k ∈ o, k < ms.length) (hlen : o.length < 50) {i j sm rf so ri : Option AV} :
    (compA 1 [false, true, false, false, false, false, false, false, false, false, false, false, false, false, false] (iterM (getL 12)) (fun x => setL 0 x) (AM.pure true) (emitA ((getC 2).bind fun a => (getL 0).bind fun b => getA a b)) 100).bind finD (lwR D ms i j sm rf (some (oD o)) so ri h) =
      some (.dat (.list ((o.map (mG ms)).map mD)), lwR D ms i j sm rf (some (oD o)) so ri h) := by
  have h0 : h[0]? = some (.cell (some (.ref 3))) := take_at e (by decide) rfl
  have h3 : h[3]? = some (.list (ms.map mA)) := take_at e (by decide) rfl
  have hl := hv.len
  obtain ⟨st', k1, y, k2⟩ := ctA_list (src := constSrc (o.map fun k => AV.dat (iD k))) (ta := fun x => setL 0 x) (mt := AM.pure true) (ma := emitA ((getC 2).bind fun a => (getL 0).bind fun b => getA a b)) o (fun k => AV.dat (iD k)) (fun k => some (mA (mG ms k)))
    (fun st => ∃ y, st = lwP y h) (fun st ⟨y, hy⟩ => by subst hy; rfl)
    (fun k hk st l ⟨y, hy⟩ hl => by
      subst hy
      refine ⟨lwP (some (.dat (iD k))) h, lwP (some (.dat (iD k))) h, true, rfl, rfl, _, lwP (some (.dat (iD k))) h, rfl, ?_, _, rfl⟩
      unfold emitA
      have hk' := ho k hk
      have hel : ((getC 2).bind fun a => (getL 0).bind fun b => getA a b) (lwP (some (.dat (iD k))) h) = some (mA (mG ms k), lwP (some (.dat (iD k))) h) := by
        refine bnd (gC rfl h0) (bnd (gL rfl) ?_)
        unfold getA iD
        dsimp only
        rw [h3]
        dsimp only
        rw [if_pos (by omega), Int.toNat_natCast, List.getElem?_map, List.getElem?_eq_getElem hk']
        unfold mG
        rw [List.getD_eq_getElem?_getD, List.getElem?_eq_getElem hk']
        rfl
      refine bnd hel ?_
      rw [if_pos hl]; rfl)
    100 0 [] (lwP none h) ⟨none, rfl⟩ (by omega) (by simp; omega) (Nat.zero_le _)
  refine bnd (b := (o.map (mG ms)).map mA) (st1 := lwR D ms i j sm rf (some (oD o)) so ri h) ?_ ?_
  · unfold compA
    refine bnd (b := constSrc (o.map fun k => AV.dat (iD k))) (st1 := lwR D ms i j sm rf (some (oD o)) so ri h) ?_ ?_
    · unfold iterM
      refine bnd (gL rfl) ?_
      show (match iterA (.dat (.list (o.map iD))) with | some l => AM.pure (constSrc l) | none => AM.fail) _ = _
      unfold iterA
      dsimp only
      rw [List.map_map]
      rfl
    · dsimp only
      have k1' : ctA (constSrc (o.map fun k => AV.dat (iD k))) (fun x => setL 0 x) (AM.pure true) (emitA ((getC 2).bind fun a => (getL 0).bind fun b => getA a b)) 100 0 [] ⟨List.replicate 1 none ++ maskLoc [false, true, false, false, false, false, false, false, false, false, false, false, false, false, false] (lwR D ms i j sm rf (some (oD o)) so ri h).loc, h⟩ = _ := k1
      rw [k1', k2]
      dsimp only
      rw [List.nil_append, List.drop_zero, show (o.filterMap fun k => some (mA (mG ms k))) = o.map fun k => mA (mG ms k) from congrFun (List.filterMap_eq_map (f := fun k => mA (mG ms k))) o, List.map_map]
      rfl
  · unfold finD
    rw [show ((o.map (mG ms)).map mA) = (((o.map (mG ms)).map mD).map AV.dat) from by simp only [List.map_map]; rfl, datsA_map]
include hv in
theorem lwOb_run (g1 : ∀ n, okAO n c1 = true) (g2 : ∀ n, okAO n c2 = true) (g5 : ∀ n, okAO n c5 = true) (g6 : ∀ n, okAO n c6 = true) (g8 : ∀ n, okAO n c8 = true) {o : List Nat} (ho : o ∈ orders ms.length) {i j rf so ri : Option AV} {sm : Bool} : ∃ i' j' so' ri',
    scopeF lwOb (lwR D ms i j (some (.dat (.bool sm))) rf (some (oD o)) so ri (lwH ms c1 c2 c5 c6 c8)) =
      some (.next, lwR D ms i' j' (some (.dat (.bool (sm || resp (rOf (wAll (rB ms) ms.length ms.length)) o)))) (some (.dat (.bool (cycB ms.length (wAll (rB ms) ms.length ms.length))))) (some (oD o)) so' ri' (lwH ms c1 c2 c5 c6 c8)) := by
  have hl := hv.len
  have hp : o.Perm (List.range ms.length) := List.isPerm_iff.mp (orders_perm _ hl o ho)
  have hk : ∀ k ∈ o, k < ms.length := fun k hk => List.mem_range.mp (hp.mem_iff.mp hk)
  have holen : o.length = ms.length := by rw [hp.length_eq, List.length_range]
  have hL : (o.map (mG ms)).Perm ms := by
    have := hp.map (mG ms)
    rwa [range_map] at this
  obtain ⟨v, h1, h2, e1, e2, e3, e4⟩ := tab_use (tab (rB ms) ms.length hl) c1 c2 (.list (ms.map mA)) c5 c6 (.list (files.map fun w => wA (once ms w))) c8
  obtain ⟨c, d, e5⟩ := obo_call h2 (lwR D ms i j (some (.dat (.bool sm))) (some (.dat (.bool (cycB ms.length (wAll (rB ms) ms.length ms.length))))) (some (oD o)) (some v) ri h2).loc files (o.map (mG ms)) (by decide) (by rw [List.length_map]; omega) (by decide)
    (fun m hm => by
      have hm' := hL.mem_iff.mp hm
      have k1 := (folds_ok _ (hv.fo m hm').1).1
      have k2 := (folds_ok _ (hv.fo m hm').2).1
      omega)
  obtain ⟨h3, e6, e7, e8⟩ := e4 o ho c d
  have hr := right_resp hv ho
  let rr := resp (rOf (wAll (rB ms) ms.length ms.length)) o
  let cy := cycB ms.length (wAll (rB ms) ms.length ms.length)
  have hd : dataOf (.ref 7) (lwR D ms i j (some (.dat (.bool sm))) (some (.dat (.bool cy))) (some (oD o)) (some v) ri (h2 ++ [c, d])) = some (fD (files.map (once ms))) := by
    have h7 : (h2 ++ [c, d])[7]? = some (.list (files.map fun w => wA (once ms w))) := by
      have hlt : 7 < h2.length := by
        have : h2[7]? = _ := take_at e3 (by decide) rfl
        exact (List.getElem?_eq_some_iff.mp this).1
      rw [List.getElem?_append_left hlt]
      exact take_at e3 (by decide) rfl
    unfold dataOf
    dsimp only
    rw [h7]
    dsimp only
    rw [show (files.map fun w => wA (once ms w)) = ((files.map (once ms)).map wD).map AV.dat from by simp only [List.map_map]; rfl, datsA_map]
    rfl
  have hq : eqA false (.dat (fD (files.map (seqAll (o.map (mG ms)))))) (.ref 7) (lwR D ms i j (some (.dat (.bool sm))) (some (.dat (.bool cy))) (some (oD o)) (some v) ri (h2 ++ [c, d])) = some (.dat (.bool rr), lwR D ms i j (some (.dat (.bool sm))) (some (.dat (.bool cy))) (some (oD o)) (some v) ri (h2 ++ [c, d])) := by
    unfold eqA
    rw [hd]
    show (if okD (fD _) && okD (fD _) then (some (AV.dat (.bool (if false then !PyData.eqv (fD _) (fD _) else PyData.eqv (fD _) (fD _))), _) : Option (AV × St)) else none) = _
    rw [okD_fD, okD_fD, if_pos (by rfl), eqv_fD]
    show some (AV.dat (.bool (rightB ms o)), _) = _
    rw [hr]
  have hrun : lwOb (lwR D ms i j (some (.dat (.bool sm))) rf (some (oD o)) so ri (lwH ms c1 c2 c5 c6 c8)) = some (.next, lwR D ms i j (some (.dat (.bool (sm || rr)))) (some (.dat (.bool cy))) (some (oD o)) (some v) (some (.dat (.bool rr))) h3) := by
    unfold lwOb
    refine sq (st1 := lwR D ms i j (some (.dat (.bool sm))) rf (some (oD o)) (some v) ri h1) (bnd (bnd (ls2 (gL rfl) (gL rfl)) (callA_loc e1)) rfl) ?_
    refine sq (st1 := lwR D ms i j (some (.dat (.bool sm))) (some (.dat (.bool cy))) (some (oD o)) (some v) ri h2) (bnd (bnd (ls1 (gL rfl)) (callA_loc e2)) rfl) ?_
    refine sq (st1 := lwR D ms i j (some (.dat (.bool sm))) (some (.dat (.bool cy))) (some (oD o)) (some v) (some (.dat (.bool rr))) (h2 ++ [c, d])) (bnd (bnd (bnd (ls2 (gL rfl) (lw_pick hv e3 hk (by omega))) e5) (bnd (gL rfl) hq)) rfl) ?_
    refine sq (st1 := lwR D ms i j (some (.dat (.bool sm))) (some (.dat (.bool cy))) (some (oD o)) (some v) (some (.dat (.bool rr))) h3) ?_ ?_
    · unfold iteA
      refine bnd (bnd (bnd (ls2 (gL rfl) (gL rfl)) (callA_loc e6)) (bnd (gL rfl) (bnd eqA_bool rfl))) ?_
      rw [if_pos rfl, show (!(resp (rOf (wAll (rB ms) ms.length ms.length)) o == rr)) = false from by show (!(rr == rr)) = false; rw [beq_self_eq_true]; rfl]
      rfl
    · refine bnd (b := .dat (.bool (sm || rr))) (st1 := lwR D ms i j (some (.dat (.bool sm))) (some (.dat (.bool cy))) (some (oD o)) (some v) (some (.dat (.bool rr))) h3) (bnd (gL rfl) (bnd (b := sm) rfl ?_)) rfl
      cases sm with
      | true => rfl
      | false => exact gL rfl
  have hok : (lwH ms c1 c2 c5 c6 c8).all (okAO 9) = true := by
    have a3 : okAO 9 (.list (ms.map mA)) = true := by
      show (ms.map mA).all (okAV 9) = true
      rw [List.all_map]; exact List.all_eq_true.mpr fun _ _ => rfl
    have a4 : okAO 9 (.list ((wAll (rB ms) ms.length ms.length).map pD)) = true := by
      show (List.map pD (wAll (rB ms) ms.length ms.length)).all (okAV 9) = true
      rw [List.all_map]; exact List.all_eq_true.mpr fun _ _ => rfl
    have a7 : okAO 9 (.list (files.map fun w => wA (once ms w))) = true := by
      show (files.map fun w => wA (once ms w)).all (okAV 9) = true
      rw [List.all_map]; exact List.all_eq_true.mpr fun _ _ => rfl
    simp only [List.all_cons, List.all_nil, g1, g2, g5, g6, g8, a3, a4, a7, Bool.and_true]
    rfl
  refine ⟨maskAV 9 i, maskAV 9 j, maskAV 9 (some v), some (.dat (.bool rr)), ?_⟩
  unfold scopeF
  rw [hrun]
  show (if okAF 9 .next && ((h3.take 9).all (okAO 9) && decide (9 ≤ h3.length)) then some (AF.next, (⟨_, h3.take 9⟩ : St)) else none) = _
  rw [e7, hok, decide_eq_true e8]
  rfl
end
end Mine

open PySem PySem.W PyProof.Rows PySem.Calls PySem.Spec
set_option Elab.async false
namespace Mine
set_option maxRecDepth 100000
set_option maxHeartbeats 1000000
/-! the law -/
theorem folders_5 (loc : List (Option AV)) (a0 a1 a2 a3 a4 : AO) : callA F_law_folders m_law_folders.1 [] ⟨loc, [a0, a1, a2, a3, a4]⟩ = some (.dat (fD files), ⟨loc, [a0, a1, a2, a3, a4, .cell (some (.dat (.int 2)))]⟩) := by kernel_rfl
noncomputable def oC : Nat → Option AV
  | 0 => none
  | n + 1 => some (.dat (.int (n : Nat)))
theorem oC_ok : ∀ n k, okAO k (.cell (oC n)) = true
  | 0, _ => rfl
  | _ + 1, _ => rfl
noncomputable def oL (n : Nat) : AV := .dat (.list ((orders n).map fun o => .list (o.map iD)))
theorem orders_run : ∀ n, n ≤ 3 → ∀ (loc : List (Option AV)) (a0 a1 a2 a3 a4 a5 a6 a7 : AO), callA F_law_orders m_law_orders.1 [.dat (.int (n : Nat))] ⟨loc, [a0, a1, a2, a3, a4, a5, a6, a7]⟩ = some (oL n, ⟨loc, [a0, a1, a2, a3, a4, a5, a6, a7, .cell (oC n)]⟩)
  | 0, _, _, _, _, _, _, _, _, _, _ => by kernel_rfl
  | 1, _, _, _, _, _, _, _, _, _, _ => by kernel_rfl
  | 2, _, _, _, _, _, _, _, _, _, _ => by kernel_rfl
  | 3, _, _, _, _, _, _, _, _, _, _ => by kernel_rfl
  | n + 4, h, _, _, _, _, _, _, _, _, _ => absurd h (by omega)
theorem orders_len : ∀ n, n ≤ 3 → 0 < (orders n).length ∧ (orders n).length < 100
  | 0, _ => by decide
  | 1, _ => by decide
  | 2, _ => by decide
  | 3, _ => by decide
  | n + 4, h => absurd h (by omega)
section
variable {D : Addr} {ms : List Mv} (hv : Valid ms) {c1 c2 c5 c6 : AO}
noncomputable abbrev lwH8 (ms : List Mv) (c1 c2 c5 c6 : AO) : List AO := [.cell (some (.ref 3)), c1, c2, .list (ms.map mA), .list ((wAll (rB ms) ms.length ms.length).map pD), c5, c6, .list (files.map fun w => wA (once ms w))]
include hv in
theorem lwL_run (g1 : ∀ n, okAO n c1 = true) (g2 : ∀ n, okAO n c2 = true) (g5 : ∀ n, okAO n c5 = true) (g6 : ∀ n, okAO n c6 = true) {i j : Option AV} : ∃ st', lwL (lwR D ms i j (some (.dat (.bool false))) (some (.dat (.bool false))) none none none (lwH8 ms c1 c2 c5 c6)) = some (.ret (.dat (.bool true)), st') := by
  have hl := hv.len
  obtain ⟨o1, o2⟩ := orders_len _ hl
  obtain ⟨st', h1, i', j', rf', od', so', ri', hrf, h2⟩ := forA_inv (src := constSrc ((orders ms.length).map oD)) (ta := fun x => setL 12 x) (mb := scopeF lwOb) (xs := (orders ms.length).map oD)
    (I := fun k st => ∃ i j rf od so ri, (k = 0 ∨ rf = some (.dat (.bool (cycB ms.length (wAll (rB ms) ms.length ms.length))))) ∧ st = lwR D ms i j (some (.dat (.bool (((orders ms.length).take k).any (resp (rOf (wAll (rB ms) ms.length ms.length))))))) rf od so ri (lwH ms c1 c2 c5 c6 (.cell (oC ms.length)))) (fun _ _ _ => rfl)
    (fun k av st ⟨i, j, rf, od, so, ri, _, hst⟩ hav => by
      subst hst
      rw [List.getElem?_map] at hav
      obtain ⟨o, ho, rfl⟩ := Option.map_eq_some_iff.mp hav
      obtain ⟨i', j', so', ri', hb⟩ := lwOb_run hv g1 g2 g5 g6 (oC_ok ms.length) (D := D) (List.mem_of_getElem? ho) (i := i) (j := j) (rf := rf) (so := so) (ri := ri) (sm := ((orders ms.length).take k).any (resp (rOf (wAll (rB ms) ms.length ms.length))))
      refine ⟨_, _, rfl, hb, i', j', _, some (oD o), so', ri', .inr rfl, ?_⟩
      rw [List.take_add_one, ho, Option.toList_some, List.any_append, List.any_cons, List.any_nil, Bool.or_false])
    100 0 (lwR D ms i j (some (.dat (.bool false))) (some (.dat (.bool false))) none none none (lwH ms c1 c2 c5 c6 (.cell (oC ms.length)))) ⟨i, j, _, none, none, none, .inl rfl, rfl⟩ (Nat.zero_le _) (by rw [List.length_map]; omega)
  rw [List.length_map] at hrf h2
  rw [List.take_length] at h2
  have hrf := hrf.resolve_left (by omega)
  subst hrf
  refine ⟨st', ?_⟩
  unfold lwL
  refine sq (st1 := st') ?_ ?_
  · refine bnd (b := constSrc ((orders ms.length).map oD)) (st1 := lwR D ms i j (some (.dat (.bool false))) (some (.dat (.bool false))) none none none (lwH ms c1 c2 c5 c6 (.cell (oC ms.length)))) ?_ h1
    unfold iterM
    refine bnd (bnd (ls1 (gL rfl)) (orders_run _ hl _ _ _ _ _ _ _ _ _)) ?_
    show (match iterA (.dat (.list ((orders ms.length).map fun (o : List Nat) => PyData.list (o.map iD)))) with | some l => AM.pure (constSrc l) | none => AM.fail) _ = _
    unfold iterA
    dsimp only
    rw [List.map_map]
    rfl
  · rw [h2]
    refine bnd (bnd (gL rfl) (bnd (gL rfl) eqA_bool)) ?_
    rw [if_pos rfl]
    unfold cycB
    cases (orders ms.length).any (resp (rOf (wAll (rB ms) ms.length ms.length))) <;> rfl
end
theorem plain (D : Addr) (ns : List Int) (hns : ns.length ≤ 63) : ∃ st', (m_law D ns).1 (st0 D) = some (.ret (.dat (.bool true)), st') := by
  obtain ⟨c, c2, ms, hv, gc, g2, hm⟩ := lm_call hns (D := D) (c0 := .cell none) [some (.ext D), some (.ref 0), none, none, none, none, none, none, none, none, none, none, none, none, none]
  have hl := hv.len
  obtain ⟨i, j, hw⟩ := lwW_run hv (D := D) (c1 := .cell c) (c2 := c2)
  obtain ⟨c6, g6, ha⟩ := ao_call (H := [.cell (some (.ref 3)), .cell c, c2, .list (ms.map mA), .list ((wAll (rB ms) ms.length ms.length).map pD), .cell (some (.dat (.int 2)))]) (r := 3) (ms := ms) rfl (by omega)
    (fun m hm' => by
      have k1 := (folds_ok _ (hv.fo m hm').1).1
      have k2 := (folds_ok _ (hv.fo m hm').2).1
      omega) (lwS D (some (.dat (.int (ms.length : Nat)))) (some (sD ms Prod.fst)) (some (sD ms Prod.snd)) (some (.ref 4)) i j (some (.dat (fD files))) none none none none none none []).loc files (by decide) (by decide)
  obtain ⟨st', hL⟩ := lwL_run hv gc g2 (fun _ => rfl) g6 (D := D) (c5 := .cell (some (.dat (.int 2)))) (i := i) (j := j)
  refine ⟨st', ?_⟩
  rw [lw_eq]
  refine sq (st1 := lwS D none none none none none none none none none none none none none [.cell (some (.ref 3)), .cell c, c2, .list (ms.map mA)]) (bnd (bnd (ls1 (gL rfl)) hm) rfl) ?_
  refine sq (st1 := lwS D (some (.dat (.int (ms.length : Nat)))) none none none none none none none none none none none none [.cell (some (.ref 3)), .cell c, c2, .list (ms.map mA)]) ?_ ?_
  · refine bnd (b := .dat (.int (ms.length : Nat))) (st1 := lwS D none none none none none none none none none none none none none [.cell (some (.ref 3)), .cell c, c2, .list (ms.map mA)]) (bnd (ls1 (gC rfl rfl)) ?_) rfl
    show (if (ms.map mA).length < 1000 then some (AV.dat (.int ((ms.map mA).length : Nat)), lwS D none none none none none none none none none none none none none [.cell (some (.ref 3)), .cell c, c2, .list (ms.map mA)]) else none) = _
    rw [List.length_map, if_pos (by omega)]
  refine sq (st1 := lwS D (some (.dat (.int (ms.length : Nat)))) (some (sD ms Prod.fst)) none none none none none none none none none none none [.cell (some (.ref 3)), .cell c, c2, .list (ms.map mA)]) ?_ ?_
  · refine bnd (lwX_run hv 0 Prod.fst (.inl ⟨rfl, rfl⟩)) (bnd (b := sD ms Prod.fst) (st1 := lwS D (some (.dat (.int (ms.length : Nat)))) none none none none none none none none none none none none [.cell (some (.ref 3)), .cell c, c2, .list (ms.map mA)]) ?_ rfl)
    unfold finD; rw [datsA_map]; rfl
  refine sq (st1 := lwS D (some (.dat (.int (ms.length : Nat)))) (some (sD ms Prod.fst)) (some (sD ms Prod.snd)) none none none none none none none none none none [.cell (some (.ref 3)), .cell c, c2, .list (ms.map mA)]) ?_ ?_
  · refine bnd (lwX_run hv 1 Prod.snd (.inr ⟨rfl, rfl⟩)) (bnd (b := sD ms Prod.snd) (st1 := lwS D (some (.dat (.int (ms.length : Nat)))) (some (sD ms Prod.fst)) none none none none none none none none none none none [.cell (some (.ref 3)), .cell c, c2, .list (ms.map mA)]) ?_ rfl)
    unfold finD; rw [datsA_map]; rfl
  refine sq (st1 := lwT D ms (.cell c) c2 none none []) (bnd (b := .ref 4) (st1 := lwS D (some (.dat (.int (ms.length : Nat)))) (some (sD ms Prod.fst)) (some (sD ms Prod.snd)) none none none none none none none none none none [.cell (some (.ref 3)), .cell c, c2, .list (ms.map mA), .list []]) rfl rfl) ?_
  refine sq hw ?_
  refine sq (st1 := lwS D (some (.dat (.int (ms.length : Nat)))) (some (sD ms Prod.fst)) (some (sD ms Prod.snd)) (some (.ref 4)) i j (some (.dat (fD files))) none none none none none none [.cell (some (.ref 3)), .cell c, c2, .list (ms.map mA), .list ((wAll (rB ms) ms.length ms.length).map pD), .cell (some (.dat (.int 2)))]) (bnd (folders_5 _ _ _ _ _ _) rfl) ?_
  refine sq (st1 := lwS D (some (.dat (.int (ms.length : Nat)))) (some (sD ms Prod.fst)) (some (sD ms Prod.snd)) (some (.ref 4)) i j (some (.dat (fD files))) (some (.ref 7)) none none none none none (lwH8 ms (.cell c) c2 (.cell (some (.dat (.int 2)))) (.cell c6))) (bnd (bnd (ls2 (gL rfl) (gC rfl rfl)) ha) rfl) ?_
  refine sq (st1 := lwR D ms i j (some (.dat (.bool false))) none none none none (lwH8 ms (.cell c) c2 (.cell (some (.dat (.int 2)))) (.cell c6))) rfl ?_
  exact sq (st1 := lwR D ms i j (some (.dat (.bool false))) (some (.dat (.bool false))) none none none (lwH8 ms (.cell c) c2 (.cell (some (.dat (.int 2)))) (.cell c6))) rfl hL
end Mine

open PySem PySem.W PyProof.Rows
set_option Elab.async false
set_option maxRecDepth 100000
set_option maxHeartbeats 8000000
namespace Mine
open PySem.Challenge
theorem left_of {p q : Program} {loose : List Str} {Xt : Shared → Bool} {α : Type} {Yf : Shared → α} {Ya : World → α} {N : Nat} {g0 : Bool} {H₀ : Params → Heap} {gs₀ : Array GenState} {d₀ : Drawn} {k₀ : Nat}
    (open_ : ∀ w : World, (fencedOpening treeTable p w N).map (fun s => (s.heap, s.gens, s.drawn, s.toks)) = some (H₀ w.params, gs₀, d₀, k₀))
    (run : ∀ (w : World) (os : OsState), (topFrom treeTable p w N ⟨H₀ w.params, gs₀, d₀, k₀, os⟩).map (fun s => (openSeen q loose (importedModules p.main.body) Xt g0 s, Yf s)) = some (openGood q loose, Ya w)) : LeftO p q loose Xt Yf Ya N g0 := fun w => by
  obtain ⟨⟨h, gs, d, k, os⟩, e, e'⟩ := Option.map_eq_some_iff.mp (open_ w)
  obtain ⟨rfl, rfl, rfl, rfl⟩ : h = H₀ w.params ∧ gs = gs₀ ∧ d = d₀ ∧ k = k₀ := by simpa using e'
  unfold openEnds
  rw [e]
  exact run w os
noncomputable def vw : Program := { pw_in0108_01 with main := { pw_in0108_01.main with body := pw_in0108_01.main.body.drop 24 } }
noncomputable def lo : List Str := [Str.ofString "_wall", Str.ofString "_NODE_OUT", Str.ofString "_NODE_DONE", Str.ofString "_NodeInfo", Str.ofString "CycleError", Str.ofString "TopologicalSorter", Str.ofString "sep", Str.ofString "_kind", Str.ofString "_fspath", Str.ofString "split", Str.ofString "_ancestry", Str.ofString "_law_folders", Str.ofString "_law_text", Str.ofString "_law_moves", Str.ofString "_law_one_by_one", Str.ofString "_law_at_once", Str.ofString "_law_orders", Str.ofString "_law_sorter", Str.ofString "_law_refused", Str.ofString "_law_taken"]
theorem plain_open : opening pw_in0108_01 = plainProg pw_in0108_01.main.scope.names := by kernel_rfl
noncomputable def xt (s : Shared) : Bool := xlAt vw [] s && recOk (RowW.records (OpenRow.toRowW (OpenLaw.row rw_in0108_01))) s
theorem ran : ∀ (w : World) (os : OsState), (topFrom treeTable pw_in0108_01 w 3094 ⟨boot_heap w.params, Array.mk [], boot_drawn, boot_toks, os⟩).map (fun s => (openSeen vw lo (importedModules pw_in0108_01.main.body) xt true s, myHook.obs s)) = some (openGood vw lo, myHook.val w) := by
  intro w os
  kernel_rfl
theorem fence : ∀ s, fenceModules? pw_in0108_01 s = some s := fun s => by kernel_rfl
theorem left : LeftO pw_in0108_01 vw lo xt myHook.obs myHook.val 3094 true := left_of (boot_open plain_open (by decide +kernel) fence) ran
end Mine

open PySem PySem.W PyProof.Rows PySem.Calls PySem.Spec
set_option Elab.async false
set_option maxRecDepth 100000
set_option maxHeartbeats 8000000
namespace Mine
open PySem.Challenge
noncomputable def Plain : Prop := ∀ (D : Addr) (ns : List Int), ns.length ≤ 63 → ∃ st', (m_law D ns).1 (st0 D) = some (.ret (.dat (.bool true)), st')
theorem walk {w : World} {s1 : Shared} {mg mb : Str → Option Value} {mean : ExcName → Option Value} {K : Frag} (P : Plain) (T : Top vw (looseW vw lo) mean mg mb s1.heap) (KX : K.In s1.heap) (eK : obsK K = goodK) (hg : s1.gens = #[]) {fa : Addr} (hmg : mg "law" = some (.ref fa)) {D : Addr} {vs : List Value} {ns : List Int}
    (hL : s1.heap.IsList D vs.toArray) (hI : IntsAre vs ns) (hn : ¬ 63 < ns.length) {R : Result → Shared → Prop} (k : ∀ s', s1.heap.StaysIn s'.heap → (s'.os, s'.drawn) = (s1.os, s1.drawn) → AllBare s'.gens → R (.ok (.ret (.bool true))) s') :
    codeAny (model pw_in0108_01 w) callerA (.call (.ref fa) ⟨[.ref D], []⟩) R s1 := by
  let G : Gl := ⟨pw_in0108_01, w, s1.heap, (s1.os, s1.drawn), K, mg, mb⟩
  have e1 : fns.map (fun p => fnView G.K p.1) = fns.map fun p => some (goodV p.2 .none) := congrArg (fun x => x.1.1) eK
  have e4 : obsC G.K = goodC := congrArg (fun x => x.2.2.1.1) eK
  have ev : fnView G.K 227 = some (goodV (stmtAt 24) .none) := List.map_inj_left.mp e1 (227, stmtAt 24) (List.mem_of_getElem? (i := 20) rfl)
  have en : nsIn K mainGlobals "law" = some (some (.ref 227)) := by
    have h1 : (obsC K)[43]? = some (nsIn K mainGlobals "law") := rfl
    have h2 : goodC[43]? = some (some (some (.ref 227))) := rfl
    have h3 : (obsC K)[43]? = goodC[43]? := congrArg (·[43]?) e4
    rw [h1, h2] at h3; exact Option.some.inj h3
  have hfa : fa = 227 := by
    have := mg_of KX T.g en
    rw [hmg] at this
    exact Value.ref.inj (Option.some.inj this)
  subst hfa
  have hsz : 100 ≤ s1.heap.objs.size := by
    obtain ⟨fd, hf, _⟩ := fnAt_of (G := G) KX (F := F_law) ev rfl rfl
    obtain ⟨o, ho, _⟩ := hf.at'
    exact Nat.le_of_lt (Nat.lt_of_le_of_lt (by decide) (Heap.lt_size (KX _ _ ho)))
  have hG : G.Ok := ⟨KX, T.g, T.b, T.nolimit, T.builtins, hsz⟩
  obtain ⟨st', hm⟩ := P D ns (Nat.not_lt.mp hn)
  exact call_law hG (nms_of KX T (by decide +kernel) eK) ⟨⟨vs, hL, hI⟩, Nat.not_lt.mp hn⟩ rfl rfl hg ev hm k
theorem final (P : Plain) (said : OpenLaw.wellSaid rw_in0108_01 = true) : rw_in0108_01.Holds := by
  refine holds_law said fun said' => ?_
  refine holds_open (q := vw) (loose := lo) (Xt := xt) (XP := XL vw []) (Yf := myHook.obs) (Ya := myHook.val) (YP := myHook.says) (N := 3094) left myHook.of myHook.keeps (fun s e => xl_of s (Bool.and_eq_true_iff.mp e).1) XL.keeps (by rfl) (by rfl) (by rfl) (fun s e => recFacts_of (Bool.and_eq_true_iff.mp e).2) (by rfl) said' (by decide +kernel) ⟨rfl, rfl, rfl, rfl, rfl, by decide +kernel⟩ ?hw ?hc
  case hw => w_witness2
  case hc =>
    intro w s0 s1 mg mb G Y fa o pm cd doc dV kV ho hd hcd hD hmg hg args vals as hpre hlay hrd hwl hlo
    obtain ⟨K, KX, eK⟩ := Y
    clear ho hd hcd hD
    refine Ground.open G ?_
    intro T B D TE TW
    clear TW TE B
    wrow_args hpre hlay hrd hwl hlo
    refine enter_call ?_
    refine walk P T KX eK hg hmg (by assumption) (by assumption) (by omega) fun s' k1 k2 k3 => ⟨.inl ⟨.bool true, .bool true, [], rfl, ?_, .bool _, ?_, ?_⟩, .of_keep k1, (Prod.mk.inj k2).1, k3⟩
    · intro cls; rfl
    · first | wrow_post | kernel_rfl
    · intro h; exact ⟨List.nodup_nil, fun _ h => nomatch h⟩
end Mine

open PySem PySem.W PyProof.Rows PySem.Calls PySem.Spec
set_option Elab.async false
set_option maxRecDepth 100000
set_option maxHeartbeats 8000000
namespace Mine
theorem said : OpenLaw.wellSaid PySem.Challenge.rw_in0108_01 = true := by kernel_rfl
theorem all_said : PySem.Challenge.rw_in0108_01.Holds := final plain said
end Mine
theorem PySem.Challenge.cw_in0108_01_holds : PySem.Challenge.rw_in0108_01.Holds :=
  Mine.all_said

