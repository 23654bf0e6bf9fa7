import PyProof.Rows.All
import Wide.All
import OpenK.AllK
import Wide.FinOn
import PySem.Challenge.RW_dm0066_01
open PySem PySem.W PyProof.Rows
set_option Elab.async false
set_option autoImplicit false
set_option linter.unusedVariables false
set_option linter.unusedSimpArgs false
set_option maxRecDepth 100000
namespace Mine
set_option maxHeartbeats 4000000
section
/-- all of h stands in h' -/
noncomputable def Keep (h h' : Heap) : Prop := ∀ b o, h.get? b = some o → h'.get? b = some o
theorem Keep.refl (h : Heap) : Keep h h := fun _ _ e => e
theorem Keep.trans {h h₁ h₂ : Heap} (x : Keep h h₁) (y : Keep h₁ h₂) : Keep h h₂ := fun b o e => y b o (x b o e)

/-- a value as the rules see it: plain frozen data, a range, or the value itself -/
inductive V where
  | dat (d : PyData)
  | val (v : Value)
  | rng (a b c : Int)

noncomputable abbrev V.none : V := .dat .none
noncomputable abbrev V.bool (b : Bool) : V := .dat (.bool b)
noncomputable abbrev V.int (i : Int) : V := .dat (.int i)
noncomputable abbrev V.str (s : Str) : V := .dat (.str s)
noncomputable abbrev V.lst (l : List PyData) : V := .dat (.list l)
noncomputable abbrev V.tup (l : List PyData) : V := .dat (.tuple l)
noncomputable abbrev V.ref (a : Addr) : V := .val (.ref a)

inductive RV (fz : Heap) : V → Value → Prop
  | dat {d : PyData} {v : Value} {as : List Addr} : Reads fz v d as → RV fz (.dat d) v
  | val (v : Value) : RV fz (.val v) v
  | rng {r : Addr} {a b c : Int} {t u v : Tok} : IsRange fz r a b c t u v → RV fz (.rng a b c) (.ref r)

theorem IsRange_keep {h h' : Heap} {r : Addr} {a b c : Int} {t u v : Tok} (x : IsRange h r a b c t u v) (k : Keep h h') : IsRange h' r a b c t u v := by
  exact k _ _ x
theorem RV.mono {fz fz' : Heap} {a : V} {v : Value} (x : RV fz a v) (k : Keep fz fz') : RV fz' a v := by
  cases x with
  | dat r => exact .dat (Reads.keeps k r)
  | val v => exact .val v
  | rng r => exact .rng (IsRange_keep r k)

inductive RVs (fz : Heap) : List V → List Value → Prop
  | nil : RVs fz [] []
  | cons {a : V} {v : Value} {l : List V} {vs : List Value} : RV fz a v → RVs fz l vs → RVs fz (a :: l) (v :: vs)
theorem RVs.mono {fz fz' : Heap} {l : List V} {vs : List Value} (x : RVs fz l vs) (k : Keep fz fz') : RVs fz' l vs := by
  induction x with
  | nil => exact .nil
  | cons h _ ih => exact .cons (h.mono k) ih
theorem RVs.length {fz : Heap} {l : List V} {vs : List Value} (x : RVs fz l vs) : l.length = vs.length := by
  induction x with
  | nil => rfl
  | cons _ _ ih => simp [ih]
theorem RVs.append {fz : Heap} {l l' : List V} {vs vs' : List Value} (x : RVs fz l vs) (y : RVs fz l' vs') : RVs fz (l ++ l') (vs ++ vs') := by
  induction x with
  | nil => exact y
  | cons h _ ih => exact .cons h ih
theorem RVs.get {fz : Heap} {l : List V} {vs : List Value} (x : RVs fz l vs) : ∀ {i : Nat} {a : V}, l[i]? = some a → ∃ v, vs[i]? = some v ∧ RV fz a v := by
  induction x with
  | nil => intro i a e; simp at e
  | cons h _ ih =>
    intro i a e
    cases i with
    | zero => simp at e; subst e; exact ⟨_, rfl, h⟩
    | succ i => simp at e; simpa using ih e
theorem RVs.of_reads {fz : Heap} {vs : List Value} {ds : List PyData} {as : List Addr} (x : ReadsAll fz vs ds as) : RVs fz (ds.map V.dat) vs := by
  induction ds generalizing vs as with
  | nil => cases x; exact .nil
  | cons d ds ih => cases x with | cons h t => exact .cons (.dat h) (ih t)
theorem RVs.reads {fz : Heap} : ∀ {ds : List PyData} {vs : List Value}, RVs fz (ds.map V.dat) vs → ∃ as, ReadsAll fz vs ds as
  | [], _, x => by cases x; exact ⟨_, .nil⟩
  | d :: ds, _, x => by
    cases x with
    | cons h t =>
      cases h with
      | dat r => obtain ⟨as, ht⟩ := RVs.reads t; exact ⟨_, .cons r ht⟩

/-- what a made object is -/
inductive Ob where
  | ns (loc : List (Str × V))
  | cell (v : Option V)
  | list (l : List V)
  | tup (l : List V)
  | it (l : List V)
  | att (loc : List (Str × V))
  | obj (o : Obj)
  | prop (P : Heap → Obj → Prop)
  | gen (g : Nat) (P : GenState → Prop)
/-- a generator's number -/
noncomputable def Ob.genOf : Ob → Option Nat
  | .gen g _ => some g
  | _ => none

noncomputable def listObj (vs : List Value) (n : Nat) : Obj := { cls := .type "list", data := .seq vs.toArray n }
noncomputable def tupObj (vs : List Value) (n : Nat) : Obj := { cls := .type "tuple", data := .seq vs.toArray n }

noncomputable def NsIs (fz : Heap) (loc : List (Str × V)) (o : Obj) : Prop :=
  ∃ es ep, o.data = .dict es ep ∧ StrKeys es ∧ ∀ p ∈ loc, ∃ v, nsFind es p.1 = some v ∧ RV fz p.2 v

/-- a made thing's own attributes, all of them -/
noncomputable def AttIs (fz : Heap) (loc : List (Str × V)) (o : Obj) : Prop :=
  ∃ es ep, o.data = .dict es ep ∧ StrKeys es ∧ es.size ≤ loc.length ∧ (∀ p ∈ loc, ∃ v, nsFind es p.1 = some v ∧ RV fz p.2 v) ∧ ∀ x, x ∉ loc.map (·.1) → nsFind es x = none

/-- an iterator that has just these still to give -/
inductive ItIs (fz : Heap) : List V → Obj → Prop
  | list {a : Addr} {vs : Array Value} {i : Nat} {l : List V} {o : Obj} : fz.IsList a vs → RVs fz l (vs.toList.drop i) → o.cls = .type "list_iterator" → o.data = .fields #[.ref a, .int i 0] → ItIs fz l o
  | tup {a : Addr} {vs : Array Value} {i : Nat} {l : List V} {o : Obj} : fz.IsTuple a vs → RVs fz l (vs.toList.drop i) → o.cls = .type "tuple_iterator" → o.data = .fields #[.ref a, .int i 0] → ItIs fz l o
  | range {x c : Int} {n : Nat} {l : List V} {o : Obj} : l = (List.range n).map (fun j : Nat => V.int (x + (j : Int) * c)) → o = { cls := .type "range_iterator", data := .fields #[rawInt x, rawInt n, rawInt c] } → ItIs fz l o
  | ascii {x : Str} {t : Tok} {i : Nat} {l : List V} {o : Obj} : l = (x.cps.toList.drop i).map (fun c => V.str ⟨#[c]⟩) → o.cls = .type "str_ascii_iterator" → o.data = .fields #[.str x t, .int i 0] → ItIs fz l o
  | wide {x : Str} {t : Tok} {i : Nat} {l : List V} {o : Obj} : l = (x.cps.toList.drop i).map (fun c => V.str ⟨#[c]⟩) → o.cls = .type "str_iterator" → o.data = .fields #[.str x t, .int i 0] → ItIs fz l o
  | over {o : Obj} {k : Value} : o.cls = .type "list_iterator" → o.data = .fields #[.none, k] → ItIs fz [] o
theorem ItIs.mono {fz fz' : Heap} {l : List V} {o : Obj} (x : ItIs fz l o) (k : Keep fz fz') : ItIs fz' l o := by
  cases x with
  | list h r c d => obtain ⟨ob, e, q⟩ := h; exact .list ⟨ob, k _ _ e, q⟩ (r.mono k) c d
  | tup h r c d => obtain ⟨ob, e, q⟩ := h; exact .tup ⟨ob, k _ _ e, q⟩ (r.mono k) c d
  | range e q => exact .range e q
  | ascii e c d => exact .ascii e c d
  | wide e c d => exact .wide e c d
  | over c d => exact .over c d

noncomputable def ObIs (fz : Heap) : Ob → Obj → Prop
  | .ns loc, o => NsIs fz loc o
  | .cell none, o => o.data = .cell none
  | .cell (some a), o => ∃ v, o.data = .cell (some v) ∧ RV fz a v
  | .list l, o => ∃ vs n, o = listObj vs n ∧ RVs fz l vs
  | .tup l, o => ∃ vs n, o = tupObj vs n ∧ RVs fz l vs
  | .it l, o => ItIs fz l o
  | .att loc, o => AttIs fz loc o
  | .obj o', o => o = o'
  | .prop P, o => ∃ fz₀, Keep fz₀ fz ∧ P fz₀ o
  | .gen g _, o => o.cls = .type "generator" ∧ (∃ nm qn, o.data = .fields #[.int g 0, nm, qn]) ∧ o.slots = #[]

theorem ObIs.mono {fz fz' : Heap} {ob : Ob} {o : Obj} (x : ObIs fz ob o) (k : Keep fz fz') : ObIs fz' ob o := by
  cases ob with
  | ns loc => obtain ⟨es, ep, h1, h2, h3⟩ := x; exact ⟨es, ep, h1, h2, fun p hp => let ⟨v, e, r⟩ := h3 p hp; ⟨v, e, r.mono k⟩⟩
  | cell v => cases v with
    | none => exact x
    | some a => obtain ⟨v, e, r⟩ := x; exact ⟨v, e, r.mono k⟩
  | list l => obtain ⟨vs, n, e, r⟩ := x; exact ⟨vs, n, e, r.mono k⟩
  | tup l => obtain ⟨vs, n, e, r⟩ := x; exact ⟨vs, n, e, r.mono k⟩
  | it l => exact ItIs.mono x k
  | att loc => obtain ⟨es, ep, h1, h2, hz, h3, h4⟩ := x; exact ⟨es, ep, h1, h2, hz, fun p hp => let ⟨v, e, r⟩ := h3 p hp; ⟨v, e, r.mono k⟩, h4⟩
  | obj o' => exact x
  | prop P => obtain ⟨fz₀, k₀, h⟩ := x; exact ⟨fz₀, k₀.trans k, h⟩
  | gen g P => exact x

noncomputable abbrev Own := List (Addr × Ob)

/-- what stays through the whole law -/
structure Wd where
  prog : Program
  w : World
  base : Heap
  os : OsState
  K : Frag
  p : Program
  loose : List Str
  mg : Str → Option Value
  mb : Str → Option Value
  kin : K.In base
  top : TopRead p loose mg mb base
  bm : ∃ bm ob, mg "__builtins__" = some (.ref bm) ∧ bm ≠ builtinsNs ∧ base.get? bm = some ob ∧ ob.cls = .type "module" ∧ ob.dict = some builtinsNs ∧ ob.data = .plain
  tk : Nat

/-- the generators are as told -/
structure GensIs (own : Own) (gs : Array GenState) : Prop where
  bare : AllBare gs
  st : ∀ p ∈ own, ∀ g P, p.2 = .gen g P → ∃ x, gs[g]? = some x ∧ P x
  nd : (own.filterMap fun p => p.2.genOf).Nodup
theorem GensIs.nil {gs : Array GenState} (h : AllBare gs) : GensIs [] gs := ⟨h, fun p hp => (nomatch hp), List.nodup_nil⟩
theorem GensIs.sub {own own' : Own} {gs : Array GenState} (x : GensIs own gs) (h : own'.Sublist own) : GensIs own' gs :=
  ⟨x.bare, fun p hp => x.st p (h.subset hp), x.nd.sublist (h.filterMap _)⟩
theorem GensIs.perm {own own' : Own} {gs : Array GenState} (x : GensIs own gs) (h : own.Perm own') : GensIs own' gs :=
  ⟨x.bare, fun p hp => x.st p (h.mem_iff.mpr hp), (h.filterMap _).nodup_iff.mp x.nd⟩
theorem GensIs.cons {own : Own} {gs : Array GenState} {a : Addr} {ob : Ob} (x : GensIs own gs) (h : ob.genOf = none) : GensIs ((a, ob) :: own) gs := by
  refine ⟨x.bare, fun p hp g P e => ?_, ?_⟩
  · rcases List.mem_cons.mp hp with rfl | hp
    · rw [show ob = .gen g P from e] at h; cases h
    · exact x.st p hp g P e
  · rw [List.filterMap_cons, show (a, ob).2.genOf = none from h]; exact x.nd

structure Hold (W : Wd) (fz : Heap) (own : Own) (s : Shared) : Prop where
  base : Keep W.base fz
  has : Keep fz s.heap
  obs : ∀ p ∈ own, ∃ o, s.heap.get? p.1 = some o ∧ ObIs fz p.2 o
  out : ∀ p ∈ own, fz.get? p.1 = none
  nd : (own.map (·.1)).Nodup
  gens : GensIs own s.gens
  os : s.os = W.os

variable {W : Wd}

theorem Hold.toks {fz : Heap} {own : Own} {s : Shared} (H : Hold W fz own s) (k : Nat) : Hold W fz own { s with toks := k } := ⟨H.base, H.has, H.obs, H.out, H.nd, H.gens, H.os⟩
theorem Hold.kin {fz : Heap} {own : Own} {s : Shared} (H : Hold W fz own s) : W.K.In s.heap := W.kin.keeps (H.base.trans H.has)
theorem Hold.keep {fz : Heap} {own : Own} {s : Shared} (H : Hold W fz own s) : Keep W.base s.heap := H.base.trans H.has
theorem Hold.get {fz : Heap} {own : Own} {s : Shared} (H : Hold W fz own s) {a : Addr} {ob : Ob} (h : (a, ob) ∈ own) : ∃ o, s.heap.get? a = some o ∧ ObIs fz ob o := H.obs _ h

theorem Hold.sub {fz : Heap} {own own' : Own} {s : Shared} (H : Hold W fz own s) (h : own'.Sublist own) : Hold W fz own' s :=
  ⟨H.base, H.has, fun p hp => H.obs p (h.subset hp), fun p hp => H.out p (h.subset hp), H.nd.sublist (h.map _), H.gens.sub h, H.os⟩
theorem Hold.tail {fz : Heap} {p : Addr × Ob} {own : Own} {s : Shared} (H : Hold W fz (p :: own) s) : Hold W fz own s := H.sub (List.sublist_cons_self _ _)
theorem Hold.perm {fz : Heap} {own own' : Own} {s : Shared} (H : Hold W fz own s) (h : own.Perm own') : Hold W fz own' s :=
  ⟨H.base, H.has, fun p hp => H.obs p (h.mem_iff.mpr hp), fun p hp => H.out p (h.mem_iff.mpr hp), (h.map _).nodup_iff.mp H.nd, H.gens.perm h, H.os⟩

/-- one entry is turned -/
inductive Upd (a : Addr) (ob ob' : Ob) : Own → Own → Prop
  | here {l : Own} : Upd a ob ob' ((a, ob) :: l) ((a, ob') :: l)
  | there {p : Addr × Ob} {l l' : Own} : Upd a ob ob' l l' → Upd a ob ob' (p :: l) (p :: l')
theorem Upd.mem {a : Addr} {ob ob' : Ob} {l l' : Own} (u : Upd a ob ob' l l') : (a, ob) ∈ l := by
  induction u with
  | here => exact List.mem_cons_self
  | there _ ih => exact List.mem_cons_of_mem _ ih
theorem Upd.mem' {a : Addr} {ob ob' : Ob} {l l' : Own} (u : Upd a ob ob' l l') : (a, ob') ∈ l' := by
  induction u with
  | here => exact List.mem_cons_self
  | there _ ih => exact List.mem_cons_of_mem _ ih
theorem Upd.keys {a : Addr} {ob ob' : Ob} {l l' : Own} (u : Upd a ob ob' l l') : l'.map (·.1) = l.map (·.1) := by
  induction u with
  | here => rfl
  | there _ ih => simp [ih]
theorem Upd.other {a : Addr} {ob ob' : Ob} {l l' : Own} (u : Upd a ob ob' l l') : ∀ p ∈ l', p = (a, ob') ∨ p ∈ l := by
  induction u with
  | here => intro p hp; rcases List.mem_cons.mp hp with h | h; exact .inl h; exact .inr (List.mem_cons_of_mem _ h)
  | there _ ih => intro p hp; rcases List.mem_cons.mp hp with h | h; exact .inr (h ▸ List.mem_cons_self); exact (ih p h).imp id (List.mem_cons_of_mem _)
theorem mem_unique {l : Own} (nd : (l.map (·.1)).Nodup) {p q : Addr × Ob} (hp : p ∈ l) (hq : q ∈ l) (e : p.1 = q.1) : p = q := by
  induction l with
  | nil => cases hp
  | cons x l ih =>
    rw [List.map_cons, List.nodup_cons] at nd
    rcases List.mem_cons.mp hp with h1 | h1 <;> rcases List.mem_cons.mp hq with h2 | h2
    · rw [h1, h2]
    · exact absurd (List.mem_map.mpr ⟨q, h2, by rw [← e, h1]⟩) nd.1
    · exact absurd (List.mem_map.mpr ⟨p, h1, by rw [e, h2]⟩) nd.1
    · exact ih nd.2 h1 h2
theorem Upd.other' {a : Addr} {ob ob' : Ob} {l l' : Own} (nd : (l.map (·.1)).Nodup) (u : Upd a ob ob' l l') : ∀ p ∈ l', p = (a, ob') ∨ (p ∈ l ∧ p.1 ≠ a) := by
  induction u with
  | here =>
    intro p hp
    rw [List.map_cons, List.nodup_cons] at nd
    rcases List.mem_cons.mp hp with h | h
    · exact .inl h
    · exact .inr ⟨List.mem_cons_of_mem _ h, fun e => nd.1 (List.mem_map.mpr ⟨p, h, e⟩)⟩
  | @there q l l' v ih =>
    intro p hp
    rw [List.map_cons, List.nodup_cons] at nd
    rcases List.mem_cons.mp hp with h | h
    · subst h
      exact .inr ⟨List.mem_cons_self, fun e => nd.1 (List.mem_map.mpr ⟨_, v.mem, e.symm⟩)⟩
    · exact (ih nd.2 p h).imp id fun x => ⟨List.mem_cons_of_mem _ x.1, x.2⟩

theorem GensIs.upd {own own' : Own} {gs : Array GenState} {a : Addr} {ob ob' : Ob} (x : GensIs own gs) (u : Upd a ob ob' own own') (h : ob'.genOf = none) : GensIs own' gs := by
  refine ⟨x.bare, fun p hp g P e => ?_, ?_⟩
  · rcases u.other p hp with rfl | hp
    · rw [show ob' = .gen g P from e] at h; cases h
    · exact x.st p hp g P e
  · have : (own'.filterMap fun p => p.2.genOf).Sublist (own.filterMap fun p => p.2.genOf) := by
      clear x
      induction u with
      | here =>
        rw [List.filterMap_cons, show (a, ob').2.genOf = none from h]
        exact (List.sublist_cons_self _ _).filterMap _
      | @there q l l' _ ih =>
        rw [List.filterMap_cons, List.filterMap_cons]
        cases q.2.genOf with
        | none => exact ih
        | some n => exact ih.cons_cons n
    exact x.nd.sublist this
/-- an entry changes by a step that touches its object alone -/
theorem Hold.set {fz : Heap} {own own' : Own} {s : Shared} (H : Hold W fz own s) {a : Addr} {ob ob' : Ob} (u : Upd a ob ob' own own') {h' : Heap} {k : Nat} (hs : Heap.SameBut a s.heap h')
    {o : Obj} (ho : h'.get? a = some o) (hob : ObIs fz ob' o) (hg : ob'.genOf = none := by rfl) : Hold W fz own' { s with heap := h', toks := k } where
  base := H.base
  has := fun b o e => (hs.2 b (fun hb => by have := H.out _ u.mem; rw [hb] at e; exact absurd e (by rw [this]; exact fun x => nomatch x))).trans (H.has b o e)
  obs := fun p hp => by
    rcases u.other' H.nd p hp with rfl | ⟨h, hne⟩
    · exact ⟨o, ho, hob⟩
    · obtain ⟨o', e, r⟩ := H.obs p h
      exact ⟨o', (hs.2 p.1 hne).trans e, r⟩
  out := fun p hp => by
    rcases u.other' H.nd p hp with rfl | ⟨h, _⟩
    · exact H.out (a, ob) u.mem
    · exact H.out p h
  nd := by rw [u.keys]; exact H.nd
  gens := H.gens.upd u hg
  os := H.os

/-- a step that keeps all but what is not told -/
theorem Hold.grow {fz : Heap} {own : Own} {s : Shared} (H : Hold W fz own s) {h' : Heap} {k : Nat} (hk : Keep s.heap h') : Hold W fz own { s with heap := h', toks := k } where
  base := H.base
  has := H.has.trans hk
  obs := fun p hp => let ⟨o, e, r⟩ := H.obs p hp; ⟨o, hk _ _ e, r⟩
  out := H.out
  nd := H.nd
  gens := H.gens
  os := H.os

theorem get?_ge {h : Heap} {a : Addr} (x : h.objs.size ≤ a) : h.get? a = none := by
  cases e : h.get? a with
  | none => rfl
  | some o => exact absurd (Heap.lt_size e) (Nat.not_lt.mpr x)
theorem Keep.push (h : Heap) (o : Obj) : Keep h (h.push o) := fun _ _ e => Heap.get?_push_of_some o e

/-- a new object enters the list; the heap has grown -/
theorem Hold.new {fz : Heap} {own : Own} {s : Shared} (H : Hold W fz own s) {h' : Heap} {k : Nat} (hk : Keep s.heap h') {a : Addr} (ha : s.heap.get? a = none) {o : Obj} {ob : Ob}
    (ho : h'.get? a = some o) (hob : ObIs fz ob o) (hg : ob.genOf = none := by rfl) : Hold W fz ((a, ob) :: own) { s with heap := h', toks := k } where
  base := H.base
  has := H.has.trans hk
  obs := fun p hp => by
    rcases List.mem_cons.mp hp with rfl | hp
    · exact ⟨o, ho, hob⟩
    · obtain ⟨o', e, r⟩ := H.obs p hp
      exact ⟨o', hk _ _ e, r⟩
  out := fun p hp => by
    rcases List.mem_cons.mp hp with rfl | hp
    · cases e : fz.get? a with
      | none => rfl
      | some o' => exact absurd (H.has _ _ e) (by rw [ha]; exact fun x => nomatch x)
    · exact H.out p hp
  nd := by
    rw [List.map_cons, List.nodup_cons]
    refine ⟨fun hm => ?_, H.nd⟩
    obtain ⟨p, hp, e⟩ := List.mem_map.mp hm
    obtain ⟨o', e', _⟩ := H.obs p hp
    rw [e, ha] at e'
    cases e'
  gens := H.gens.cons hg
  os := H.os
end
section
/-- no way raises -/
noncomputable abbrev NoX : Value → Shared → Prop := fun _ _ => False

/-- what stands behind a step -/
inductive Post {α β : Type} (W : Wd) (R : Heap → β → α → Prop) (Q : β → Own → Prop) (fz : Heap) (a : α) (s' : Shared) : Prop
  | mk (fz' : Heap) (b : β) (own' : Own) (k : Keep fz fz') (H : Hold W fz' own' s') (r : R fz' b a) (q : Q b own') : Post W R Q fz a s'
noncomputable def At {α β : Type} (W : Wd) (A : Around) (R : Heap → β → α → Prop) (t : Sem α) (Q : β → Own → Prop) (fz : Heap) (s : Shared) : Prop :=
  wpAny (model W.prog W.w) A t (fun a s' => Post W R Q fz a s') NoX s

noncomputable def SG {α β : Type} (W : Wd) (A : Around) (R : Heap → β → α → Prop) (t : Sem α) (own : Own) (Q : β → Own → Prop) : Prop :=
  ∀ fz s, Hold W fz own s → W.tk ≤ s.toks → At W A R t Q fz s

/-- of one value, of two, of a list -/
noncomputable def S1 {α β : Type} (W : Wd) (A : Around) (R : Heap → β → α → Prop) (f : Value → Sem α) (a : V) (own : Own) (Q : β → Own → Prop) : Prop :=
  ∀ fz s v, Hold W fz own s → W.tk ≤ s.toks → RV fz a v → At W A R (f v) Q fz s
noncomputable def S2 {α β : Type} (W : Wd) (A : Around) (R : Heap → β → α → Prop) (f : Value → Value → Sem α) (a b : V) (own : Own) (Q : β → Own → Prop) : Prop :=
  ∀ fz s v u, Hold W fz own s → W.tk ≤ s.toks → RV fz a v → RV fz b u → At W A R (f v u) Q fz s
noncomputable def SL {α β : Type} (W : Wd) (A : Around) (R : Heap → β → α → Prop) (f : List Value → Sem α) (l : List V) (own : Own) (Q : β → Own → Prop) : Prop :=
  ∀ fz s vs, Hold W fz own s → W.tk ≤ s.toks → RVs fz l vs → At W A R (f vs) Q fz s

noncomputable abbrev RB : Heap → Bool → Bool → Prop := fun _ b a => a = b
noncomputable abbrev RU : Heap → Unit → Unit → Prop := fun _ _ _ => True

inductive Fl where
  | next | brk | cont
  | ret (v : V)
inductive RF (fz : Heap) : Fl → Flow → Prop
  | next : RF fz .next .next
  | brk : RF fz .brk .brk
  | cont : RF fz .cont .cont
  | ret {a : V} {v : Value} : RV fz a v → RF fz (.ret a) (.ret v)

variable {W : Wd} {A : Around} {env : Env} {own : Own}

theorem Post.weak {α β : Type} {R : Heap → β → α → Prop} {Q : β → Own → Prop} {fz fz' : Heap} {a : α} {s : Shared} (h : Post W R Q fz' a s) (k : Keep fz fz') : Post W R Q fz a s := by
  obtain ⟨fz₁, b, own', k', H, r, q⟩ := h
  exact ⟨fz₁, b, own', k.trans k', H, r, q⟩
theorem At.weak {α β : Type} {R : Heap → β → α → Prop} {t : Sem α} {Q : β → Own → Prop} {fz fz' : Heap} {s : Shared} (h : At W A R t Q fz' s) (k : Keep fz fz') : At W A R t Q fz s :=
  wpAny_mono h (fun _ _ ⟨fz₁, b, own', k', H, r, q⟩ => ⟨fz₁, b, own', k.trans k', H, r, q⟩) fun _ _ x => x
theorem At.mono {α β : Type} {R : Heap → β → α → Prop} {t : Sem α} {Q Q' : β → Own → Prop} {fz : Heap} {s : Shared} (h : At W A R t Q fz s) (q : ∀ b own', Q b own' → Q' b own') : At W A R t Q' fz s :=
  wpAny_mono h (fun _ _ ⟨fz₁, b, own', k', H, r, x⟩ => ⟨fz₁, b, own', k', H, r, q _ _ x⟩) fun _ _ x => x
theorem SG.mono {α β : Type} {R : Heap → β → α → Prop} {t : Sem α} {Q Q' : β → Own → Prop} (h : SG W A R t own Q) (q : ∀ b own', Q b own' → Q' b own') : SG W A R t own Q' :=
  fun fz s H ht => (h fz s H ht).mono q

/-- the one way to go on -/
theorem wp_then {α β : Type} {R : Heap → β → α → Prop} {t : Sem α} {Q : β → Own → Prop} {fz : Heap} {s : Shared} {P : α → Shared → Prop} (h : At W A R t Q fz s) (ht : W.tk ≤ s.toks)
    (q : ∀ fz' a b own' s', Keep fz fz' → Hold W fz' own' s' → W.tk ≤ s'.toks → R fz' b a → Q b own' → P a s') : wpAny (model W.prog W.w) A t P NoX s :=
  wpAny_mono (wpAny_toks_of ht h) (fun a s' ⟨t', ⟨fz', b, own', k, H, r, x⟩⟩ => q fz' a b own' s' k H t' r x) fun _ _ x => x.2

noncomputable abbrev SE (W : Wd) (A : Around) (env : Env) (e : Expr) (own : Own) (Q : V → Own → Prop) : Prop := SG W A RV (eval e env) own Q
noncomputable abbrev ST (W : Wd) (A : Around) (env : Env) (e : Expr) (own : Own) (Q : Bool → Own → Prop) : Prop := SG W A RB (isTrue e env (eval e env)) own Q
noncomputable abbrev SX (W : Wd) (A : Around) (env : Env) (st : Stmt) (own : Own) (Q : Fl → Own → Prop) : Prop := SG W A RF (exec st env) own Q
noncomputable abbrev SXs (W : Wd) (A : Around) (env : Env) (l : List Stmt) (own : Own) (Q : Fl → Own → Prop) : Prop := SG W A RF (execs l env) own Q
noncomputable abbrev SS (W : Wd) (A : Around) (env : Env) (x : Str) (a : V) (own : Own) (Q : Own → Prop) : Prop := S1 W A RU (storeName env x) a own (fun _ => Q)
noncomputable abbrev SA (W : Wd) (A : Around) (env : Env) (t : Expr) (a : V) (own : Own) (Q : Own → Prop) : Prop := S1 W A RU (assign t env) a own (fun _ => Q)

/-! ### constants, names -/
theorem SE_int {i : Int} {k : Nat} {pos : Pos} {Q : V → Own → Prop} (h : Q (.int i) own) : SE W A env (.Constant (.int i) k pos) own Q :=
  fun fz s H _ => wpAny_Constant_int ⟨fz, _, own, .refl _, H.toks _, .dat (.int _ _), h⟩
theorem SE_str {x : Str} {k : Nat} {pos : Pos} {Q : V → Own → Prop} (h : Q (.str x) own) : SE W A env (.Constant (.str x) k pos) own Q :=
  fun fz s H _ => wpAny_Constant_str ⟨fz, _, own, .refl _, H.toks _, .dat (.str _ _), h⟩
theorem SE_bool {b : Bool} {k : Nat} {pos : Pos} {Q : V → Own → Prop} (h : Q (.bool b) own) : SE W A env (.Constant (.bool b) k pos) own Q :=
  fun fz s H _ => wpAny_Constant_bool ⟨fz, _, own, .refl _, H, .dat (.bool _), h⟩
theorem SE_none {k : Nat} {pos : Pos} {Q : V → Own → Prop} (h : Q .none own) : SE W A env (.Constant .none k pos) own Q :=
  fun fz s H _ => wpAny_Constant_none ⟨fz, _, own, .refl _, H, .dat .none, h⟩

theorem ns_of {h : Heap} {a : Addr} {o : Obj} {fz : Heap} {loc : List (Str × V)} (ho : h.get? a = some o) (x : NsIs fz loc o) :
    ∃ m, h.Ns a m ∧ ∀ p ∈ loc, ∃ v, m p.1 = some v ∧ RV fz p.2 v := by
  obtain ⟨es, ep, h1, h2, h3⟩ := x
  exact ⟨_, ⟨o, es, ep, ho, h1, h2, fun _ => rfl⟩, h3⟩
theorem of_ns {h : Heap} {a : Addr} {m : Str → Option Value} {fz : Heap} {loc : List (Str × V)} (x : h.Ns a m) (r : ∀ p ∈ loc, ∃ v, m p.1 = some v ∧ RV fz p.2 v) :
    ∃ o, h.get? a = some o ∧ NsIs fz loc o := by
  obtain ⟨o, es, ep, ho, h1, h2, h3⟩ := x
  exact ⟨o, ho, es, ep, h1, h2, fun p hp => by obtain ⟨v, e, q⟩ := r p hp; exact ⟨v, (h3 _).trans e, q⟩⟩

theorem SN_local {x : Str} {loc : List (Str × V)} {a : V} {Q : V → Own → Prop} (hk : env.scope.kind = .function) (hl : env.kindOf x = some .local) (hm : (env.locals, Ob.ns loc) ∈ own) (hx : (x, a) ∈ loc)
    (h : Q a own) : SG W A RV (loadName env x) own Q := fun fz s H _ => by
  obtain ⟨o, ho, x1⟩ := H.get hm
  obtain ⟨m, hn, hv⟩ := ns_of ho x1
  obtain ⟨v, e, r⟩ := hv _ hx
  exact wpAny_loadName_local hk hl hn e ⟨fz, a, own, .refl _, H, r, h⟩
theorem SN_cell {x : Str} {c : Addr} {a : V} {Q : V → Own → Prop} (hk : env.scope.kind = .function) (hl : env.kindOf x = some .cell) (hc : env.cells.lookup x = some c) (hm : (c, Ob.cell (some a)) ∈ own)
    (h : Q a own) : SG W A RV (loadName env x) own Q := fun fz s H _ => by
  obtain ⟨o, ho, v, e, r⟩ := H.get hm
  exact wpAny_loadName_cell hk hl hc ⟨o, ho, e⟩ ⟨fz, a, own, .refl _, H, r, h⟩
theorem SN_global {x : Str} {v : Value} {Q : V → Own → Prop} (hk : env.scope.kind = .function) (hg : env.globals = mainGlobals) (hl : env.kindOf x = some .globalImplicit) (e : nsIn W.K mainGlobals x = some (some v))
    (h : Q (.val v) own) : SG W A RV (loadName env x) own Q := fun fz s H _ => by
  unfold loadName
  simp only [Env.blockKind, hk, hl, ScopeKind.isAnnotationScope, Bool.false_and, Bool.false_eq_true, if_false]
  exact Calls.loadGlobal_global (by rw [hg]; exact W.top.g.keeps H.keep) (mg_of W.kin W.top.g e) ⟨fz, _, own, .refl _, H, .val v, h⟩
theorem SN_builtin {x : Str} {v : Value} {Q : V → Own → Prop} (hk : env.scope.kind = .function) (hg : env.globals = mainGlobals) (hb : env.builtins = builtinsNs) (hl : env.kindOf x = some .globalImplicit) (e : nsIn W.K mainGlobals x = some none)
    (hv : bootBuiltins x = some v) (hn : x ≠ "__name__") (h : Q (.val v) own) : SG W A RV (loadName env x) own Q := fun fz s H _ => by
  unfold loadName
  simp only [Env.blockKind, hk, hl, ScopeKind.isAnnotationScope, Bool.false_and, Bool.false_eq_true, if_false]
  exact Calls.loadGlobal_builtin (by rw [hg]; exact W.top.g.keeps H.keep) (mg_none_of W.kin W.top.g e) (by rw [hb]; exact W.top.b.keeps H.keep) ((W.top.builtins x hn).trans hv) ⟨fz, _, own, .refl _, H, .val v, h⟩
theorem SE_Name {x : Str} {pos : Pos} {Q : V → Own → Prop} (h : SG W A RV (loadName env x) own Q) (hd : (x == ("__debug__" : Str)) = false := by decide) : SE W A env (.Name x pos) own Q :=
  fun fz s H ht => wpAny_Name (h fz s H ht) hd

/-! ### stores -/
inductive Put (x : Str) (a : V) : List (Str × V) → List (Str × V) → Prop
  | new : Put x a [] [(x, a)]
  | here {b : V} {l : List (Str × V)} : Put x a ((x, b) :: l) ((x, a) :: l)
  | there {p : Str × V} {l l' : List (Str × V)} : Put x a l l' → Put x a (p :: l) (p :: l')
theorem Put.other {x : Str} {a : V} {l l' : List (Str × V)} (u : Put x a l l') (nd : (l'.map (·.1)).Nodup) : ∀ p ∈ l', p = (x, a) ∨ (p ∈ l ∧ p.1 ≠ x) := by
  have hin : ∀ {l l' : List (Str × V)}, Put x a l l' → (x, a) ∈ l' := by
    intro l l' u
    induction u with
    | new => exact List.mem_cons_self
    | here => exact List.mem_cons_self
    | there _ ih => exact List.mem_cons_of_mem _ ih
  induction u with
  | new => intro p hp; exact .inl (by simpa using hp)
  | here =>
    intro p hp
    rw [List.map_cons, List.nodup_cons] at nd
    rcases List.mem_cons.mp hp with h | h
    · exact .inl h
    · exact .inr ⟨List.mem_cons_of_mem _ h, fun e => nd.1 (List.mem_map.mpr ⟨p, h, e⟩)⟩
  | @there q l l' v ih =>
    intro p hp
    rw [List.map_cons, List.nodup_cons] at nd
    rcases List.mem_cons.mp hp with h | h
    · subst h
      exact .inr ⟨List.mem_cons_self, fun e => nd.1 (List.mem_map.mpr ⟨_, hin v, e.symm⟩)⟩
    · exact (ih nd.2 p h).imp id fun x => ⟨List.mem_cons_of_mem _ x.1, x.2⟩

theorem SS_local {x : Str} {loc loc' : List (Str × V)} {a : V} {own' : Own} {Q : Own → Prop} (hk : env.scope.kind = .function) (hl : env.kindOf x = some .local) (hu : Put x a loc loc') (nd : ((loc'.map (·.1)).Nodup))
    (u : Upd env.locals (.ns loc) (.ns loc') own own') (h : Q own') : SS W A env x a own Q := fun fz s v H _ r => by
  obtain ⟨o, ho, x1⟩ := H.get u.mem
  obtain ⟨m, hn, hv⟩ := ns_of ho x1
  refine wpAny_storeName_local hl hn (fun h' hn' hs' => ?_) (by rw [hk]; rfl)
  obtain ⟨o', ho', hob⟩ := of_ns (fz := fz) (loc := loc') hn' (fun p hp => by
    rcases hu.other nd p hp with rfl | ⟨hp', hne⟩
    · exact ⟨v, by simp, r⟩
    · obtain ⟨u, e, r'⟩ := hv p hp'; exact ⟨u, by simp [hne, e], r'⟩)
  exact ⟨fz, (), own', .refl _, H.set u hs' ho' hob, trivial, h⟩
theorem SS_cell {x : Str} {c : Addr} {a : V} {a₀ : Option V} {own' : Own} {Q : Own → Prop} (hk : env.scope.kind = .function) (hl : env.kindOf x = some .cell) (hc : env.cells.lookup x = some c)
    (u : Upd c (.cell a₀) (.cell (some a)) own own') (h : Q own') : SS W A env x a own Q := fun fz s v H _ r => by
  obtain ⟨o, ho, x1⟩ := H.get u.mem
  have hcell : ∃ v₀, s.heap.IsCell c v₀ := by
    cases a₀ with
    | none => exact ⟨none, o, ho, x1⟩
    | some b => obtain ⟨w, e, _⟩ := x1; exact ⟨some w, o, ho, e⟩
  obtain ⟨v₀, hc0⟩ := hcell
  refine wpAny_storeName_cell hk hl hc hc0 fun h' ⟨o', ho', e'⟩ hs' => ?_
  exact ⟨fz, (), own', .refl _, H.set (k := s.toks) u hs' ho' ⟨v, e', r⟩, trivial, h⟩

theorem SS_loc {x : Str} {L : Addr} {loc loc' : List (Str × V)} {a : V} {own' : Own} {Q : Own → Prop} (hk : env.scope.kind = .function) (hl : env.kindOf x = some .local) (hm : (L, Ob.ns loc) ∈ own) (hL : env.locals = L) (hu : Put x a loc loc') (nd : ((loc'.map (·.1)).Nodup))
    (u : Upd L (.ns loc) (.ns loc') own own') (h : Q own') : SS W A env x a own Q := SS_local hk hl hu nd (by rw [hL]; exact u) h
theorem SN_loc {x : Str} {L : Addr} {loc : List (Str × V)} {a : V} {Q : V → Own → Prop} (hk : env.scope.kind = .function) (hl : env.kindOf x = some .local) (hm : (L, Ob.ns loc) ∈ own) (hL : env.locals = L) (hx : (x, a) ∈ loc)
    (h : Q a own) : SG W A RV (loadName env x) own Q := SN_local hk hl (by rw [hL]; exact hm) hx h
theorem SA_Name {x : Str} {pos : Pos} {a : V} {Q : Own → Prop} (h : SS W A env x a own Q) : SA W A env (.Name x pos) a own Q :=
  fun fz s v H ht r => wpAny_assign_Name (h fz s v H ht r)

/-! ### expressions: the nodes -/
theorem SE_BinOp {l r : Expr} {op : Operator} {pos : Pos} {Q : V → Own → Prop} (h : SE W A env l own fun a o1 => SE W A env r o1 fun b o2 => S2 W A RV (binaryOp op) a b o2 Q) :
    SE W A env (.BinOp l op r pos) own Q := fun fz s H ht => by
  refine wpAny_BinOp (wp_then (h fz s H ht) ht fun fz1 va a o1 s1 k1 H1 t1 r1 q1 => wp_then (q1 fz1 s1 H1 t1) t1 fun fz2 vb b o2 s2 k2 H2 t2 r2 q2 => ?_)
  exact (q2 fz2 s2 va vb H2 t2 (r1.mono k2) r2).weak (k1.trans k2)
theorem SE_Compare {l r : Expr} {op : CmpOp} {pos : Pos} {Q : V → Own → Prop} (h : SE W A env l own fun a o1 => SE W A env r o1 fun b o2 => S2 W A RV (compareOp op) a b o2 Q)
    (hm : behindInMarks op r = false := by with_unfolding_all rfl) : SE W A env (.Compare l [op] [r] pos) own Q := fun fz s H ht => by
  refine wpAny_Compare1 (wp_then (h fz s H ht) ht fun fz1 va a o1 s1 k1 H1 t1 r1 q1 => wp_then (q1 fz1 s1 H1 t1) t1 fun fz2 vb b o2 s2 k2 H2 t2 r2 q2 => ?_) hm
  exact (q2 fz2 s2 va vb H2 t2 (r1.mono k2) r2).weak (k1.trans k2)
theorem SE_IfExp {t b o : Expr} {pos : Pos} {Q : V → Own → Prop} (h : ST W A env t own fun c o1 => if c then SE W A env b o1 Q else SE W A env o o1 Q) : SE W A env (.IfExp t b o pos) own Q := fun fz s H ht => by
  refine wpAny_IfExp (wp_then (h fz s H ht) ht fun fz1 va a o1 s1 k1 H1 t1 r1 q1 => ?_)
  subst r1
  cases va
  · exact (q1 fz1 s1 H1 t1).weak k1
  · exact (q1 fz1 s1 H1 t1).weak k1
theorem SE_Subscript {o i : Expr} {pos : Pos} {Q : V → Own → Prop} (h : SE W A env o own fun a o1 => SE W A env i o1 fun b o2 => S2 W A RV (subscriptTail o i) a b o2 Q) :
    SE W A env (.Subscript o i pos) own Q := fun fz s H ht => by
  refine Subscript_ (wp_then (h fz s H ht) ht fun fz1 va a o1 s1 k1 H1 t1 r1 q1 => wp_then (q1 fz1 s1 H1 t1) t1 fun fz2 vb b o2 s2 k2 H2 t2 r2 q2 => ?_)
  exact (q2 fz2 s2 va vb H2 t2 (r1.mono k2) r2).weak (k1.trans k2)
theorem SE_Attribute {o : Expr} {n : Str} {pos : Pos} {Q : V → Own → Prop} (h : SE W A env o own fun a o1 => S1 W A RV (fun v => getAttr v n true) a o1 Q)
    (he : eval (.Attribute o n pos) env = (do
      let v ← eval o env
      standAt pos.atName
      let r ← holding [v] (getAttr v n true)
      letTemporaryGo o v r
      pure r) := by with_unfolding_all rfl) : SE W A env (.Attribute o n pos) own Q := fun fz s H ht =>
  Attribute_any_ (wp_then (h fz s H ht) ht fun fz1 va a o1 s1 k1 H1 t1 r1 q1 => (q1 fz1 s1 va H1 t1 r1).weak k1) he

/-! ### tests -/
theorem ST_Compare {l r : Expr} {op : CmpOp} {pos : Pos} {Q : Bool → Own → Prop} (h : SE W A env l own fun a o1 => SE W A env r o1 fun b o2 => S2 W A RV (compareOp op) a b o2 fun c o3 => S1 W A RB truthy c o3 Q)
    (hm : behindInMarks op r = false := by with_unfolding_all rfl) : ST W A env (.Compare l [op] [r] pos) own Q := fun fz s H ht => by
  refine wpAny_isTrue_Compare1 (wp_then (h fz s H ht) ht fun fz1 va a o1 s1 k1 H1 t1 r1 q1 => wp_then (q1 fz1 s1 H1 t1) t1 fun fz2 vb b o2 s2 k2 H2 t2 r2 q2 =>
    wp_then (q2 fz2 s2 va vb H2 t2 (r1.mono k2) r2) t2 fun fz3 vc c o3 s3 k3 H3 t3 r3 q3 => ?_) hm
  exact (q3 fz3 s3 vc H3 t3 r3).weak (k1.trans (k2.trans k3))
theorem ST_not {x : Expr} {pos : Pos} {Q : Bool → Own → Prop} (h : ST W A env x own fun c o1 => Q (!c) o1) : ST W A env (.UnaryOp .Not x pos) own Q := fun fz s H ht =>
  isTrue_not (wp_then (h fz s H ht) ht fun fz1 va a o1 s1 k1 H1 t1 r1 q1 => by subst r1; exact ⟨fz1, _, o1, k1, H1, rfl, q1⟩)
theorem SG_and_nil {pos : Pos} {whole : Sem Value} {Q : Bool → Own → Prop} (h : Q true own) : SG W A RB (isTrue (.BoolOp .And [] pos) env whole) own Q := fun fz s H _ =>
  isTrue_and_nil ⟨fz, _, own, .refl _, H, rfl, h⟩
theorem SG_or_nil {pos : Pos} {whole : Sem Value} {Q : Bool → Own → Prop} (h : Q false own) : SG W A RB (isTrue (.BoolOp .Or [] pos) env whole) own Q := fun fz s H _ =>
  isTrue_or_nil ⟨fz, _, own, .refl _, H, rfl, h⟩
theorem SG_and {x : Expr} {rest : List Expr} {pos : Pos} {whole : Sem Value} {Q : Bool → Own → Prop}
    (h : ST W A env x own fun c o1 => if c then SG W A RB (isTrue (.BoolOp .And rest pos) env whole) o1 Q else Q false o1) : SG W A RB (isTrue (.BoolOp .And (x :: rest) pos) env whole) own Q := fun fz s H ht => by
  refine isTrue_and (wp_then (h fz s H ht) ht fun fz1 va a o1 s1 k1 H1 t1 r1 q1 => ?_)
  subst r1
  cases va
  · exact ⟨fz1, _, o1, k1, H1, rfl, q1⟩
  · exact (q1 fz1 s1 H1 t1).weak k1
theorem SG_or {x : Expr} {rest : List Expr} {pos : Pos} {whole : Sem Value} {Q : Bool → Own → Prop}
    (h : ST W A env x own fun c o1 => if c then Q true o1 else SG W A RB (isTrue (.BoolOp .Or rest pos) env whole) o1 Q) : SG W A RB (isTrue (.BoolOp .Or (x :: rest) pos) env whole) own Q := fun fz s H ht => by
  refine isTrue_or (wp_then (h fz s H ht) ht fun fz1 va a o1 s1 k1 H1 t1 r1 q1 => ?_)
  subst r1
  cases va
  · exact (q1 fz1 s1 H1 t1).weak k1
  · exact ⟨fz1, _, o1, k1, H1, rfl, q1⟩
theorem ST_plain {e : Expr} {Q : Bool → Own → Prop} (h : SE W A env e own fun a o1 => S1 W A RB truthy a o1 Q)
    (he : isTrue e env (eval e env) = (do let v ← eval e env; standAt e.pos; holding [v] (truthy v)) := by rfl) : ST W A env e own Q := fun fz s H ht =>
  isTrue_plain (wp_then (h fz s H ht) ht fun fz1 va a o1 s1 k1 H1 t1 r1 q1 => (q1 fz1 s1 va H1 t1 r1).weak k1) he

/-! ### statements -/
theorem SXs_nil {Q : Fl → Own → Prop} (h : Q .next own) : SXs W A env [] own Q := fun fz s H _ => wpAny_execs_nil ⟨fz, _, own, .refl _, H, .next, h⟩
/-- on from a statement: only a plain end goes on -/
noncomputable abbrev onNext (P : Own → Prop) (Q : Fl → Own → Prop) : Fl → Own → Prop
  | .next, o => P o
  | f, o => Q f o
theorem SXs_cons {st : Stmt} {rest : List Stmt} {Q : Fl → Own → Prop} (h : SX W A env st own (onNext (fun o1 => SXs W A env rest o1 Q) Q)) : SXs W A env (st :: rest) own Q := fun fz s H ht => by
  refine wpAny_execs_cons (wp_then (h fz s H ht) ht fun fz1 va a o1 s1 k1 H1 t1 r1 q1 => ?_)
  cases r1 with
  | next => exact At.weak (q1 fz1 s1 H1 t1) k1
  | brk => exact ⟨fz1, _, o1, k1, H1, .brk, q1⟩
  | cont => exact ⟨fz1, _, o1, k1, H1, .cont, q1⟩
  | ret r => exact ⟨fz1, _, o1, k1, H1, .ret r, q1⟩
theorem SX_If {t : Expr} {b o : List Stmt} {pos : Pos} {Q : Fl → Own → Prop} (h : ST W A env t own fun c o1 => if c then SXs W A env b o1 Q else SXs W A env o o1 Q) : SX W A env (.If t b o pos) own Q := fun fz s H ht => by
  refine wpAny_If (wp_then (h fz s H ht) ht fun fz1 va a o1 s1 k1 H1 t1 r1 q1 => ?_)
  subst r1
  cases va
  · exact At.weak (q1 fz1 s1 H1 t1) k1
  · exact At.weak (q1 fz1 s1 H1 t1) k1
theorem SX_Return {e : Expr} {pos : Pos} {Q : Fl → Own → Prop} (h : SE W A env e own fun a o1 => Q (.ret a) o1) : SX W A env (.Return (some e) pos) own Q := fun fz s H ht =>
  wpAny_Return_some (wp_then (h fz s H ht) ht fun fz1 va a o1 s1 k1 H1 t1 r1 q1 => ⟨fz1, _, o1, k1, H1, .ret r1, q1⟩)
theorem SX_Return0 {pos : Pos} {Q : Fl → Own → Prop} (h : Q (.ret .none) own) : SX W A env (.Return none pos) own Q := fun fz s H _ =>
  wpAny_Return_none ⟨fz, _, own, .refl _, H, .ret (.dat .none), h⟩
theorem SX_Assign {x : Str} {p pos : Pos} {e : Expr} {Q : Fl → Own → Prop} (h : SE W A env e own fun a o1 => SS W A env x a o1 fun o2 => Q .next o2)
    (hs : swapsWith e (some (.Name x p)) pos.line env = pure false := by rfl) : SX W A env (.Assign [.Name x p] e pos) own Q := fun fz s H ht => by
  refine wpAny_Assign_Name (wp_then (h fz s H ht) ht fun fz1 va a o1 s1 k1 H1 t1 r1 q1 => wp_then (q1 fz1 s1 va H1 t1 r1) t1 fun fz2 _ _ o2 s2 k2 H2 t2 _ q2 => ?_) hs
  exact ⟨fz2, _, o2, k1.trans k2, H2, .next, q2⟩
theorem SX_Aug {x : Str} {p pos : Pos} {op : Operator} {e : Expr} {Q : Fl → Own → Prop}
    (h : SG W A RV (loadName env x) own fun a o1 => SE W A env e o1 fun b o2 => S2 W A RV (inplaceOp op) a b o2 fun c o3 => SS W A env x c o3 fun o4 => Q .next o4) : SX W A env (.AugAssign (.Name x p) op e pos) own Q := fun fz s H ht => by
  refine wpAny_AugAssign_Name (wp_then (h fz s H ht) ht fun fz1 va a o1 s1 k1 H1 t1 r1 q1 => wp_then (q1 fz1 s1 H1 t1) t1 fun fz2 vb b o2 s2 k2 H2 t2 r2 q2 =>
    wp_then (q2 fz2 s2 va vb H2 t2 (r1.mono k2) r2) t2 fun fz3 vc c o3 s3 k3 H3 t3 r3 q3 => wp_then (q3 fz3 s3 vc H3 t3 r3) t3 fun fz4 _ _ o4 s4 k4 H4 t4 _ q4 => ?_)
  exact ⟨fz4, _, o4, k1.trans (k2.trans (k3.trans k4)), H4, .next, q4⟩
theorem SX_Expr {e : Expr} {pos : Pos} {Q : Fl → Own → Prop} (h : SE W A env e own fun _ o1 => Q .next o1) (hi : interactive env = false := by rfl) (hs : swapsWith e none pos.line env = pure false := by rfl) :
    SX W A env (.Expr e pos) own Q := fun fz s H ht =>
  wpAny_Expr_any (wp_then (h fz s H ht) ht fun fz1 va a o1 s1 k1 H1 t1 r1 q1 => ⟨fz1, _, o1, k1, H1, .next, q1⟩) hi hs
end
section
variable {W : Wd} {A : Around} {env : Env} {own : Own}

/-! ### what a value is -/
theorem RV.int_inv {fz : Heap} {i : Int} {v : Value} (x : RV fz (.int i) v) : ∃ t, v = .int i t := by cases x with | dat r => cases r; exact ⟨_, rfl⟩
theorem RV.str_inv {fz : Heap} {x : Str} {v : Value} (h : RV fz (.str x) v) : ∃ t, v = .str x t := by cases h with | dat r => cases r; exact ⟨_, rfl⟩
theorem RV.bool_inv {fz : Heap} {b : Bool} {v : Value} (x : RV fz (.bool b) v) : v = .bool b := by cases x with | dat r => cases r; rfl
theorem RV.none_inv {fz : Heap} {v : Value} (x : RV fz .none v) : v = .none := by cases x with | dat r => cases r; rfl
theorem RV.val_inv {fz : Heap} {u v : Value} (x : RV fz (.val u) v) : v = u := by cases x; rfl
theorem RV.lst_inv {fz : Heap} {l : List PyData} {v : Value} (x : RV fz (.lst l) v) : ∃ a vs, v = .ref a ∧ fz.IsList a vs ∧ RVs fz (l.map V.dat) vs.toList := by
  cases x with
  | dat r => cases r with | @list a o vs n xs as ho hc hd hr => exact ⟨a, vs, rfl, ⟨o, ho, hc, n, hd⟩, .of_reads hr⟩
theorem RV.tup_inv {fz : Heap} {l : List PyData} {v : Value} (x : RV fz (.tup l) v) : ∃ a vs, v = .ref a ∧ fz.IsTuple a vs ∧ RVs fz (l.map V.dat) vs.toList := by
  cases x with
  | dat r => cases r with | @tuple a o vs n xs as ho hc hd hr => exact ⟨a, vs, rfl, ⟨o, ho, hc, n, hd⟩, .of_reads hr⟩
theorem IsList_keep {h h' : Heap} {a : Addr} {vs : Array Value} (x : h.IsList a vs) (k : Keep h h') : h'.IsList a vs := let ⟨o, ho, r⟩ := x; ⟨o, k _ _ ho, r⟩
theorem IsTuple_keep {h h' : Heap} {a : Addr} {vs : Array Value} (x : h.IsTuple a vs) (k : Keep h h') : h'.IsTuple a vs := let ⟨o, ho, r⟩ := x; ⟨o, k _ _ ho, r⟩

/-- an answer that is a token's matter alone -/
theorem at_tok {Q : V → Own → Prop} {fz : Heap} {s : Shared} {a : V} {v : Value} (H : Hold W fz own s) (k : Nat) (r : RV fz a v) (q : Q a own) :
    Post W RV Q fz v { s with toks := k } := ⟨fz, a, own, .refl _, H.toks k, r, q⟩

/-! ### ints -/
theorem op_add {a b : Int} {Q : V → Own → Prop} (h : Q (.int (a + b)) own) : S2 W A RV (binaryOp .Add) (.int a) (.int b) own Q := fun fz s v u H _ r1 r2 => by
  obtain ⟨t, rfl⟩ := r1.int_inv; obtain ⟨t', rfl⟩ := r2.int_inv
  exact P.add_int (at_tok H _ (.dat (.int _ _)) h)
theorem op_iadd {a b : Int} {Q : V → Own → Prop} (h : Q (.int (a + b)) own) : S2 W A RV (inplaceOp .Add) (.int a) (.int b) own Q := fun fz s v u H _ r1 r2 => by
  obtain ⟨t, rfl⟩ := r1.int_inv; obtain ⟨t', rfl⟩ := r2.int_inv
  exact P.iadd_int (at_tok H _ (.dat (.int _ _)) h)
theorem op_sub {a b : Int} {Q : V → Own → Prop} (h : Q (.int (a - b)) own) : S2 W A RV (binaryOp .Sub) (.int a) (.int b) own Q := fun fz s v u H _ r1 r2 => by
  obtain ⟨t, rfl⟩ := r1.int_inv; obtain ⟨t', rfl⟩ := r2.int_inv
  exact P.sub_int (at_tok H _ (.dat (.int _ _)) h)
theorem op_mul {a b : Int} {Q : V → Own → Prop} (hm : IntMulOk a b) (h : Q (.int (a * b)) own) : S2 W A RV (binaryOp .Mult) (.int a) (.int b) own Q := fun fz s v u H _ r1 r2 => by
  obtain ⟨t, rfl⟩ := r1.int_inv; obtain ⟨t', rfl⟩ := r2.int_inv
  exact P.mul_int (at_tok H _ (.dat (.int _ _)) h) hm
theorem op_div {a b : Int} {Q : V → Own → Prop} (hb : 0 < b) (hz : b < 1073741824) (h : Q (.int (a / b)) own) : S2 W A RV (binaryOp .FloorDiv) (.int a) (.int b) own Q := fun fz s v u H _ r1 r2 => by
  obtain ⟨t, rfl⟩ := r1.int_inv; obtain ⟨t', rfl⟩ := r2.int_inv
  refine floordiv_int (by (first | decide | exact Nat.le_trans (by assumption) (by decide) | lia | omega)) (at_tok H _ ?_ h) (Or.inl (PyProof.noPylong_small (by (first | decide | exact Nat.le_trans (by assumption) (by decide) | lia | omega))))
  rw [Int.fdiv_eq_ediv_of_nonneg a (by (first | decide | exact Nat.le_trans (by assumption) (by decide) | lia | omega))]
  exact .dat (.int _ _)
theorem op_mod {a b : Int} {Q : V → Own → Prop} (hb : 0 < b) (h : Q (.int (a % b)) own) : S2 W A RV (binaryOp .Mod) (.int a) (.int b) own Q := fun fz s v u H _ r1 r2 => by
  obtain ⟨t, rfl⟩ := r1.int_inv; obtain ⟨t', rfl⟩ := r2.int_inv
  refine mod_int' (by (first | decide | exact Nat.le_trans (by assumption) (by decide) | lia | omega)) (at_tok H _ ?_ h)
  rw [Int.fmod_eq_emod_of_nonneg a (by (first | decide | exact Nat.le_trans (by assumption) (by decide) | lia | omega))]
  exact .dat (.int _ _)
theorem cmp_eqI {a b : Int} {Q : V → Own → Prop} (h : Q (.bool (decide (a = b))) own) : S2 W A RV (compareOp .Eq) (.int a) (.int b) own Q := fun fz s v u H _ r1 r2 => by
  obtain ⟨t, rfl⟩ := r1.int_inv; obtain ⟨t', rfl⟩ := r2.int_inv
  exact P.eq_int (at_tok H _ (.dat (.bool _)) h)
theorem cmp_lt {a b : Int} {Q : V → Own → Prop} (h : Q (.bool (decide (a < b))) own) : S2 W A RV (compareOp .Lt) (.int a) (.int b) own Q := fun fz s v u H _ r1 r2 => by
  obtain ⟨t, rfl⟩ := r1.int_inv; obtain ⟨t', rfl⟩ := r2.int_inv
  exact P.lt_int (at_tok H _ (.dat (.bool _)) h)
theorem cmp_le {a b : Int} {Q : V → Own → Prop} (h : Q (.bool (decide (a ≤ b))) own) : S2 W A RV (compareOp .LtE) (.int a) (.int b) own Q := fun fz s v u H _ r1 r2 => by
  obtain ⟨t, rfl⟩ := r1.int_inv; obtain ⟨t', rfl⟩ := r2.int_inv
  exact P.le_int (at_tok H _ (.dat (.bool _)) h)
theorem cmp_ge {a b : Int} {Q : V → Own → Prop} (h : Q (.bool (decide (b ≤ a))) own) : S2 W A RV (compareOp .GtE) (.int a) (.int b) own Q := fun fz s v u H _ r1 r2 => by
  obtain ⟨t, rfl⟩ := r1.int_inv; obtain ⟨t', rfl⟩ := r2.int_inv
  exact P.ge_int (at_tok H _ (.dat (.bool _)) h)

/-! ### truth -/
theorem tr_bool {b : Bool} {Q : Bool → Own → Prop} (h : Q b own) : S1 W A RB truthy (.bool b) own Q := fun fz s v H _ r => by
  rw [r.bool_inv]; exact wpAny_truthy_bool ⟨fz, b, own, .refl _, H, rfl, h⟩
theorem tr_int {i : Int} {Q : Bool → Own → Prop} (h : Q (decide (i ≠ 0)) own) : S1 W A RB truthy (.int i) own Q := fun fz s v H _ r => by
  obtain ⟨t, rfl⟩ := r.int_inv
  exact P.truthy_int ⟨fz, _, own, .refl _, H, by simp only [RB, bne, ne_eq, decide_not]; rfl, h⟩
theorem tr_str {x : Str} {Q : Bool → Own → Prop} (hx : x.length ≤ sizeLine) (h : Q (decide (x.length ≠ 0)) own) : S1 W A RB truthy (.str x) own Q := fun fz s v H _ r => by
  obtain ⟨t, rfl⟩ := r.str_inv
  rw [sizeLine_eq] at hx
  refine P.truthy_str (by (first | decide | exact Nat.le_trans (by assumption) (by decide) | lia | omega)) ⟨fz, _, own, .refl _, H.toks _, ?_, h⟩
  show (((x.length : Int)) != 0) = decide (x.length ≠ 0)
  by_cases e : x.length = 0
  · rw [e]; rfl
  · have e' : (x.length : Int) ≠ 0 := by (first | decide | exact Nat.le_trans (by assumption) (by decide) | lia | omega)
    simp [e, e']
theorem tr_own {l : List V} {a : Addr} {Q : Bool → Own → Prop} (hm : (a, Ob.list l) ∈ own) (hx : l.length ≤ sizeLine) (h : Q (decide (l ≠ [])) own) : S1 W A RB truthy (.ref a) own Q := fun fz s v H _ r => by
  cases r.val_inv
  obtain ⟨o, ho, vs, n, rfl, rs⟩ := H.get hm
  have hlen := rs.length
  rw [sizeLine_eq] at hx
  refine wpAny_truthy_list (items := vs.toArray) ⟨_, ho, rfl, n, rfl⟩ (by simp only [List.size_toArray]; (first | decide | exact Nat.le_trans (by assumption) (by decide) | lia | omega)) ⟨fz, _, own, .refl _, H.toks _, ?_, h⟩
  show (!vs.toArray.isEmpty) = decide (l ≠ [])
  cases rs <;> simp

/-! ### texts -/
theorem op_cat {x y : Str} {Q : V → Own → Prop} (hz : x.length + y.length ≤ sizeLine) (h : Q (.str (x ++ y)) own) : S2 W A RV (binaryOp .Add) (.str x) (.str y) own Q := fun fz s v u H _ r1 r2 => by
  obtain ⟨t, rfl⟩ := r1.str_inv; obtain ⟨t', rfl⟩ := r2.str_inv
  exact SB.add (fun t' k => at_tok H _ (.dat (.str _ _)) h) hz
theorem cmp_eqS {x y : Str} {Q : V → Own → Prop} (h : Q (.bool (decide (x = y))) own) : S2 W A RV (compareOp .Eq) (.str x) (.str y) own Q := fun fz s v u H _ r1 r2 => by
  obtain ⟨t, rfl⟩ := r1.str_inv; obtain ⟨t', rfl⟩ := r2.str_inv
  refine PyProof.Rows.eq_str ⟨fz, _, own, .refl _, H, ?_, h⟩
  have e : (x == y) = decide (x = y) := rfl
  rw [e]; exact .dat (.bool _)
theorem cmp_neS {x y : Str} {Q : V → Own → Prop} (h : Q (.bool (decide (x ≠ y))) own) : S2 W A RV (compareOp .NotEq) (.str x) (.str y) own Q := fun fz s v u H _ r1 r2 => by
  obtain ⟨t, rfl⟩ := r1.str_inv; obtain ⟨t', rfl⟩ := r2.str_inv
  refine PyProof.Rows.ne_str ⟨fz, _, own, .refl _, H, ?_, h⟩
  have e : (x != y) = decide (x ≠ y) := by simp only [bne, ne_eq, decide_not]; rfl
  rw [e]; exact .dat (.bool _)
/-! ### data compared -/
theorem cmp_eqD {a b : PyData} {Q : V → Own → Prop} (ha : SeqAt.shaped a = true) (hb : SeqAt.shaped b = true) (hu : A.units + 64 < cLine) (h : Q (.bool (PyData.eqv a b)) own) :
    S2 W A RV (compareOp .Eq) (.dat a) (.dat b) own Q := fun fz s v u H _ r1 r2 => by
  cases r1 with | dat r1 => cases r2 with | dat r2 =>
  exact SeqAt.compareEq_shaped (Reads.keeps H.has r1) (Reads.keeps H.has r2) ha hb hu (at_tok H _ (.dat (.bool _)) h)
end
section
variable {W : Wd} {A : Around} {env : Env} {own : Own}

/-! ### a heap with one object more -/
noncomputable def freedO : Obj := { cls := .none, data := .freed }
noncomputable def putH (h : Heap) (a : Addr) (o : Obj) : Heap := ⟨(h.objs ++ Array.replicate (a + 1 - h.objs.size) freedO).setIfInBounds a o, h.life⟩
theorem get?_of_objs {h : Heap} {b : Addr} : h.get? b = match h.objs[b]? with | some ⟨_, _, .freed, _⟩ => none | o => o := rfl
theorem putH_get {h : Heap} {a : Addr} {o : Obj} (ho : o.isFreed = false) (b : Addr) : (putH h a o).get? b = if b = a then some o else h.get? b := by
  have hsz : a < (h.objs ++ Array.replicate (a + 1 - h.objs.size) freedO).size := by
    have e : (h.objs ++ Array.replicate (a + 1 - h.objs.size) freedO).size = h.objs.size + (a + 1 - h.objs.size) := by rw [Array.size_append, Array.size_replicate]
    rw [e]; show a < h.objs.size + (a + 1 - h.objs.size); exact (by (first | decide | exact Nat.le_trans (by assumption) (by decide) | lia | omega) : ∀ x y : Nat, x < y + (x + 1 - y)) a h.objs.size
  have hne : ∀ b, b ≠ a → (putH h a o).objs[b]? = (h.objs ++ Array.replicate (a + 1 - h.objs.size) freedO)[b]? := fun b hb => by
    unfold putH; exact Array.getElem?_setIfInBounds_ne (Ne.symm hb)
  by_cases hb : b = a
  · subst hb
    rw [if_pos rfl, get?_of_objs]
    have : (putH h b o).objs[b]? = some o := by unfold putH; exact Array.getElem?_setIfInBounds_self_of_lt hsz
    rw [this]
    obtain ⟨c, d, dt, sl⟩ := o
    cases dt <;> first | rfl | cases ho
  · rw [if_neg hb, get?_of_objs, hne b hb, get?_of_objs]
    by_cases hlt : b < h.objs.size
    · rw [Array.getElem?_append_left hlt]
    · have e1 : h.objs[b]? = none := Array.getElem?_eq_none (Nat.not_lt.mp hlt)
      rw [e1, Array.getElem?_append_right (Nat.not_lt.mp hlt), Array.getElem?_replicate]
      by_cases hc : b - h.objs.size < a + 1 - h.objs.size
      · rw [if_pos hc]; rfl
      · rw [if_neg hc]
theorem putH_keep {h : Heap} {a : Addr} {o : Obj} (ho : o.isFreed = false) (hn : h.get? a = none) : Keep h (putH h a o) := fun b x e => by
  rw [putH_get ho]
  by_cases hb : b = a
  · subst hb; rw [hn] at e; cases e
  · rw [if_neg hb]; exact e
theorem putH_at {h : Heap} {a : Addr} {o : Obj} (ho : o.isFreed = false) : (putH h a o).get? a = some o := by rw [putH_get ho, if_pos rfl]

/-- a new object is frozen at once -/
theorem Hold.frz {fz : Heap} {s : Shared} (H : Hold W fz own s) {h' : Heap} {k : Nat} {a : Addr} {o : Obj} (ho : o.isFreed = false) (hk : Keep s.heap h') (ha : s.heap.get? a = none) (hh : h'.get? a = some o) :
    Keep fz (putH fz a o) ∧ Hold W (putH fz a o) own { s with heap := h', toks := k } := by
  have hn : fz.get? a = none := by
    cases e : fz.get? a with
    | none => rfl
    | some x => exact absurd (H.has _ _ e) (by rw [ha]; exact fun y => nomatch y)
  have kk := putH_keep (o := o) ho hn
  refine ⟨kk, ⟨H.base.trans kk, fun b x e => ?_, fun p hp => ?_, fun p hp => ?_, H.nd, H.gens, H.os⟩⟩
  · rw [putH_get ho] at e
    by_cases hb : b = a
    · subst hb; rw [if_pos rfl] at e; cases e; exact hh
    · rw [if_neg hb] at e; exact hk _ _ (H.has _ _ e)
  · obtain ⟨x, e, r⟩ := H.obs p hp
    exact ⟨x, hk _ _ e, r.mono kk⟩
  · rw [putH_get ho]
    have : p.1 ≠ a := fun e => by obtain ⟨x, e', _⟩ := H.obs p hp; rw [e, ha] at e'; cases e'
    rw [if_neg this]; exact H.out p hp

/-- an owned object is frozen -/
theorem Hold.freeze {fz : Heap} {s : Shared} {a : Addr} {ob : Ob} (H : Hold W fz ((a, ob) :: own) s) : ∃ o, s.heap.get? a = some o ∧ ObIs fz ob o ∧ o.isFreed = false ∧ Keep fz (putH fz a o) ∧ Hold W (putH fz a o) own s := by
  obtain ⟨o, ho, r⟩ := H.obs _ List.mem_cons_self
  have hf : o.isFreed = false := by
    have e := ho
    rw [get?_of_objs] at e
    obtain ⟨c, d, dt, sl⟩ := o
    cases dt <;> first | rfl | (exfalso; revert e; cases hq : s.heap.objs[a]? with
      | none => intro e; cases e
      | some x => obtain ⟨c', d', dt', sl'⟩ := x; cases dt' <;> intro e <;> cases e)
  have hn := H.out _ List.mem_cons_self
  have kk := putH_keep (o := o) hf hn
  refine ⟨o, ho, r, hf, kk, ⟨H.base.trans kk, fun b x e => ?_, fun p hp => ?_, fun p hp => ?_, ?_, H.gens.sub (List.sublist_cons_self _ _), H.os⟩⟩
  · rw [putH_get hf] at e
    by_cases hb : b = a
    · subst hb; rw [if_pos rfl] at e; cases e; exact ho
    · rw [if_neg hb] at e; exact H.has _ _ e
  · obtain ⟨x, e, r⟩ := H.obs p (List.mem_cons_of_mem _ hp)
    exact ⟨x, e, r.mono kk⟩
  · rw [putH_get hf]
    have : p.1 ≠ a := fun e => by
      have nd := H.nd
      rw [List.map_cons, List.nodup_cons] at nd
      exact nd.1 (List.mem_map.mpr ⟨p, hp, e⟩)
    rw [if_neg this]; exact H.out p (List.mem_cons_of_mem _ hp)
  · have nd := H.nd
    rw [List.map_cons, List.nodup_cons] at nd
    exact nd.2

/-! ### all data -/
inductive AllDat : List V → List PyData → Prop
  | nil : AllDat [] []
  | cons {d : PyData} {l : List V} {ds : List PyData} : AllDat l ds → AllDat (.dat d :: l) (d :: ds)
theorem AllDat.eq {l : List V} {ds : List PyData} (x : AllDat l ds) : l = ds.map V.dat := by
  induction x with
  | nil => rfl
  | cons _ ih => rw [ih]; rfl
theorem AllDat.map (ds : List PyData) : AllDat (ds.map V.dat) ds := by
  induction ds with
  | nil => exact .nil
  | cons d ds ih => exact .cons ih
theorem AllDat.length {l : List V} {ds : List PyData} (x : AllDat l ds) : l.length = ds.length := by rw [x.eq, List.length_map]

theorem rv_list {fz : Heap} {a : Addr} {vs : List Value} {n : Nat} {ds : List PyData} (h : fz.get? a = some (listObj vs n)) (r : RVs fz (ds.map V.dat) vs) : RV fz (.lst ds) (.ref a) := by
  obtain ⟨as, ra⟩ := r.reads
  exact .dat (.list h rfl rfl (by simpa using ra))
theorem rv_tuple {fz : Heap} {a : Addr} {vs : List Value} {n : Nat} {ds : List PyData} (h : fz.get? a = some (tupObj vs n)) (r : RVs fz (ds.map V.dat) vs) : RV fz (.tup ds) (.ref a) := by
  obtain ⟨as, ra⟩ := r.reads
  exact .dat (.tuple h rfl rfl (by simpa using ra))

/-! ### displays -/
noncomputable abbrev SEs (W : Wd) (A : Around) (env : Env) (pos : Pos) (l : List Expr) (own : Own) (Q : List V → Own → Prop) : Prop := SG W A RVs (spliced (backTo pos (starEach l env))) own Q
theorem SEs_nil {pos : Pos} {Q : List V → Own → Prop} (h : Q [] own) : SEs W A env pos [] own Q := fun fz s H _ => Calls.spliced_nil ⟨fz, _, own, .refl _, H, .nil, h⟩
theorem SEs_cons {pos : Pos} {e : Expr} {rest : List Expr} {Q : List V → Own → Prop} (h : SE W A env e own fun a o1 => SEs W A env pos rest o1 fun l o2 => Q (a :: l) o2)
    (he : starEach (e :: rest) env = (false, eval e env) :: starEach rest env := by rfl) : SEs W A env pos (e :: rest) own Q := fun fz s H ht => by
  unfold At
  rw [he]
  show wpAny _ _ (spliced ((false, eval e env) :: backTo pos (starEach rest env))) _ _ _
  refine Calls.spliced_cons (wp_then (h fz s H ht) ht fun fz1 va a o1 s1 k1 H1 t1 r1 q1 => wp_then (q1 fz1 s1 H1 t1) t1 fun fz2 vl l o2 s2 k2 H2 t2 r2 q2 => ?_)
  exact ⟨fz2, _, o2, k1.trans k2, H2, .cons (r1.mono k2) r2, q2⟩

/-- a list that may be turned -/
theorem SE_List {elts : List Expr} {pos : Pos} {Q : V → Own → Prop} (hz : elts.length ≤ sizeLine) (h : SEs W A env pos elts own fun l o1 => l.length ≤ sizeLine ∧ ∀ a, Q (.ref a) ((a, .list l) :: o1)) : SE W A env (.List elts pos) own Q := fun fz s H ht => by
  refine List_ (wp_then (h fz s H ht) ht fun fz1 vs l o1 s1 k1 H1 t1 r1 q1 => ?_)
  refine wpAny_newObj_type ?_ (by show vs.toArray.size ≤ sizeLine; rw [List.size_toArray, ← r1.length]; exact q1.1)
  exact ⟨fz1, _, _, k1, H1.new (ob := .list l) (k := s1.toks) (Keep.push _ _) (get?_ge (Nat.le_refl _)) (Heap.get?_push_size _ rfl) ⟨vs, 0, rfl, r1⟩, .val _, q1.2 _⟩
/-- a list that stays as it is -/
theorem SE_ListF {elts : List Expr} {pos : Pos} {Q : V → Own → Prop} (h : SEs W A env pos elts own fun l o1 => ∃ ds, AllDat l ds ∧ ds.length ≤ sizeLine ∧ Q (.lst ds) o1) : SE W A env (.List elts pos) own Q := fun fz s H ht => by
  refine List_ (wp_then (h fz s H ht) ht fun fz1 vs l o1 s1 k1 H1 t1 r1 q1 => ?_)
  obtain ⟨ds, ad, hz, q⟩ := q1
  refine wpAny_newObj_type ?_ (by show vs.toArray.size ≤ sizeLine; rw [List.size_toArray, ← r1.length, ad.length]; exact hz)
  obtain ⟨kk, H'⟩ := H1.frz (k := s1.toks) (o := listObj vs 0) rfl (Keep.push _ _) (get?_ge (Nat.le_refl _)) (Heap.get?_push_size _ rfl)
  exact ⟨_, _, o1, k1.trans kk, H', rv_list (putH_at rfl) (by rw [← ad.eq]; exact r1.mono kk), q⟩
theorem SE_TupleF {elts : List Expr} {k : Nat} {pos : Pos} {Q : V → Own → Prop} (h : SEs W A env pos elts own fun l o1 => ∃ ds, AllDat l ds ∧ ds.length ≤ sizeLine ∧ Q (.tup ds) o1) : SE W A env (.Tuple elts k pos) own Q := fun fz s H ht => by
  refine Tuple_ (wp_then (h fz s H ht) ht fun fz1 vs l o1 s1 k1 H1 t1 r1 q1 => ?_)
  obtain ⟨ds, ad, hz, q⟩ := q1
  refine wpAny_newObj_type ?_ (by show vs.toArray.size ≤ sizeLine; rw [List.size_toArray, ← r1.length, ad.length]; exact hz)
  obtain ⟨kk, H'⟩ := H1.frz (k := s1.toks) (o := tupObj vs 0) rfl (Keep.push _ _) (get?_ge (Nat.le_refl _)) (Heap.get?_push_size _ rfl)
  exact ⟨_, _, o1, k1.trans kk, H', rv_tuple (putH_at rfl) (by rw [← ad.eq]; exact r1.mono kk), q⟩
/-- a tuple that holds made things -/
theorem SE_Tuple {elts : List Expr} {k : Nat} {pos : Pos} {Q : V → Own → Prop} (h : SEs W A env pos elts own fun l o1 => l.length ≤ sizeLine ∧ ∀ a, Q (.ref a) ((a, .tup l) :: o1)) : SE W A env (.Tuple elts k pos) own Q := fun fz s H ht => by
  refine Tuple_ (wp_then (h fz s H ht) ht fun fz1 vs l o1 s1 k1 H1 t1 r1 q1 => ?_)
  refine wpAny_newObj_type ?_ (by show vs.toArray.size ≤ sizeLine; rw [List.size_toArray, ← r1.length]; exact q1.1)
  exact ⟨fz1, _, _, k1, H1.new (ob := .tup l) (k := s1.toks) (Keep.push _ _) (get?_ge (Nat.le_refl _)) (Heap.get?_push_size _ rfl) ⟨vs, 0, rfl, r1⟩, .val _, q1.2 _⟩

/-! ### items -/
theorem rvs_dat_get {fz : Heap} {ds : List PyData} {vs : List Value} (r : RVs fz (ds.map V.dat) vs) {i : Nat} {d : PyData} (h : ds[i]? = some d) : ∃ v, vs[i]? = some v ∧ RV fz (.dat d) v :=
  r.get (by rw [List.getElem?_map, h]; rfl)

/-- the place of an index -/
noncomputable def place (k : Int) (n : Nat) : Nat := if k < 0 then (k + n).toNat else k.toNat
theorem sub_lst {o i : Expr} {l : List PyData} {k : Int} {d : PyData} {Q : V → Own → Prop} (hlo : -(l.length : Int) ≤ k) (hhi : k < (l.length : Int)) (hz : l.length ≤ sizeLine) (hx : l[place k l.length]? = some d) (h : Q (.dat d) own)
    (hs : ∀ v u, subscripted i false v u = operate [v, u] (getItem v u) := by intro _ _; with_unfolding_all rfl) : S2 W A RV (subscriptTail o i) (.lst l) (.int k) own Q := fun fz s v u H _ r1 r2 => by
  obtain ⟨t, rfl⟩ := r2.int_inv
  obtain ⟨a, vs, rfl, hl, rs⟩ := r1.lst_inv
  obtain ⟨x, e, r⟩ := rvs_dat_get rs hx
  have hlen := rs.length
  rw [List.length_map] at hlen
  have hsz : vs.toList.length = vs.size := Array.length_toList
  rw [sizeLine_eq] at hz
  have hl' := IsList_keep hl H.has
  unfold place at e
  rw [hlen, hsz] at e
  by_cases hk : k < 0
  · rw [if_pos hk] at e
    exact tail_any hl'.typeIs slot_list_getitem.lookup (wpAny_getItem_list_neg hl' hk (by (first | decide | exact Nat.le_trans (by assumption) (by decide) | lia | omega)) (by (first | decide | exact Nat.le_trans (by assumption) (by decide) | lia | omega)) (by rw [← Array.getElem?_toList]; exact e) ⟨fz, _, own, .refl _, H, r, h⟩) (hs _ _)
  · rw [if_neg hk] at e
    exact tail_any hl'.typeIs slot_list_getitem.lookup (wpAny_getItem_list hl' (by (first | decide | exact Nat.le_trans (by assumption) (by decide) | lia | omega)) (by (first | decide | exact Nat.le_trans (by assumption) (by decide) | lia | omega)) (by rw [← Array.getElem?_toList]; exact e) ⟨fz, _, own, .refl _, H, r, h⟩) (hs _ _)
theorem sub_own {o i : Expr} {a : Addr} {l : List V} {k : Int} {d : V} {Q : V → Own → Prop} (hm : (a, Ob.list l) ∈ own) (hlo : -(l.length : Int) ≤ k) (hhi : k < (l.length : Int)) (hz : l.length ≤ sizeLine) (hx : l[place k l.length]? = some d) (h : Q d own)
    (hs : ∀ v u, subscripted i false v u = operate [v, u] (getItem v u) := by intro _ _; with_unfolding_all rfl) : S2 W A RV (subscriptTail o i) (.ref a) (.int k) own Q := fun fz s v u H _ r1 r2 => by
  obtain ⟨t, rfl⟩ := r2.int_inv
  cases r1.val_inv
  obtain ⟨ob, ho, vs, n, rfl, rs⟩ := H.get hm
  obtain ⟨x, e, r⟩ := rs.get hx
  have hlen := rs.length
  rw [sizeLine_eq] at hz
  have hl' : s.heap.IsList a vs.toArray := ⟨_, ho, rfl, n, rfl⟩
  unfold place at e
  rw [hlen] at e
  by_cases hk : k < 0
  · rw [if_pos hk] at e
    exact tail_any hl'.typeIs slot_list_getitem.lookup (wpAny_getItem_list_neg hl' hk (by simp only [List.size_toArray]; (first | decide | exact Nat.le_trans (by assumption) (by decide) | lia | omega)) (by (first | decide | exact Nat.le_trans (by assumption) (by decide) | lia | omega)) (by simpa using e) ⟨fz, _, own, .refl _, H, r, h⟩) (hs _ _)
  · rw [if_neg hk] at e
    exact tail_any hl'.typeIs slot_list_getitem.lookup (wpAny_getItem_list hl' (by (first | decide | exact Nat.le_trans (by assumption) (by decide) | lia | omega)) (by (first | decide | exact Nat.le_trans (by assumption) (by decide) | lia | omega)) (by simpa using e) ⟨fz, _, own, .refl _, H, r, h⟩) (hs _ _)
theorem seqIndex_place {k : Int} {n : Nat} (hlo : -(n : Int) ≤ k) (hhi : k < (n : Int)) : seqIndex? k n = some (place k n) := by
  unfold seqIndex? place
  by_cases hk : k < 0
  · have h1 : (0 : Int) ≤ k + n := by (first | decide | exact Nat.le_trans (by assumption) (by decide) | lia | omega)
    have h2 : k + n < (n : Int) := by (first | decide | exact Nat.le_trans (by assumption) (by decide) | lia | omega)
    simp [hk, h1, h2]
  · have h1 : (0 : Int) ≤ k := by (first | decide | exact Nat.le_trans (by assumption) (by decide) | lia | omega)
    simp [hk, h1, hhi]
theorem sub_str {o i : Expr} {x : Str} {k : Int} {c : Nat} {Q : V → Own → Prop} (hlo : -(x.length : Int) ≤ k) (hhi : k < (x.length : Int)) (hz : x.length ≤ sizeLine) (hx : x.cps[place k x.length]? = some c) (h : Q (.str ⟨#[c]⟩) own)
    (hs : ∀ v u, subscripted i false v u = operate [v, u] (getItem v u) := by intro _ _; with_unfolding_all rfl) : S2 W A RV (subscriptTail o i) (.str x) (.int k) own Q := fun fz s v u H _ r1 r2 => by
  obtain ⟨t, rfl⟩ := r2.int_inv
  obtain ⟨t', rfl⟩ := r1.str_inv
  rw [sizeLine_eq] at hz
  have hc : Txt.charAt x k = some c := by unfold Txt.charAt; rw [seqIndex_place hlo hhi]; exact hx
  refine tail_any (typeIs_str s x t') F.slot_str_getitem.lookup (SB.getItem ?_ (by rw [hc]; rfl) ?_) (hs _ _)
  · unfold fitsSsize; simp; (first | decide | exact Nat.le_trans (by assumption) (by decide) | lia | omega)
  · have e : Txt.item x k = ⟨#[c]⟩ := by unfold Txt.item; rw [hc]; rfl
    rw [e]; exact at_tok H _ (.dat (.str _ _)) h

/-! ### appending -/
theorem do_append {a : Addr} {l : List V} {x : V} {own' : Own} {Q : V → Own → Prop} (u : Upd a (.list l) (.list (l ++ [x])) own own') (hz : l.length ≤ sizeLine) (h : Q .none own') :
    S1 W A RV (fun v => call (.builtin "list.append") [.ref a, v]) x own Q := fun fz s v H _ r => by
  obtain ⟨ob, ho, vs, n, rfl, rs⟩ := H.get u.mem
  refine wpAny_list_append_plain (l := a) (items := vs.toArray) ⟨n, ho⟩ (fun h' ⟨n', hl'⟩ hs' => ?_) (hsz := by rw [List.size_toArray, ← rs.length]; exact hz)
  exact ⟨fz, _, own', .refl _, H.set (k := s.toks) u hs' hl' ⟨vs ++ [v], n', by simp [listObj], rs.append (.cons r .nil)⟩, .dat .none, h⟩
end
section
variable {W : Wd} {A : Around} {env : Env} {own : Own}

/-! ### forgetting -/
inductive ObW : Ob → Ob → Prop
  | refl {o : Ob} : ObW o o
  | ns {l l' : List (Str × V)} : l'.Sublist l → ObW (.ns l) (.ns l')
inductive Wk : Own → Own → Prop
  | nil {l : Own} : Wk l []
  | refl {l : Own} : Wk l l
  | keep {a : Addr} {ob ob' : Ob} {l l' : Own} : ObW ob ob' → Wk l l' → Wk ((a, ob) :: l) ((a, ob') :: l')
  | drop {p : Addr × Ob} {l l' : Own} : Wk l l' → Wk (p :: l) l'
theorem ObW.is {fz : Heap} {ob ob' : Ob} {o : Obj} (x : ObW ob ob') (h : ObIs fz ob o) : ObIs fz ob' o := by
  cases x with
  | refl => exact h
  | ns k => obtain ⟨es, ep, h1, h2, h3⟩ := h; exact ⟨es, ep, h1, h2, fun p hp => h3 p (k.subset hp)⟩
theorem Wk.gens {own own' : Own} (x : Wk own own') {gs : Array GenState} (G : GensIs own gs) : GensIs own' gs := by
  have key : ∀ {own own' : Own}, Wk own own' → (∀ p' ∈ own', ∀ g P, p'.2 = .gen g P → p' ∈ own) ∧ (own'.filterMap fun p => p.2.genOf).Sublist (own.filterMap fun p => p.2.genOf) := by
    intro own own' x
    induction x with
    | nil => exact ⟨fun p hp => (nomatch hp), List.nil_sublist _⟩
    | refl => exact ⟨fun p hp _ _ _ => hp, List.Sublist.refl _⟩
    | @keep a ob ob' l l' h _ ih =>
      refine ⟨fun p hp g P e => ?_, ?_⟩
      · rcases List.mem_cons.mp hp with rfl | hp
        · cases h with
          | refl => exact List.mem_cons_self
          | ns _ => cases e
        · exact List.mem_cons_of_mem _ (ih.1 p hp g P e)
      · have : ob'.genOf = ob.genOf := by cases h <;> rfl
        rw [List.filterMap_cons, List.filterMap_cons, show (a, ob').2.genOf = ob.genOf from this, show (a, ob).2.genOf = ob.genOf from rfl]
        cases ob.genOf with
        | none => exact ih.2
        | some n => exact ih.2.cons_cons n
    | @drop p l l' _ ih =>
      exact ⟨fun p hp g P e => List.mem_cons_of_mem _ (ih.1 p hp g P e), ih.2.trans ((List.sublist_cons_self _ _).filterMap _)⟩
  obtain ⟨k1, k2⟩ := key x
  exact ⟨G.bare, fun p hp g P e => G.st p (k1 p hp g P e) g P e, G.nd.sublist k2⟩
theorem Wk.hold {fz : Heap} {own own' : Own} (x : Wk own own') : ∀ {s : Shared}, Hold W fz own s → Hold W fz own' s := by
  have key : ∀ {own own' : Own}, Wk own own' → (∀ p' ∈ own', ∃ p ∈ own, p.1 = p'.1 ∧ ObW p.2 p'.2) ∧ (own'.map (·.1)).Sublist (own.map (·.1)) := by
    intro own own' x
    induction x with
    | nil => exact ⟨fun p hp => (nomatch hp), List.nil_sublist _⟩
    | refl => exact ⟨fun p hp => ⟨p, hp, rfl, .refl⟩, List.Sublist.refl _⟩
    | @keep a ob ob' l l' h _ ih =>
      refine ⟨fun p hp => ?_, by simpa using ih.2⟩
      rcases List.mem_cons.mp hp with rfl | hp
      · exact ⟨(a, ob), List.mem_cons_self, rfl, h⟩
      · obtain ⟨q, hq, r⟩ := ih.1 p hp; exact ⟨q, List.mem_cons_of_mem _ hq, r⟩
    | @drop p l l' _ ih =>
      refine ⟨fun p hp => ?_, ?_⟩
      · obtain ⟨q, hq, r⟩ := ih.1 p hp; exact ⟨q, List.mem_cons_of_mem _ hq, r⟩
      · exact ih.2.trans (by simp)
  intro s H
  obtain ⟨k1, k2⟩ := key x
  refine ⟨H.base, H.has, fun p hp => ?_, fun p hp => ?_, H.nd.sublist k2, x.gens H.gens, H.os⟩
  · obtain ⟨q, hq, e, w⟩ := k1 p hp
    obtain ⟨o, ho, r⟩ := H.obs q hq
    exact ⟨o, e ▸ ho, w.is r⟩
  · obtain ⟨q, hq, e, w⟩ := k1 p hp
    exact e ▸ H.out q hq
theorem SG.wk {α β : Type} {R : Heap → β → α → Prop} {t : Sem α} {own own' : Own} {Q : β → Own → Prop} (k : Wk own own') (h : SG W A R t own' Q) : SG W A R t own Q :=
  fun fz s H ht => h fz s (k.hold H) ht

/-! ### calls of the text's own -/
noncomputable abbrev retTo (Q : V → Own → Prop) : Fl → Own → Prop := fun fl o => ∃ own', Wk o own' ∧ Q (match fl with | .ret v => v | _ => .none) own'

theorem zip_lookup {fz : Heap} : ∀ {names : List Str} {l : List V} {vs : List Value}, RVs fz l vs → names.Nodup → ∀ p ∈ names.zip l, ∃ v, (names.zip vs).lookup p.1 = some v ∧ RV fz p.2 v
  | [], _, _, _, _, p, hp => by simp at hp
  | n :: r, _, _, .nil, _, p, hp => by simp at hp
  | n :: r, _, _, .cons (a := a) (v := v) (l := l) (vs := vs) h t, nd, p, hp => by
    rw [List.nodup_cons] at nd
    rw [List.zip_cons_cons, List.mem_cons] at hp
    rcases hp with rfl | hp
    · exact ⟨v, by simp, h⟩
    · obtain ⟨u, e, q⟩ := zip_lookup t nd.2 p hp
      refine ⟨u, ?_, q⟩
      rw [List.zip_cons_cons, List.lookup_cons]
      have hne : p.1 ≠ n := fun e => nd.1 (e ▸ (List.of_mem_zip (show (p.1, p.2) ∈ r.zip l from hp)).1)
      have : (p.1 == n) = false := by simpa using hne
      rw [this]; exact e
theorem lookup_reverse {l : List (Str × Value)} (nd : (l.map (·.1)).Nodup) (x : Str) : l.reverse.lookup x = l.lookup x := by
  induction l with
  | nil => rfl
  | cons p l ih =>
    rw [List.map_cons, List.nodup_cons] at nd
    rw [List.reverse_cons, List.lookup_append, ih nd.2, List.lookup_cons]
    cases e : x == p.1 with
    | true =>
      have : l.lookup x = none := by
        rw [List.lookup_eq_none_iff]
        intro q hq
        have : x ≠ q.1 := fun e' => nd.1 (List.mem_map.mpr ⟨q, hq, by rw [← e', eq_of_beq e]⟩)
        simpa using this
      rw [this]
      obtain ⟨p1, p2⟩ := p
      have e' : (x == p1) = true := e
      simp [List.lookup_cons, e']
    | false =>
      obtain ⟨p1, p2⟩ := p
      have e' : (x == p1) = false := e
      simp [List.lookup_cons, e']

theorem zip_fst {α β : Type} : ∀ {a : List α} {b : List β}, ((a.zip b).map (·.1)).Sublist a
  | [], _ => by simp
  | _ :: _, [] => by simp
  | x :: a, y :: b => by simpa using zip_fst

/-- a call's own code -/
noncomputable def SLC (W : Wd) (A : Around) (f : Value) (args : List V) (own : Own) (Q : V → Own → Prop) : Prop :=
  ∀ fz s vs, Hold W fz own s → W.tk ≤ s.toks → RVs fz args vs → codeAny (model W.prog W.w) A (.call f ⟨vs, []⟩)
    (fun r s' => match r with | .ok (.ret v) => Post W RV Q fz v s' | .ok _ => False | .error _ => False) s
theorem SLC.call {f : Value} {args : List V} {Q : V → Own → Prop} (h : SLC W A f args own Q) : SL W A RV (fun vs => call f vs) args own Q := fun fz s vs H ht rs =>
  wpAny_call (codeAny_mono (h fz s vs H ht rs) fun r s' x => by rcases r with e | (v | _ | _ | _) <;> first | exact x | exact x.elim)
theorem SLC.mono {f : Value} {args : List V} {Q Q' : V → Own → Prop} (h : SLC W A f args own Q) (q : ∀ b o, Q b o → Q' b o) : SLC W A f args own Q' := fun fz s vs H ht rs =>
  codeAny_mono (h fz s vs H ht rs) fun r s' x => by
    rcases r with e | (v | _ | _ | _) <;> first | exact x.elim | skip
    obtain ⟨fz', b, own', k, H', r, x⟩ := x
    exact ⟨fz', b, own', k, H', r, q _ _ x⟩

theorem do_callC {f : Addr} {args : List V} {Q : V → Own → Prop} {name qual : Str} {params : Arguments} {body : List Stmt} {scope : Scope} {dV kV doc pm cdv ct oc : Value} {an od : Option Addr} {osl : Array (Option Value)}
    (names : List Str) (ho : W.K.lookup f = some ⟨oc, od, .func (fnOf name qual params body scope dV kV doc pm an cdv ct), osl⟩) (hcd : codeIn W.K cdv qual = true) (hroom : A.depth < recursionLimit)
    (hb : ∀ s vs, W.K.In s.heap → vs.length = args.length → BindsTo s (fnOf name qual params body scope dV kV doc pm an cdv ct) ⟨vs, []⟩ (names.zip vs))
    (hloc : ∀ y ∈ names, scope.names.lookup y = some .local) (nd : names.Nodup)
    (h : ∀ L, SXs W (A.deeper (envX qual scope L f cdv [])) (envX qual scope L f cdv []) body ((L, .ns (names.zip args)) :: own) (retTo Q))
    (hco : scope.isCoroutine = false := by rfl) (hgen : scope.isGenerator = false := by rfl) (hk : scope.kind = .function := by rfl)
    (hcell : ∀ x ∈ scope.names, x.2 ≠ .cell := by decide) : SLC W A (.ref f) args own Q := fun fz s vs H ht rs => by
  have ndz : ((names.zip vs).map (·.1)).Nodup := nd.sublist zip_fst
  refine (codeAny_call_def (fd := fnOf name qual params body scope dV kV doc pm an cdv ct) (body := body) (binds := names.zip vs) hroom (H.kin _ _ ho) rfl (W.top.nolimit.keeps H.keep) (codeRec_of H.kin hcd) rfl
    (hb s vs H.kin rs.length.symm) hcell (fun x hx => hloc _ (List.of_mem_zip (show (x.1, x.2) ∈ names.zip vs from hx)).1) (fun h₁ hns hk₁ => ?_) hco hgen hk)
  obtain ⟨o, ho', hob⟩ := of_ns (fz := fz) (loc := names.zip args) hns (fun p hp => by
    obtain ⟨v, e, r⟩ := zip_lookup rs nd p hp
    exact ⟨v, by rw [lookup_reverse ndz]; exact e, r⟩)
  have H₁ : Hold W fz ((s.heap.objs.size, .ns (names.zip args)) :: own) { s with heap := h₁, toks := s.toks + (names.zip vs).length } := H.new hk₁ (get?_ge (Nat.le_refl _)) ho' hob
  refine wpAny_mono (h s.heap.objs.size fz _ H₁ (Nat.le_trans ht (Nat.le_add_right _ _))) (fun fl s' x => ?_) fun _ _ x => x.elim
  obtain ⟨fz', b, own', k, H', r, own'', wk, q⟩ := x
  refine ⟨fz', _, own'', k, wk.hold H', ?_, q⟩
  cases r with
  | next => exact .dat .none
  | brk => exact .dat .none
  | cont => exact .dat .none
  | ret r => exact r

/-! ### iterators -/
theorem rvs_drop {fz : Heap} {x : V} {l : List V} {vs : List Value} {i : Nat} (r : RVs fz (x :: l) (vs.drop i)) : ∃ v, vs[i]? = some v ∧ RV fz x v ∧ RVs fz l (vs.drop (i + 1)) := by
  generalize e : vs.drop i = ws at r
  cases r with
  | cons h t =>
    refine ⟨_, by rw [← List.head?_drop, e]; rfl, h, ?_⟩
    rw [← List.tail_drop, e]; exact t
theorem rvs_drop_nil {fz : Heap} {vs : List Value} {i : Nat} (r : RVs fz [] (vs.drop i)) : vs[i]? = none := by
  generalize e : vs.drop i = ws at r
  cases r
  rw [← List.head?_drop, e]; rfl

theorem it_list {l : List PyData} {Q : V → Own → Prop} (h : ∀ a, Q (.ref a) ((a, .it (l.map V.dat)) :: own)) : S1 W A RV pyIter (.lst l) own Q := fun fz s v H _ r => by
  obtain ⟨a, vs, rfl, hl, rs⟩ := r.lst_inv
  refine wpAny_pyIter_list (IsList_keep hl H.has) ?_
  exact ⟨fz, _, _, .refl _, H.new (ob := .it (l.map V.dat)) (k := s.toks) (Keep.push _ _) (get?_ge (Nat.le_refl _)) (Heap.get?_push_size _ rfl) (.list hl (by simpa using rs) rfl rfl), .val _, h _⟩
theorem it_range {a b c : Int} {n : Nat} {Q : V → Own → Prop} (hs : Builtin.Range.small a b c = true) (hn : Builtin.Range.rangeSize a b c = (n : Int)) (h : ∀ i, Q (.ref i) ((i, .it ((List.range n).map fun j : Nat => V.int (a + (j : Int) * c))) :: own)) :
    S1 W A RV pyIter (.rng a b c) own Q := fun fz s v H _ r => by
  cases r with
  | rng r =>
  refine wpAny_pyIter_range (IsRange_keep r H.has) hs ?_
  rw [hn]
  exact ⟨fz, _, _, .refl _, H.new (ob := .it ((List.range n).map fun j : Nat => V.int (a + (j : Int) * c))) (k := s.toks) (Keep.push _ _) (get?_ge (Nat.le_refl _)) (Heap.get?_push_size _ rfl) (.range rfl rfl), .val _, h _⟩

/-- one more is drawn -/
theorem next_some {a : Addr} {x : V} {l : List V} {fz : Heap} {s : Shared} {own' : Own} {P : Option Value → Shared → Prop} (H : Hold W fz own s) (u : Upd a (.it (x :: l)) (.it l) own own')
    (q : ∀ v s', Hold W fz own' s' → s.toks ≤ s'.toks → RV fz x v → P (some v) s') : wpAny (model W.prog W.w) A (pyNext (.ref a)) P NoX s := by
  obtain ⟨o, ho, hob⟩ := H.get u.mem
  cases hob with
  | @list b vs i _ _ hl rs hc hd =>
    obtain ⟨v, e, rx, rl⟩ := rvs_drop rs
    refine wpAny_pyNext_list_item (l := b) (i := i) ⟨o, ho, hc, hd⟩ (IsList_keep hl H.has) (by rw [← Array.getElem?_toList]; exact e) fun h' ⟨o', ho', hc', hd'⟩ hs' => ?_
    exact q v _ (H.set (k := s.toks) u hs' ho' (.list hl rl hc' (by exact hd'))) (Nat.le_refl _) rx
  | @tup b vs i _ _ hl rs hc hd =>
    obtain ⟨v, e, rx, rl⟩ := rvs_drop rs
    refine wpAny_pyNext_tuple_item (t := b) (i := i) ⟨o, ho, hc, hd⟩ (IsTuple_keep hl H.has) (by rw [← Array.getElem?_toList]; exact e) fun h' ⟨o', ho', hc', hd'⟩ hs' => ?_
    exact q v _ (H.set (k := s.toks) u hs' ho' (.tup hl rl hc' (by exact hd'))) (Nat.le_refl _) rx
  | @range y c n _ _ hl e =>
    subst e
    cases n with
    | zero => cases hl
    | succ n =>
      rw [List.range_succ_eq_map, List.map_cons, List.map_map] at hl
      injection hl with e1 e2
      refine wpAny_pyNext_range_item (x := y) (left := ((n + 1 : Nat) : Int)) (step := c) (by exact ho) (by (first | decide | exact Nat.le_trans (by assumption) (by decide) | lia | omega)) fun h' hit hs' => ?_
      refine q _ _ (H.set (k := s.toks + 1) u hs' (by exact hit) (.range (x := y + c) (n := n) (c := c) ?_ ?_)) (Nat.le_succ _) ?_
      · rw [e2]; apply List.map_congr_left; intro j _
        have : y + ((Nat.succ j : Nat) : Int) * c = y + c + (j : Int) * c := by
          rw [Nat.succ_eq_add_one]; push_cast; rw [Int.add_mul, Int.one_mul]; (first | decide | exact Nat.le_trans (by assumption) (by decide) | lia | omega)
        show V.int (y + ((Nat.succ j : Nat) : Int) * c) = _
        rw [this]
      · have : (((n + 1 : Nat) : Int) - 1) = (n : Int) := by push_cast; (first | decide | exact Nat.le_trans (by assumption) (by decide) | lia | omega)
        rw [this]
      · rw [e1]; simp; exact .dat (.int _ _)
  | @ascii y t i _ _ hl hc hd =>
    have e : y.cps[i]? = (y.cps.toList.drop i).head? := by rw [List.head?_drop, Array.getElem?_toList]
    have tl : y.cps.toList.drop (i + 1) = (y.cps.toList.drop i).tail := (List.tail_drop ..).symm
    cases hq : y.cps.toList.drop i with
    | nil => rw [hq] at hl; cases hl
    | cons c r =>
      rw [hq] at hl e tl
      injection hl with e1 e2
      refine wpAny_pyNext_ascii_item (x := y) (t := t) (i := i) (c := c) ⟨o, ho, hc, hd⟩ e fun h' ⟨o', ho', hc', hd'⟩ hs' => ?_
      exact q _ _ (H.set (k := s.toks + 1) u hs' ho' (.ascii (by rw [tl]; exact e2) hc' (by exact hd'))) (Nat.le_succ _) (by rw [e1]; exact .dat (.str _ _))
  | @wide y t i _ _ hl hc hd =>
    have e : y.cps[i]? = (y.cps.toList.drop i).head? := by rw [List.head?_drop, Array.getElem?_toList]
    have tl : y.cps.toList.drop (i + 1) = (y.cps.toList.drop i).tail := (List.tail_drop ..).symm
    cases hq : y.cps.toList.drop i with
    | nil => rw [hq] at hl; cases hl
    | cons c r =>
      rw [hq] at hl e tl
      injection hl with e1 e2
      refine wpAny_pyNext_wide_item (x := y) (t := t) (i := i) (c := c) ⟨o, ho, hc, hd⟩ e fun h' ⟨o', ho', hc', hd'⟩ hs' => ?_
      exact q _ _ (H.set (k := s.toks + 1) u hs' ho' (.wide (by rw [tl]; exact e2) hc' (by exact hd'))) (Nat.le_succ _) (by rw [e1]; exact .dat (.str _ _))

theorem Hold.extBut {fz : Heap} {s : Shared} {a : Addr} {ob : Ob} (H : Hold W fz ((a, ob) :: own) s) {h' : Heap} {k : Nat} (he : Heap.ExtBut a s.heap h') : Hold W fz own { s with heap := h', toks := k } where
  base := H.base
  has := fun b o e => he b o (fun hb => by have := H.out _ List.mem_cons_self; rw [hb] at e; exact absurd e (by rw [this]; exact fun x => nomatch x)) (H.has b o e)
  obs := fun p hp => by
    obtain ⟨o, e, r⟩ := H.obs p (List.mem_cons_of_mem _ hp)
    have nd := H.nd
    rw [List.map_cons, List.nodup_cons] at nd
    exact ⟨o, he _ _ (fun hb => nd.1 (List.mem_map.mpr ⟨p, hp, hb⟩)) e, r⟩
  out := fun p hp => H.out p (List.mem_cons_of_mem _ hp)
  nd := by have nd := H.nd; rw [List.map_cons, List.nodup_cons] at nd; exact nd.2
  gens := H.gens.sub (List.sublist_cons_self _ _)
  os := H.os

theorem next_over {prog : Program} {w : World} {E : Value → Shared → Prop} {s : Shared} {it : Addr} {o : Obj} {k : Value} {Q : Option Value → Shared → Prop} (hh : A.handled = none)
    (ho : s.heap.get? it = some o) (hc : o.cls = .type "list_iterator") (hd : o.data = .fields #[.none, k])
    (hQ : ∀ h', Keep s.heap h' → Q none { s with heap := h' }) : wpAny (model prog w) A (pyNext (.ref it)) Q E s := by
  have hT : s.TypeIs (.ref it) "list_iterator" := ⟨o, ho, hc⟩
  unfold pyNext
  refine wpAny_bind (wpAny_attempt (wpAny_callSpecial?_slot (name := Str.ofString "__next__") hT slot_listiter_next
    (wpAny_call_entry slot_listiter_next hT entry_listiter_next ?_ (args_listiter_next _))))
  show wpAny _ _ (field (.ref it) 0 >>= _) _ _ s
  refine wpAny_bind (wpAny_field ho hd (x := .none) rfl ?_)
  show wpAny _ _ (if (Value.none == Value.none) = true then _ else _) _ _ s
  rw [if_pos (show ((Value.none == Value.none) = true) from rfl)]
  refine wpAny_bind (wpAny_rule ?_)
  refine wpAny_bind ?_
  show wpAny _ _ (newExc (.type "StopIteration") [] >>= _) _ _ _
  refine wpAny_bind ?_
  simp only [newExc, newTuple]
  refine wpAny_bind (wpAny_newObj_type ?_ (by size_fits))
  refine wpAny_bind (m := firstArgMember _ _) (wpAny_of_eq (a := Value.none) (by first | rfl | (simp only [firstArgMember]; rfl)) ?_)
  refine wpAny_newObj_type ?_ (by size_fits)
  simp only [raiseNew]
  refine wpAny_bind (wpAny_handled ?_)
  rw [show A.in1.handled = none from hh]
  refine wpAny_bind (wpAny_pure (wpAny_throw ?_))
  refine wpAny_bind (wpAny_isInstance (T := "StopIteration") (b := true) ⟨_, Heap.get?_push_size _ rfl, rfl⟩ isSubtype_stop ?_)
  exact wpAny_pure (hQ _ ((Keep.push _ _).trans (Keep.push _ _)))

theorem next_none {a : Addr} {fz : Heap} {s : Shared} {P : Option Value → Shared → Prop} (hh : A.handled = none) (H : Hold W fz ((a, .it []) :: own) s)
    (q : ∀ s', Hold W fz own s' → s.toks ≤ s'.toks → P none s') : wpAny (model W.prog W.w) A (pyNext (.ref a)) P NoX s := by
  obtain ⟨o, ho, hob⟩ := H.get List.mem_cons_self
  cases hob with
  | @list b vs i _ _ hl rs hc hd =>
    refine wpAny_pyNext_list_end hh (l := b) (i := i) ⟨o, ho, hc, hd⟩ (IsList_keep hl H.has) (by rw [← Array.getElem?_toList]; exact rvs_drop_nil rs) fun h' he => ?_
    exact q _ (H.extBut (k := s.toks) he) (Nat.le_refl _)
  | @tup b vs i _ _ hl rs hc hd =>
    refine wpAny_pyNext_tuple_end hh (t := b) (i := i) ⟨o, ho, hc, hd⟩ (IsTuple_keep hl H.has) (by rw [← Array.getElem?_toList]; exact rvs_drop_nil rs) fun h' he => ?_
    exact q _ (H.extBut (k := s.toks) he) (Nat.le_refl _)
  | @range y c n _ _ hl e =>
    subst e
    cases n with
    | zero =>
      refine wpAny_pyNext_range_end hh (x := y) (left := ((0 : Nat) : Int)) (step := c) (by exact ho) (by (first | decide | exact Nat.le_trans (by assumption) (by decide) | lia | omega)) fun h' he => ?_
      exact q _ (H.extBut (k := s.toks) he) (Nat.le_refl _)
    | succ n => rw [List.range_succ_eq_map, List.map_cons] at hl; cases hl
  | @ascii y t i _ _ hl hc hd =>
    have e : y.cps[i]? = none := by
      have : y.cps.toList.drop i = [] := by simpa using hl.symm
      rw [← Array.getElem?_toList, ← List.head?_drop, this]; rfl
    refine wpAny_pyNext_ascii_end hh (x := y) (t := t) (i := i) ⟨o, ho, hc, hd⟩ e fun h' he => ?_
    exact q _ (H.extBut (k := s.toks) he) (Nat.le_refl _)
  | @wide y t i _ _ hl hc hd =>
    have e : y.cps[i]? = none := by
      have : y.cps.toList.drop i = [] := by simpa using hl.symm
      rw [← Array.getElem?_toList, ← List.head?_drop, this]; rfl
    refine wpAny_pyNext_wide_end hh (x := y) (t := t) (i := i) ⟨o, ho, hc, hd⟩ e fun h' he => ?_
    exact q _ (H.extBut (k := s.toks) he) (Nat.le_refl _)
  | over hc hd => exact next_over hh ho hc hd fun h' hk => q _ (H.tail.grow (k := s.toks) hk) (Nat.le_refl _)

/-! ### targets -/
theorem it_cls {fz : Heap} {l : List V} {o : Obj} (x : ItIs fz l o) : ∃ n, o.cls = .type n ∧ ["enumerate", "zip", "dict_itemiterator", "dict_reverseitemiterator", "odict_iterator", "itertools.zip_longest", "itertools.pairwise"].contains n = false := by
  cases x with
  | list _ _ c _ => exact ⟨_, c, by decide⟩
  | tup _ _ c _ => exact ⟨_, c, by decide⟩
  | range _ e => subst e; exact ⟨_, rfl, by decide⟩
  | ascii _ c _ => exact ⟨_, c, by decide⟩
  | wide _ c _ => exact ⟨_, c, by decide⟩
  | over c _ => exact ⟨_, c, by decide⟩
theorem let_go {prog : Program} {w : World} {E : Value → Shared → Prop} {s : Shared} {fz : Heap} {l : List V} {o : Obj} {it : Addr} {v : Value} {target : Expr} {Q : Unit → Shared → Prop} (ho : s.heap.get? it = some o) (x : ItIs fz l o) (h : Q () s) :
    wpAny (model prog w) A (letOwnedTupleGo target (.ref it) v) Q E s := by
  obtain ⟨n, hc, hn⟩ := it_cls x
  unfold letOwnedTupleGo
  have key : wpAny (model prog w) A (do
      let (.ref r, .ref a) := ((Value.ref it), v) | return
      let o ← load r
      match o.cls, o.data with
      | .type n, .fields vs =>
        if ["enumerate", "zip", "dict_itemiterator", "dict_reverseitemiterator", "odict_iterator", "itertools.zip_longest", "itertools.pairwise"].contains n && vs[0]? == some (rawInt a) then
          rule "for.unpacks-the-owned-tuple"
          updateField r 0 .none
      | _, _ => pure ()) Q E s := by
    cases v with
    | ref a =>
      show wpAny _ _ (load it >>= _) _ _ _
      refine wpAny_bind (wpAny_load ho ?_)
      obtain ⟨c, d, dt, sl⟩ := o
      cases hc
      cases dt <;> first
        | exact wpAny_pure h
        | (dsimp only; rw [hn, Bool.false_and, if_neg Bool.false_ne_true]; exact wpAny_pure h)
    | _ => exact wpAny_pure h
  cases target <;> first | exact key | exact wpAny_pure h

/-! ### loops -/
noncomputable abbrev turnEnd (it : Addr) (r : List V) (I : List V → Own → Prop) (Q : Fl → Own → Prop) : Fl → Own → Prop
  | .next, o | .cont, o => ∃ o', Wk o ((it, .it r) :: o') ∧ I r o'
  | .brk, o => Q .next o
  | .ret v, o => Q (.ret v) o

theorem for_core {target : Expr} {body : List Stmt} {Q : Fl → Own → Prop} {it : Addr} (hh : A.handled = none) (I : List V → Own → Prop)
    (turn : ∀ x r o, I (x :: r) o → SA W A env target x ((it, .it r) :: o) fun o' => SXs W A env body o' (turnEnd it r I Q)) (last : ∀ o, I [] o → Q .next o) :
    ∀ (l : List V) (own : Own) (fz : Heap) (s : Shared), Hold W fz ((it, .it l) :: own) s → W.tk ≤ s.toks → I l own →
      codeAny (model W.prog W.w) A (.forLoop target (.ref it) body [] env) (fun r s' => match r with | .ok f => Post W RF Q fz f s' | .error _ => False) s := by
  intro l own fz s H ht hI
  refine codeAny_loop' rfl (fun n s' => ∃ fz' l own, l.length = n ∧ Keep fz fz' ∧ Hold W fz' ((it, .it l) :: own) s' ∧ W.tk ≤ s'.toks ∧ I l own) (fun n s' hJ => ?_) l.length ⟨fz, l, own, rfl, .refl _, H, ht, hI⟩
  obtain ⟨fz₁, l₁, own₁, rfl, k₁, H₁, t₁, I₁⟩ := hJ
  show wpAny _ _ ((forTurn target (.ref it) body [] env).onRaise (fun x => do noteFrame x env; theTreesLotGoes x)) _ _ s'
  refine wpAny_onRaise (wpAny_mono (E := NoX) ?_ (fun _ _ q => q) fun _ _ x => x.elim)
  simp only [forTurn]
  refine wpAny_bind (wpAny_standAt (wpAny_bind (wpAny_onRaise (wpAny_mono (E := NoX) (Q := fun r s₁ => match r with
    | none => ∃ o, I [] o ∧ Hold W fz₁ o s₁ ∧ W.tk ≤ s₁.toks
    | some v => ∃ x r o, l₁ = x :: r ∧ I (x :: r) o ∧ Hold W fz₁ ((it, .it r) :: o) s₁ ∧ W.tk ≤ s₁.toks ∧ RV fz₁ x v) ?_ (fun r s₁ h₁ => ?_) fun _ _ x => x.elim))))
  · cases l₁ with
    | nil => exact next_none hh H₁ fun s'' H'' t'' => ⟨own₁, I₁, H'', Nat.le_trans t₁ t''⟩
    | cons x r => exact next_some H₁ .here fun v s'' H'' t'' rx => ⟨x, r, own₁, rfl, I₁, H'', Nat.le_trans t₁ t'', rx⟩
  · cases r with
    | none =>
      obtain ⟨o, Io, Ho, to⟩ := h₁
      refine wpAny_pure (.inr ⟨rfl, codeAny_block (wpAny_execs_nil ?_)⟩)
      exact ⟨fz₁, .next, o, k₁, Ho, .next, last o Io⟩
    | some v =>
      obtain ⟨x, r, o, rfl, Io, Ho, to, rx⟩ := h₁
      obtain ⟨ob, hob, hit⟩ := Ho.get List.mem_cons_self
      refine wpAny_bind (let_go hob hit ?_)
      refine wpAny_bind (wp_then (turn x r o Io fz₁ _ v Ho to rx) to fun fz₂ _ _ o₂ s₂ k₂ H₂ t₂ _ q₂ => wpAny_bind (wp_then (q₂ fz₂ s₂ H₂ t₂) t₂ fun fz₃ f b o₃ s₃ k₃ H₃ t₃ r₃ q₃ => ?_))
      cases r₃ with
      | next =>
        obtain ⟨o', wk, I'⟩ := q₃
        exact wpAny_pure (.inl ⟨rfl, r.length, by simp, fz₃, r, o', rfl, k₁.trans (k₂.trans k₃), wk.hold H₃, t₃, I'⟩)
      | cont =>
        obtain ⟨o', wk, I'⟩ := q₃
        exact wpAny_pure (.inl ⟨rfl, r.length, by simp, fz₃, r, o', rfl, k₁.trans (k₂.trans k₃), wk.hold H₃, t₃, I'⟩)
      | brk => exact wpAny_pure ⟨fz₃, _, o₃, k₁.trans (k₂.trans k₃), H₃, .next, q₃⟩
      | ret rv => exact wpAny_pure ⟨fz₃, _, o₃, k₁.trans (k₂.trans k₃), H₃, .ret rv, q₃⟩

/-- what a for wants of its iterator -/
noncomputable abbrev Fors (W : Wd) (A : Around) (env : Env) (target : Expr) (body : List Stmt) (Q : Fl → Own → Prop) (b : V) (o : Own) : Prop :=
  ∃ it l o', b = .ref it ∧ o = (it, .it l) :: o' ∧ ∃ I : List V → Own → Prop, I l o' ∧ (∀ x r o, I (x :: r) o → SA W A env target x ((it, .it r) :: o) fun o' => SXs W A env body o' (turnEnd it r I Q)) ∧ (∀ o, I [] o → Q .next o)
theorem SX_For {target iter : Expr} {body : List Stmt} {pos : Pos} {Q : Fl → Own → Prop} (hh : A.handled = none) (h : SE W A env iter own fun a o1 => S1 W A RV pyIter a o1 (Fors W A env target body Q))
    (hs : ∀ x, foldedSetIterable iter env x = pure x := by intro _; rfl) : SX W A env (.For target iter body [] pos) own Q := fun fz s H ht => by
  refine wpAny_For (wp_then (h fz s H ht) ht fun fz1 va a o1 s1 k1 H1 t1 r1 q1 => wp_then (q1 fz1 s1 va H1 t1 r1) t1 fun fz2 vb b o2 s2 k2 H2 t2 r2 q2 => ?_) hs
  obtain ⟨it, l, o', rfl, rfl, I, Il, turn, last⟩ := q2
  cases r2.val_inv
  refine codeAny_mono (for_core hh I turn last l o' fz2 s2 H2 t2 Il) fun r s' x => ?_
  cases r with
  | ok f => exact Post.weak x (k1.trans k2)
  | error e => exact x.elim

theorem SX_While {test : Expr} {body : List Stmt} {pos : Pos} {Q : Fl → Own → Prop} (J : Nat → Own → Prop) (n : Nat) (h0 : J n own)
    (turn : ∀ n o, J n o → ST W A env test o fun b o1 => if b then SXs W A env body o1 (fun fl o2 => match fl with
      | .next | .cont => ∃ o' m, Wk o2 o' ∧ m < n ∧ J m o'
      | .brk => Q .next o2
      | .ret v => Q (.ret v) o2) else Q .next o1) : SX W A env (.While test body [] pos) own Q := fun fz s H ht => by
  refine wpAny_While (codeAny_mono (codeAny_whileLoop (R := fun r s' => match r with | .ok f => Post W RF Q fz f s' | .error _ => False)
    (fun n s' => ∃ fz' own, Keep fz fz' ∧ Hold W fz' own s' ∧ W.tk ≤ s'.toks ∧ J n own) (fun n s' hJ => ?_) n ⟨fz, own, .refl _, H, ht, h0⟩) fun r s' x => ?_)
  · obtain ⟨fz₁, own₁, k₁, H₁, t₁, J₁⟩ := hJ
    refine wpAny_mono (E := NoX) (wp_then (turn n own₁ J₁ fz₁ s' H₁ t₁) t₁ fun fz2 va b o2 s2 k2 H2 t2 r2 q2 => ?_) (fun _ _ x => x) fun _ _ x => x.elim
    subst r2
    cases va
    · exact wpAny_execs_nil ⟨fz2, .next, o2, k₁.trans k2, H2, .next, q2⟩
    · refine wpAny_mono (E := NoX) (wp_then (q2 fz2 s2 H2 t2) t2 fun fz₃ f b o₃ s₃ k₃ H₃ t₃ r₃ q₃ => ?_) (fun _ _ x => x) fun _ _ x => x.elim
      cases r₃ with
      | next => obtain ⟨o', m, wk, hm, J'⟩ := q₃; exact ⟨m, hm, fz₃, o', k₁.trans (k2.trans k₃), wk.hold H₃, t₃, J'⟩
      | cont => obtain ⟨o', m, wk, hm, J'⟩ := q₃; exact ⟨m, hm, fz₃, o', k₁.trans (k2.trans k₃), wk.hold H₃, t₃, J'⟩
      | brk => exact ⟨fz₃, .next, o₃, k₁.trans (k2.trans k₃), H₃, .next, q₃⟩
      | ret rv => exact ⟨fz₃, _, o₃, k₁.trans (k2.trans k₃), H₃, .ret rv, q₃⟩
  · cases r with
    | ok f => exact x
    | error e => exact x.elim

/-! ### unpacking -/
noncomputable def SAs (W : Wd) (A : Around) (env : Env) (ts : List Expr) (l : List V) (own : Own) (Q : Own → Prop) : Prop :=
  SL W A RU (fun vs => assignInOrder ((assignEach ts env).map (·.2)) vs) l own fun _ => Q
theorem SAs_nil {Q : Own → Prop} (h : Q own) : SAs W A env [] [] own Q := fun fz s vs H ht r => by
  cases r
  exact wpAny_pure ⟨fz, (), own, .refl _, H, trivial, h⟩
theorem SAs_cons {t : Expr} {ts : List Expr} {x : V} {l : List V} {Q : Own → Prop} (h : SA W A env t x own fun o1 => SAs W A env ts l o1 Q)
    (he : assignEach (t :: ts) env = (false, assign t env) :: assignEach ts env := by rfl) : SAs W A env (t :: ts) (x :: l) own Q := fun fz s vs H ht r => by
  cases r with
  | cons r rs =>
  unfold At
  rw [he]
  show wpAny _ _ (holding _ (assign t env _) >>= fun _ => assignInOrder ((assignEach ts env).map (·.2)) _) _ _ _
  refine wpAny_bind (wpAny_holding (wp_then (h fz s _ H ht r) ht fun fz1 _ _ o1 s1 k1 H1 t1 _ q1 => ?_))
  exact (q1 fz1 s1 _ H1 t1 (rs.mono k1)).weak k1
theorem SA_Tuple {ts : List Expr} {x1 : Nat} {pos : Pos} {l : List PyData} {Q : Own → Prop} (hh : A.handled = none) (hn : (assignEach ts env).length = l.length) (h : SAs W A env ts (l.map V.dat) own Q)
    (hstar : (assignEach ts env).findIdx? (·.1) = none := by rfl) : SA W A env (.Tuple ts x1 pos) (.tup l) own Q := fun fz s v H ht r => by
  obtain ⟨a, vs, rfl, hl, rs⟩ := r.tup_inv
  have hlen := rs.length
  rw [List.length_map] at hlen
  have hsz : vs.toList.length = vs.size := Array.length_toList
  refine wpAny_assign_Tuple hh (IsTuple_keep hl H.has) (by (first | decide | exact Nat.le_trans (by assumption) (by decide) | lia | omega)) hstar fun h' he => ?_
  exact h fz _ _ (H.grow (k := s.toks) fun b o e => he b o (Nat.ne_of_lt (Heap.lt_size e)) e) ht rs
theorem SX_AssignT {elts : List Expr} {k : Nat} {tpos pos : Pos} {value : Expr} {Q : Fl → Own → Prop} (h : SE W A env value own fun a o1 => SA W A env (.Tuple elts k tpos) a o1 fun o2 => Q .next o2)
    (hs : swapsWithSole [.Tuple elts k tpos] value pos.line env = pure false := by rfl)
    (hw : swappedStores [.Tuple elts k tpos] value env = pure none := by rfl) : SX W A env (.Assign [.Tuple elts k tpos] value pos) own Q := fun fz s H ht => by
  refine Assign_Tuple (wp_then (h fz s H ht) ht fun fz1 va a o1 s1 k1 H1 t1 r1 q1 => wp_then (q1 fz1 s1 va H1 t1 r1) t1 fun fz2 _ _ o2 s2 k2 H2 t2 _ q2 => ?_) hs hw
  exact ⟨fz2, _, o2, k1.trans k2, H2, .next, q2⟩
end
section
variable {W : Wd} {A : Around} {env : Env} {own : Own}

theorem it_self {fz : Heap} {s : Shared} {it : Addr} {l : List V} {Q : Value → Shared → Prop} {E : Value → Shared → Prop} (H : Hold W fz own s) (hm : (it, Ob.it l) ∈ own) (h : Q (.ref it) s) :
    wpAny (model W.prog W.w) A (pyIter (.ref it)) Q E s := by
  obtain ⟨o, ho, hob⟩ := H.get hm
  cases hob with
  | list _ _ hc hd => exact wpAny_pyIter_listiter ⟨o, ho, hc, hd⟩ h
  | tup _ _ hc hd => exact wpAny_pyIter_tupleiter ⟨o, ho, hc, hd⟩ h
  | range _ e => subst e; exact wpAny_pyIter_rangeiter (by exact ho) h
  | ascii _ hc hd => exact wpAny_pyIter_striter_ascii ⟨o, ho, hc, hd⟩ h
  | wide _ hc hd => exact wpAny_pyIter_striter_wide ⟨o, ho, hc, hd⟩ h
  | over hc hd =>
    have hT : s.TypeIs (.ref it) "list_iterator" := ⟨o, ho, hc⟩
    refine wpAny_pyIter_slot hT slot_listiter_iter (wpAny_call_entry slot_listiter_iter hT entry_listiter_iter ?_ (args_listiter_iter _))
    show wpAny _ _ (ret (.ref it)) _ _ s
    exact wpAny_pure ⟨_, rfl, "list_iterator", _, hT, slot_listiter_next.lookup, h⟩
/-! ### comprehensions -/
noncomputable def testsSem (ifs : List Expr) (cenv : Env) : Sem Bool := forIn ifs true fun c r => if r = true then do let ok ← isTrue c cenv (eval c cenv); pure (ForInStep.yield ok) else pure (ForInStep.yield r)
noncomputable abbrev STs (W : Wd) (A : Around) (cenv : Env) (ifs : List Expr) (own : Own) (Q : Bool → Own → Prop) : Prop := SG W A RB (testsSem ifs cenv) own Q
theorem STs_nil {Q : Bool → Own → Prop} (h : Q true own) : STs W A env [] own Q := fun fz s H ht => wpAny_tests_nil ⟨fz, _, own, .refl _, H, rfl, h⟩
/-- one clause's turns -/
noncomputable def turnSem (e : Expr) (d : Nat) (p : Pos) (target : Expr) (ifs : List Expr) (inner : Sem Unit) (it acc : Value) (cenv : Env) : Sem Fin := do
  standAt p
  match ← pyNext it with
  | none => pure (.done .next)
  | some v =>
    letOwnedTupleGo target it v
    assign target cenv v
    let ok ← testsSem ifs cenv
    if ok then
      inner
    again (.compLoop e d it acc cenv)

theorem comp_core {e : Expr} {d : Nat} {p : Pos} {target : Expr} {ifs : List Expr} {inner : Sem Unit} {acc : Value} {cenv : Env} {it : Addr} (hh : A.handled = none)
    (heq : compTurn e d (.ref it) acc cenv = turnSem e d p target ifs inner (.ref it) acc cenv)
    (hden : denote table (.compLoop e d (.ref it) acc cenv) = (compTurn e d (.ref it) acc cenv).onRaise (fun x => do noteFrame x cenv; theTreesLotGoes x))
    (hu : A.under (.compLoop e d (.ref it) acc cenv) = A) (I : List V → Own → Prop)
    (turn : ∀ x r o, I (x :: r) o → SA W A cenv target x ((it, .it r) :: o) fun o1 => STs W A cenv ifs o1 fun ok o2 =>
      if ok then SG W A RU inner o2 (fun _ o3 => ∃ o', Wk o3 ((it, .it r) :: o') ∧ I r o') else ∃ o', Wk o2 ((it, .it r) :: o') ∧ I r o') :
    ∀ (l : List V) (own : Own) (fz : Heap) (s : Shared), Hold W fz ((it, .it l) :: own) s → W.tk ≤ s.toks → I l own →
      codeAny (model W.prog W.w) A (.compLoop e d (.ref it) acc cenv) (fun r s' => match r with | .ok _ => ∃ fz' own', Keep fz fz' ∧ Hold W fz' own' s' ∧ W.tk ≤ s'.toks ∧ I [] own' | .error _ => False) s := by
  intro l own fz s H ht hI
  refine codeAny_loop' rfl (fun n s' => ∃ fz' l own, l.length = n ∧ Keep fz fz' ∧ Hold W fz' ((it, .it l) :: own) s' ∧ W.tk ≤ s'.toks ∧ I l own) (fun n s' hJ => ?_) l.length ⟨fz, l, own, rfl, .refl _, H, ht, hI⟩
  obtain ⟨fz₁, l₁, own₁, rfl, k₁, H₁, t₁, I₁⟩ := hJ
  rw [hu]
  show wpAny _ _ (denote table (.compLoop e d (.ref it) acc cenv)) _ _ s'
  rw [hden]
  refine wpAny_onRaise (wpAny_mono (E := NoX) ?_ (fun _ _ q => q) fun _ _ x => x.elim)
  rw [heq]
  unfold turnSem
  refine wpAny_bind (wpAny_standAt (wpAny_bind (wpAny_mono (E := NoX) (Q := fun r s₁ => match r with
    | none => ∃ o, I [] o ∧ Hold W fz₁ o s₁ ∧ W.tk ≤ s₁.toks
    | some v => ∃ x r o, l₁ = x :: r ∧ I (x :: r) o ∧ Hold W fz₁ ((it, .it r) :: o) s₁ ∧ W.tk ≤ s₁.toks ∧ RV fz₁ x v) ?_ (fun r s₁ h₁ => ?_) fun _ _ x => x.elim)))
  · cases l₁ with
    | nil => exact next_none hh H₁ fun s'' H'' t'' => ⟨own₁, I₁, H'', Nat.le_trans t₁ t''⟩
    | cons x r => exact next_some H₁ .here fun v s'' H'' t'' rx => ⟨x, r, own₁, rfl, I₁, H'', Nat.le_trans t₁ t'', rx⟩
  · cases r with
    | none =>
      obtain ⟨o, Io, Ho, to⟩ := h₁
      exact wpAny_pure ⟨fz₁, o, k₁, Ho, to, Io⟩
    | some v =>
      obtain ⟨x, r, o, rfl, Io, Ho, to, rx⟩ := h₁
      obtain ⟨ob, hob, hit⟩ := Ho.get List.mem_cons_self
      refine wpAny_bind (let_go hob hit ?_)
      refine wpAny_bind (wp_then (turn x r o Io fz₁ _ v Ho to rx) to fun fz₂ _ _ o₂ s₂ k₂ H₂ t₂ _ q₂ => wpAny_bind (wp_then (q₂ fz₂ s₂ H₂ t₂) t₂ fun fz₃ ok b o₃ s₃ k₃ H₃ t₃ r₃ q₃ => ?_))
      subst r₃
      cases ok with
      | false =>
        obtain ⟨o', wk, I'⟩ := q₃
        exact wpAny_pure (.inl ⟨rfl, r.length, by simp, fz₃, r, o', rfl, k₁.trans (k₂.trans k₃), wk.hold H₃, t₃, I'⟩)
      | true =>
        refine wpAny_bind (wp_then (q₃ fz₃ s₃ H₃ t₃) t₃ fun fz₄ _ _ o₄ s₄ k₄ H₄ t₄ _ q₄ => ?_)
        obtain ⟨o', wk, I'⟩ := q₄
        exact wpAny_pure (.inl ⟨rfl, r.length, by simp, fz₄, r, o', rfl, k₁.trans (k₂.trans (k₃.trans k₄)), wk.hold H₄, t₄, I'⟩)

noncomputable def emitSem (elt : Expr) (acc : Value) (cenv : Env) : Sem Unit := do let _ ← call (.builtin "list.append") [acc, ← eval elt cenv]
theorem turn_one (elt target iter : Expr) (ifs : List Expr) (scope : Scope) (pos : Pos) (it acc : Value) (cenv : Env) :
    compTurn (.ListComp elt [⟨target, iter, ifs, 0⟩] scope pos) 0 it acc cenv = turnSem (.ListComp elt [⟨target, iter, ifs, 0⟩] scope pos) 0 iter.pos target ifs (emitSem elt acc cenv) it acc cenv := by rfl
theorem emit_list {elt : Expr} {D : Addr} {Q : Own → Prop} (h : SE W A env elt own fun a o1 => ∃ o1' ys o2, Wk o1 o1' ∧ Upd D (.list ys) (.list (ys ++ [a])) o1' o2 ∧ ys.length ≤ sizeLine ∧ Q o2) : SG W A RU (emitSem elt (.ref D) env) own fun _ => Q := fun fz s H ht => by
  unfold emitSem
  refine wpAny_bind (wp_then (h fz s H ht) ht fun fz1 va a o1 s1 k1 H1 t1 r1 q1 => ?_)
  obtain ⟨o1', ys, o2, wk, u, hz, q⟩ := q1
  refine wpAny_bind (wp_then (do_append (Q := fun _ => Q) u hz q fz1 s1 va (wk.hold H1) t1 r1) t1 fun fz2 _ _ o3 s2 k2 H2 t2 _ q2 => wpAny_pure ⟨fz2, (), o3, k1.trans k2, H2, trivial, q2⟩)

theorem compStart_any {e : Expr} {d : Nat} {g : Comprehension} {it : Addr} {l : List V} {acc : Value} {cenv : Env} {fz : Heap} {s : Shared} {R : Result → Shared → Prop} (H : Hold W fz own s) (hm : (it, Ob.it l) ∈ own)
    (hg : (clausesOf e)[d]? = some g) (ha : (g.is_async != 0) = false)
    (hden : denote table (.compStart e d (.ref it) acc cenv) = (compStart e d (.ref it) acc cenv).onRaise (fun x => do noteFrame x cenv; standAt theWindowsPlace))
    (h : codeAny (model W.prog W.w) A (.compLoop e d (.ref it) acc cenv) R s) : codeAny (model W.prog W.w) A (.compStart e d (.ref it) acc cenv) R s := by
  refine codeAny_of_tree ?_
  show wpAny _ _ (denote table (.compStart e d (.ref it) acc cenv)) _ _ s
  rw [hden]
  refine wpAny_onRaise (wpAny_mono (E := NoX) ?_ (fun _ _ q => q) fun _ _ x => x.elim)
  unfold compStart
  rw [hg]
  simp only [Option.elim, ha, Bool.false_eq_true, if_false]
  refine wpAny_bind (wpAny_askSetting (wpAny_ite ?_))
  split
  · first
      | exact wpAny_bind (wpAny_pure (wpAny_pure (And.intro rfl h)))
      | exact wpAny_pure (And.intro rfl h)
  · exact wpAny_bind (wpAny_rule (wpAny_bind (wpAny_standAt (wpAny_bind (it_self H hm (wpAny_pure (And.intro rfl h)))))))

/-- a clause's loop -/
noncomputable def CL (W : Wd) (A : Around) (e : Expr) (d : Nat) (D : Addr) (cenv : Env) (it : Addr) (l : List V) (own : Own) (Q : Own → Prop) : Prop :=
  ∀ fz s, Hold W fz ((it, .it l) :: own) s → W.tk ≤ s.toks → codeAny (model W.prog W.w) A (.compLoop e d (.ref it) (.ref D) cenv)
    (fun r s' => match r with | .ok _ => ∃ fz' own', Keep fz fz' ∧ Hold W fz' own' s' ∧ W.tk ≤ s'.toks ∧ Q own' | .error _ => False) s
/-- one turn of a clause -/
noncomputable abbrev CT (W : Wd) (A : Around) (cenv : Env) (target : Expr) (ifs : List Expr) (inner : Sem Unit) (it : Addr) (I : List V → Own → Prop) : Prop :=
  ∀ x r o, I (x :: r) o → SA W A cenv target x ((it, .it r) :: o) fun o1 => STs W A cenv ifs o1 fun ok o2 =>
      if ok then SG W A RU inner o2 (fun _ o3 => ∃ o', Wk o3 ((it, .it r) :: o') ∧ I r o') else ∃ o', Wk o2 ((it, .it r) :: o') ∧ I r o'

theorem CL_one {elt target iter : Expr} {ifs : List Expr} {scope : Scope} {pos : Pos} {D : Addr} {cenv : Env} {it : Addr} {l : List V} {Q : Own → Prop} (hh : A.handled = none) (I : List V → Own → Prop) (h0 : I l own)
    (turn : CT W A cenv target ifs (emitSem elt (.ref D) cenv) it I) (last : ∀ o, I [] o → Q o) : CL W A (.ListComp elt [⟨target, iter, ifs, 0⟩] scope pos) 0 D cenv it l own Q := fun fz s H ht => by
  refine codeAny_mono (comp_core hh (turn_one elt target iter ifs scope pos (.ref it) (.ref D) cenv) rfl (Around.under_of_weight rfl) I turn l own fz s H ht h0) fun r s' x => ?_
  cases r with
  | ok f => obtain ⟨fz', own', k, H', t', i⟩ := x; exact ⟨fz', own', k, H', t', last _ i⟩
  | error e => exact x.elim
/-- a comprehension's own frame -/
noncomputable abbrev cEnv (scope : Scope) (cl : List (Str × Addr)) (C : Addr) (env : Env) : Env :=
  { scope := relabel scope env, locals := C, globals := env.globals, cells := cl, qual := env.qual, func := none, code := env.code, frame := env.frame, builtins := env.builtins }
/-- what a list comprehension wants of its source -/
noncomputable abbrev Comps (W : Wd) (A : Around) (env : Env) (e : Expr) (scope : Scope) (cl : List (Str × Addr)) (Fin : Addr → Addr → Own → Prop) (b : V) (o : Own) : Prop :=
  ∃ it l o3, b = .ref it ∧ o = (it, .it l) :: o3 ∧ ∀ C D, CL W A e 0 D (cEnv scope cl C env) it l ((C, .ns []) :: (D, .list []) :: o3) (Fin C D)

theorem comp_made {e : Expr} {scope : Scope} {cl : List (Str × Addr)} {Fin : Addr → Addr → Own → Prop} {b : V} {g : Comprehension} {gs : List Comprehension} {elt : Expr} {pos : Pos} {fz : Heap} {s : Shared} {RR : Value → Addr → Result → Shared → Prop} {vb : Value}
    (he : e = .ListComp elt (g :: gs) scope pos) (ha : (g.is_async != 0) = false) (hcell : ∀ y ∈ scope.names, y.2 ≠ .cell) (hkind : scope.kind = .function)
    (H : Hold W fz own s) (ht : W.tk ≤ s.toks) (r : RV fz b vb) (q : Comps W A env e scope cl Fin b own)
    (hR : ∀ C D fz' o s', Keep fz fz' → Hold W fz' o s' → W.tk ≤ s'.toks → Fin C D o → RR (.ref D) C (.ok .next) s') (hok : ∀ acc C f s', RR acc C (.ok .next) s' → RR acc C (.ok f) s') :
    wpAny (model W.prog W.w) A (newList []) (fun acc s₃ => wpAny (model W.prog W.w) A (newFunctionEnv scope env.globals cl [] env.qual none .none (some env)) (fun cenv s₄ =>
      codeAny (model W.prog W.w) A (.compStart e 0 vb acc { cenv with scope := relabel scope env }) (RR acc cenv.locals) s₄) NoX s₃) NoX s := by
  obtain ⟨it, l, o3, rfl, rfl, core⟩ := q
  cases r.val_inv
  subst he
  refine wpAny_newObj_type (wpAny_newFunctionEnv hcell (by intro y hy; simp at hy) (fun h₁ hns₁ hsb₁ => ?_) hkind)
  dsimp only at hns₁ hsb₁ ⊢
  have H₁ : Hold W fz ((s.heap.objs.size, .list []) :: (it, .it l) :: o3) { s with heap := s.heap.push (listObj [] 0), toks := s.toks } := H.new (Keep.push _ _) (get?_ge (Nat.le_refl _)) (Heap.get?_push_size _ rfl) ⟨[], 0, rfl, .nil⟩
  obtain ⟨o, ho, hob⟩ := of_ns (fz := fz) (loc := []) hns₁ (fun p hp => (nomatch hp))
  have hk₁ : Keep (s.heap.push (listObj [] 0)) h₁ := fun b o e => hsb₁.extBut b o (Nat.ne_of_lt (Heap.lt_size e)) (Heap.get?_push_of_some _ e)
  have H₂ : Hold W fz (((s.heap.push (listObj [] 0)).objs.size, .ns []) :: (s.heap.objs.size, .list []) :: (it, .it l) :: o3) { s with heap := h₁, toks := s.toks } :=
    H₁.new (k := s.toks) hk₁ (get?_ge (Nat.le_refl _)) ho hob
  have H₃ := H₂.perm (own' := (it, .it l) :: ((s.heap.push (listObj [] 0)).objs.size, .ns []) :: (s.heap.objs.size, .list []) :: o3)
    ((List.Perm.cons _ (List.Perm.swap ..)).trans (List.Perm.swap ..))
  refine compStart_any (H₃ : Hold W fz _ { s with heap := h₁, toks := s.toks + ([] : List (Str × Value)).length }) List.mem_cons_self rfl ha rfl ?_
  refine codeAny_mono (core (s.heap.push (listObj [] 0)).objs.size s.heap.objs.size fz _ H₃ ht) fun r s' x => ?_
  cases r with
  | ok f => obtain ⟨fz', own', k, H', t', i⟩ := x; exact hok _ _ _ _ (hR _ _ fz' own' s' k H' t' i)
  | error e => exact x.elim

theorem Hold.sameBut {fz : Heap} {s : Shared} {a : Addr} {ob : Ob} (H : Hold W fz ((a, ob) :: own) s) {h' : Heap} (hs : Heap.SameBut a s.heap h') : Hold W fz own { s with heap := h' } := H.extBut (k := s.toks) hs.extBut

theorem SE_Comp {elt target iter : Expr} {ifs : List Expr} {gs : List Comprehension} {scope : Scope} {pos : Pos} {cl : List (Str × Addr)} {Q : V → Own → Prop}
    (hclos : closureFor scope env = pure cl) (hcell : ∀ y ∈ scope.names, y.2 ≠ .cell) (hkind : scope.kind = .function) (hnames : ∀ y ∈ scope.names, y.2 = .local → scope.names.lookup y.1 = some .local)
    (h : SE W A env iter own fun a o1 => S1 W A RV pyIter a o1 (Comps W A env (.ListComp elt (⟨target, iter, ifs, 0⟩ :: gs) scope pos) scope cl fun C D o => ∃ ys o4, Wk o ((C, .ns []) :: (D, .list ys) :: o4) ∧ Q (.ref D) ((D, .list ys) :: o4)))
    (hs : ∀ x, foldedSetIterable iter env x = pure x := by intro _; rfl) : SE W A env (.ListComp elt (⟨target, iter, ifs, 0⟩ :: gs) scope pos) own Q := fun fz s H ht => by
  unfold At
  rw [eval_ListComp]
  refine wpAny_comprehension_free (use := none) rfl hs hclos hkind hnames (wp_then (h fz s H ht) ht fun fz1 va a o1 s1 k1 H1 t1 r1 q1 => wp_then (q1 fz1 s1 va H1 t1 r1) t1 fun fz2 vb b o2 s2 k2 H2 t2 r2 q2 => ?_)
  refine comp_made (RR := fun acc C => compPost (model W.prog W.w) A NoX none _ acc C) rfl rfl hcell hkind H2 t2 r2 q2 (fun C D fz3 o s3 k3 H3 t3 fin => ?_) fun acc C f s' x => x
  obtain ⟨ys, o4, wk, q⟩ := fin
  have H4 := wk.hold H3
  obtain ⟨oC, hoC, hns⟩ := H4.get List.mem_cons_self
  obtain ⟨m, hm, _⟩ := ns_of hoC hns
  exact ⟨m, hm, fun h' hs' => ⟨fz3, _, _, k1.trans (k2.trans k3), H4.sameBut hs', .val _, q⟩⟩

theorem S1.mono {α β : Type} {R : Heap → β → α → Prop} {f : Value → Sem α} {a : V} {Q Q' : β → Own → Prop} (h : S1 W A R f a own Q) (q : ∀ b own', Q b own' → Q' b own') : S1 W A R f a own Q' :=
  fun fz s v H ht r => (h fz s v H ht r).mono q
/-! ### the plain use: a list of data out of a list -/
theorem Hold.freezeList {fz : Heap} {s : Shared} {D : Addr} {ys : List V} {ds : List PyData} (H : Hold W fz ((D, .list ys) :: own) s) (had : AllDat ys ds) : ∃ fz', Keep fz fz' ∧ Hold W fz' own s ∧ RV fz' (.lst ds) (.ref D) := by
  obtain ⟨o, ho, r, hf, kk, H'⟩ := H.freeze
  obtain ⟨vs, n, rfl, rs⟩ := r
  exact ⟨_, kk, H', rv_list (putH_at hf) (by rw [← had.eq]; exact rs.mono kk)⟩
/-- a turn that makes one datum, or none -/
noncomputable abbrev MapTurn {α : Type} (W : Wd) (A : Around) (cenv : Env) (target elt : Expr) (ifs : List Expr) (g : α → V) (p : α → Bool) (out : α → PyData) (xs : List α) (o3 : Own) (C D : Addr) : Prop :=
  ∀ it x r ys, x ∈ xs → SA W A cenv target (g x) ((it, .it r) :: (C, .ns []) :: (D, .list ys) :: o3) fun o1 => STs W A cenv ifs o1 fun ok o2 =>
    ok = p x ∧ if p x then SE W A cenv elt o2 (fun a o4 => a = .dat (out x) ∧ Wk o4 ((it, .it r) :: (C, .ns []) :: (D, .list ys) :: o3)) else Wk o2 ((it, .it r) :: (C, .ns []) :: (D, .list ys) :: o3)

theorem CL_map {α : Type} {elt target iter : Expr} {ifs : List Expr} {scope : Scope} {pos : Pos} {C D : Addr} {cenv : Env} {it : Addr} {g : α → V} {p : α → Bool} {out : α → PyData} {xs : List α} {o3 : Own} {Q : Own → Prop} (hh : A.handled = none)
    (hz : xs.length ≤ sizeLine) (turn : MapTurn W A cenv target elt ifs g p out xs o3 C D) (last : Q ((C, .ns []) :: (D, .list (((xs.filter p).map out).map V.dat)) :: o3)) :
    CL W A (.ListComp elt [⟨target, iter, ifs, 0⟩] scope pos) 0 D cenv it (xs.map g) ((C, .ns []) :: (D, .list []) :: o3) Q := by
  refine CL_one hh (fun l o => ∃ pre post, xs = pre ++ post ∧ l = post.map g ∧ o = (C, .ns []) :: (D, .list (((pre.filter p).map out).map V.dat)) :: o3) ⟨[], xs, rfl, rfl, rfl⟩ ?_ ?_
  · rintro x r o ⟨pre, post, e, hl, rfl⟩
    cases post with
    | nil => cases hl
    | cons z post =>
      injection hl with e1 e2
      subst e1 e2
      refine S1.mono (turn it z (post.map g) _ (by rw [e]; simp)) ?_
      intro _ o1 h1
      refine SG.mono h1 ?_
      intro ok o2 ⟨hok, h2⟩
      subst hok
      have hlen : ((pre.filter p).map out).length ≤ sizeLine := by
        have := List.length_filter_le p pre
        have : pre.length ≤ xs.length := by rw [e]; simp
        rw [List.length_map]; (first | decide | exact Nat.le_trans (by assumption) (by decide) | lia | omega)
      cases hp : p z with
      | false =>
        rw [hp] at h2
        exact ⟨_, h2, pre ++ [z], post, by simp [e], rfl, by simp [List.filter_append, hp]⟩
      | true =>
        rw [hp] at h2
        refine emit_list (SG.mono h2 ?_)
        rintro a o4 ⟨rfl, wk⟩
        refine ⟨_, _, _, wk, .there (.there .here), by rw [List.length_map]; exact hlen, _, .refl, pre ++ [z], post, by simp [e], rfl, ?_⟩
        simp [List.filter_append, hp]
  · rintro o ⟨pre, post, e, hl, rfl⟩
    cases post with
    | nil => rw [List.append_nil] at e; subst e; exact last
    | cons z post => cases hl

theorem SE_freeze {e : Expr} {Q : V → Own → Prop} (h : SE W A env e own fun a o => ∃ D ys ds o4, a = .ref D ∧ o = (D, .list ys) :: o4 ∧ AllDat ys ds ∧ Q (.lst ds) o4) : SE W A env e own Q := fun fz s H ht => by
  refine wp_then (h fz s H ht) ht fun fz1 va a o1 s1 k1 H1 t1 r1 q1 => ?_
  obtain ⟨D, ys, ds, o4, rfl, rfl, ad, q⟩ := q1
  cases r1.val_inv
  obtain ⟨fz', k, H', r⟩ := H1.freezeList ad
  exact ⟨fz', _, o4, k1.trans k, H', r, q⟩

/-- a list of data, read off a source -/
theorem SE_CompMap {α : Type} {elt target iter : Expr} {ifs : List Expr} {scope : Scope} {pos : Pos} {cl : List (Str × Addr)} {Q : V → Own → Prop}
    (hh : A.handled = none) (hclos : closureFor scope env = pure cl) (hcell : ∀ y ∈ scope.names, y.2 ≠ .cell) (hkind : scope.kind = .function) (hnames : ∀ y ∈ scope.names, y.2 = .local → scope.names.lookup y.1 = some .local)
    (h : SE W A env iter own fun a o1 => S1 W A RV pyIter a o1 fun b o2 => ∃ it l o3, b = .ref it ∧ o2 = (it, .it l) :: o3 ∧ ∃ (g : α → V) (p : α → Bool) (out : α → PyData) (xs : List α), l = xs.map g ∧ xs.length ≤ sizeLine ∧
      (∀ C D, MapTurn W A (cEnv scope cl C env) target elt ifs g p out xs o3 C D) ∧ Q (.lst ((xs.filter p).map out)) o3)
    (hs : ∀ x, foldedSetIterable iter env x = pure x := by intro _; rfl) : SE W A env (.ListComp elt [⟨target, iter, ifs, 0⟩] scope pos) own Q := by
  refine SE_freeze (SE_Comp hclos hcell hkind hnames (SG.mono h fun a o1 h1 => S1.mono h1 fun b o2 h2 => ?_) hs)
  obtain ⟨it, l, o3, rfl, rfl, g, p, out, xs, rfl, hz, turn, q⟩ := h2
  refine ⟨it, _, o3, rfl, rfl, fun C D => CL_map hh hz (turn C D) ⟨_, _, .refl, D, _, _, o3, rfl, rfl, AllDat.map _, q⟩⟩

end
section
variable {W : Wd} {A : Around} {env : Env} {own : Own}

/-! ### calls: the glue -/
noncomputable def KpO (W : Wd) (own : Own) (f : Value) : Prop := ∀ fz s, Hold W fz own s → ∃ k, (k = Keeper.frame ∨ k = Keeper.machine ∨ k = Keeper.boundFrame) ∧ Looks (model W.prog W.w) s.heap (keeperOf f) k
theorem kp_builtin {id : String} : KpO W own (.builtin id) := fun fz s H => ⟨.machine, .inr (.inl rfl), Looks.of_pure rfl⟩
theorem kp_type {T : String} : KpO W own (.type T) := fun fz s H => ⟨.machine, .inr (.inl rfl), Looks.of_pure rfl⟩
theorem kp_K {f : Value} (h : keepIn W.K f = true) : KpO W own f := fun fz s H => keeps_K h s.heap H.kin
theorem callWith_any {pos : Pos} {f : Value} {first : List V} {firstV : List Value} {args : List Expr} {fz : Heap} {s : Shared} {Q : V → Own → Prop} (H : Hold W fz own s) (ht : W.tk ≤ s.toks) (rf : RVs fz first firstV)
    (hp : (backTo pos (starEach args env)).any (·.1) = false) (h : SEs W A env pos args own fun l o2 => KpO W o2 f ∧ SL W A RV (fun vs => call f vs) (first ++ l) o2 Q) :
    At W A RV (callWith pos f firstV (backTo pos (starEach args env)) []) Q fz s := by
  have key : wpAny (model W.prog W.w) A (evalArgs f true (backTo pos (starEach args env)) []) (fun a s₁ => (∃ k, (k = Keeper.frame ∨ k = Keeper.machine ∨ k = Keeper.boundFrame) ∧ Looks (model W.prog W.w) s₁.heap (keeperOf f) k) ∧
      wpAny (model W.prog W.w) A (call f (firstV ++ a.pos) a.kw) (fun a s' => Post W RV Q fz a s') NoX s₁) NoX s := by
    have h1 : wpAny (model W.prog W.w) A (spliced (backTo pos (starEach args env))) (fun vs s₁ => (∃ k, (k = Keeper.frame ∨ k = Keeper.machine ∨ k = Keeper.boundFrame) ∧ Looks (model W.prog W.w) s₁.heap (keeperOf f) k) ∧
      wpAny (model W.prog W.w) A (call f (firstV ++ vs) []) (fun a s' => Post W RV Q fz a s') NoX s₁) NoX s := by
      refine wp_then (h fz s H ht) ht fun fz1 vs l o1 s1 k1 H1 t1 r1 q1 => ⟨q1.1 fz1 s1 H1, ?_⟩
      exact (q1.2 fz1 s1 _ H1 t1 ((rf.mono k1).append r1)).weak k1
    generalize backTo pos (starEach args env) = trees at hp h1 ⊢
    cases trees with
    | nil =>
      unfold evalArgs
      show wpAny _ _ (spliced [] >>= _) _ _ _
      refine wpAny_bind (wpAny_mono h1 (fun vs s' h' => wpAny_bind (wpAny_pure ?_)) fun _ _ x => x)
      refine wpAny_holding ?_
      exact wpAny_bind (wpAny_pure (wpAny_bind (wpAny_pure (wpAny_pure h'))))
    | cons t rest =>
      obtain ⟨b, t⟩ := t
      cases b with
      | false => exact Calls.evalArgs_plain h1
      | true => simp at hp
  exact callWith_of (P := fun h => ∃ k, (k = Keeper.frame ∨ k = Keeper.machine ∨ k = Keeper.boundFrame) ∧ Looks (model W.prog W.w) h (keeperOf f) k) (by simpa using hp) (fun h x => x) key

theorem SE_Call {func : Expr} {args : List Expr} {pos : Pos} {Q : V → Own → Prop}
    (h : SE W A env func own fun fv o1 => ∃ f, fv = .val f ∧ SEs W A env pos args o1 fun l o2 => KpO W o2 f ∧ SL W A RV (fun vs => call f vs) l o2 Q)
    (he : eval (.Call func args [] pos) env = (do callWith pos (← eval func env) [] (backTo pos (starEach args env)) (backToKw pos (keywordEach [] env))) := by rfl)
    (hp : (backTo pos (starEach args env)).any (·.1) = false := by rfl) : SE W A env (.Call func args [] pos) own Q := fun fz s H ht => by
  refine Call_ (wp_then (h fz s H ht) ht fun fz1 va a o1 s1 k1 H1 t1 r1 q1 => ?_) he
  obtain ⟨f, rfl, q⟩ := q1
  cases r1.val_inv
  exact (callWith_any (first := []) H1 t1 .nil hp q).weak k1

noncomputable abbrev RM : Heap → (Value × List V) → (Value × List Value) → Prop := fun fz b a => a.1 = b.1 ∧ RVs fz b.2 a.2
noncomputable abbrev SMth (W : Wd) (A : Around) (name : Str) (pl : Sem Bool) (a : V) (own : Own) (Q : Value × List V → Own → Prop) : Prop := S1 W A RM (fun v => getMethod v name pl) a own Q
theorem SE_Meth {o : Expr} {name : Str} {apos pos : Pos} {args : List Expr} {pl : Sem Bool} {Q : V → Own → Prop}
    (h : SE W A env o own fun a o1 => SMth W A name pl a o1 fun fx o2 => SEs W A env pos args o2 fun l o3 => KpO W o3 fx.1 ∧ SL W A RV (fun vs => call fx.1 vs) (fx.2 ++ l) o3 Q)
    (he : eval (.Call (.Attribute o name apos) args [] pos) env = (do
      let ov ← eval o env
      standAt apos.atName
      let (f, first) ← holding [ov] (getMethod ov name pl)
      callWith pos f first (backTo pos (starEach args env)) []) := by rfl)
    (hp : (backTo pos (starEach args env)).any (·.1) = false := by rfl) : SE W A env (.Call (.Attribute o name apos) args [] pos) own Q := fun fz s H ht => by
  refine MethodCall_ (wp_then (h fz s H ht) ht fun fz1 va a o1 s1 k1 H1 t1 r1 q1 => wp_then (q1 fz1 s1 va H1 t1 r1) t1 fun fz2 vb b o2 s2 k2 H2 t2 r2 q2 => ?_) he
  obtain ⟨f, fs⟩ := vb
  obtain ⟨e1, e2⟩ := r2
  dsimp only at e1 e2 ⊢
  subst e1
  exact (callWith_any H2 t2 e2 hp q2).weak (k1.trans k2)

/-- a method of a text -/
theorem mth_str {x : Str} {name : Str} {id : String} {pl : Sem Bool} {Q : Value × List V → Own → Prop}
    (hg : ∀ (t : Tok) (s : Shared) (P : Value × List Value → Shared → Prop), P (.builtin id, [.str x t]) s → wpAny (model W.prog W.w) A (getMethod (.str x t) name pl) P NoX s)
    (h : Q (.builtin id, [.str x]) own) : SMth W A name pl (.str x) own Q := fun fz s v H ht r => by
  obtain ⟨t, rfl⟩ := r.str_inv
  exact hg t s _ ⟨fz, _, own, .refl _, H, ⟨rfl, .cons (.dat (.str _ _)) .nil⟩, h⟩
/-- a method of a list of one's own -/
theorem mth_list {D : Addr} {l : List V} {name : Str} {id : String} {pl : Sem Bool} {Q : Value × List V → Own → Prop} (hm : (D, Ob.list l) ∈ own) (slot : Slot "list" name id) (hty : typeOf (.builtin id) = pure (.type "method_descriptor"))
    (h : Q (.builtin id, [.ref D]) own) : SMth W A name pl (.ref D) own Q := fun fz s v H ht r => by
  cases r.val_inv
  obtain ⟨o, ho, vs, n, rfl, rs⟩ := H.get hm
  refine getMethod_builtin ⟨_, ho, rfl⟩ PySem.F.plainAttrs_list slot hty (fun a e => by cases e; exact ⟨_, ho, rfl⟩) ?_
  exact ⟨fz, _, own, .refl _, H, ⟨rfl, .cons (.val _) .nil⟩, h⟩

theorem SL1 {α β : Type} {R : Heap → β → α → Prop} {f : List Value → Sem α} {a : V} {Q : β → Own → Prop} (h : S1 W A R (fun v => f [v]) a own Q) : SL W A R f [a] own Q := fun fz s vs H ht r => by
  cases r with | cons r1 r => cases r; exact h fz s _ H ht r1
theorem SL2 {α β : Type} {R : Heap → β → α → Prop} {f : List Value → Sem α} {a b : V} {Q : β → Own → Prop} (h : S2 W A R (fun v u => f [v, u]) a b own Q) : SL W A R f [a, b] own Q := fun fz s vs H ht r => by
  cases r with | cons r1 r => cases r with | cons r2 r => cases r; exact h fz s _ _ H ht r1 r2

/-! ### built-ins -/
theorem call_append {a : Addr} {l : List V} {x : V} {own' : Own} {Q : V → Own → Prop} (u : Upd a (.list l) (.list (l ++ [x])) own own') (hz : l.length ≤ sizeLine) (h : Q .none own') :
    SL W A RV (fun vs => call (.builtin "list.append") vs) [.ref a, x] own Q := SL2 fun fz s v w H ht r1 r2 => by
  cases r1.val_inv
  exact do_append u hz h fz s w H ht r2
theorem call_len_own {a : Addr} {l : List V} {Q : V → Own → Prop} (hm : (a, Ob.list l) ∈ own) (hz : l.length ≤ sizeLine) (h : Q (.int l.length) own) : SL W A RV (fun vs => call (.builtin "len") vs) [.ref a] own Q := SL1 fun fz s v H ht r => by
  cases r.val_inv
  obtain ⟨o, ho, vs, n, rfl, rs⟩ := H.get hm
  have hlen := rs.length
  rw [sizeLine_eq] at hz
  refine Calls.call_len_list (items := vs.toArray) ⟨_, ho, rfl, n, rfl⟩ (by simp only [List.size_toArray]; (first | decide | exact Nat.le_trans (by assumption) (by decide) | lia | omega)) ?_
  simp only [List.size_toArray, ← hlen]
  exact at_tok H _ (.dat (.int _ _)) h
theorem call_len_str {x : Str} {Q : V → Own → Prop} (hz : x.length ≤ sizeLine) (h : Q (.int x.length) own) : SL W A RV (fun vs => call (.builtin "len") vs) [.str x] own Q := SL1 fun fz s v H ht r => by
  obtain ⟨t, rfl⟩ := r.str_inv
  rw [sizeLine_eq] at hz
  exact P.len_str (by (first | decide | exact Nat.le_trans (by assumption) (by decide) | lia | omega)) (at_tok H _ (.dat (.int _ _)) h)
theorem call_chr {i : Int} {Q : V → Own → Prop} (h0 : 0 ≤ i) (h1 : i < 1114112) (h : Q (.str ⟨#[i.toNat]⟩) own) : SL W A RV (fun vs => call (.builtin "chr") vs) [.int i] own Q := SL1 fun fz s v H ht r => by
  obtain ⟨t, rfl⟩ := r.int_inv
  exact P.chr_of_int (by simp; (first | decide | exact Nat.le_trans (by assumption) (by decide) | lia | omega)) (at_tok H _ (.dat (.str _ _)) h)
theorem call_range1 {n : Int} {Q : V → Own → Prop} (h : Q (.rng 0 n 1) own) : SL W A RV (fun vs => call (.type "range") vs) [.int n] own Q := SL1 fun fz s v H ht r => by
  obtain ⟨t, rfl⟩ := r.int_inv
  refine call_range_1 ?_
  obtain ⟨kk, H'⟩ := H.frz (k := s.toks + 1 + 1) (o := { cls := .type "range", data := .fields #[.int 0 s.toks, .int n t, .int 1 (s.toks + 1)] }) rfl (Keep.push _ _) (get?_ge (Nat.le_refl _)) (Heap.get?_push_size _ rfl)
  exact ⟨_, _, own, kk, H', .rng (putH_at rfl), h⟩
theorem call_count {x y : Str} {Q : V → Own → Prop} (h : Q (.int (Txt.count x y)) own) : SL W A RV (fun vs => call (.builtin "str.count") vs) [.str x, .str y] own Q := SL2 fun fz s v u H ht r1 r2 => by
  obtain ⟨t, rfl⟩ := r1.str_inv; obtain ⟨t', rfl⟩ := r2.str_inv
  exact SC.count (at_tok H _ (.dat (.int _ _)) h)

/-! ### lists joined, repeated -/
theorem new_list {fz : Heap} {s : Shared} {vs : List Value} {ds : List PyData} {n : Nat} {Q : V → Own → Prop} (H : Hold W fz own s) (rs : RVs fz (ds.map V.dat) vs) (h : Q (.lst ds) own) :
    Post W RV Q fz (.ref s.heap.objs.size) { s with heap := s.heap.push { cls := .type "list", data := .seq vs.toArray n } } := by
  obtain ⟨kk, H'⟩ := H.frz (k := s.toks) (o := listObj vs n) rfl (Keep.push _ _) (get?_ge (Nat.le_refl _)) (Heap.get?_push_size _ rfl)
  exact ⟨_, _, own, kk, H', rv_list (putH_at rfl) (rs.mono kk), h⟩
theorem op_addL {a b : List PyData} {Q : V → Own → Prop} (hz : a.length + b.length ≤ sizeLine) (h : Q (.lst (a ++ b)) own) : S2 W A RV (binaryOp .Add) (.lst a) (.lst b) own Q := fun fz s v u H ht r1 r2 => by
  obtain ⟨x, vs, rfl, hl, rs⟩ := r1.lst_inv
  obtain ⟨y, ws, rfl, hm, rt⟩ := r2.lst_inv
  have h1 := rs.length
  have h2 := rt.length
  rw [List.length_map] at h1 h2
  obtain ⟨⟨cls, dd, data, sl⟩, ho, hc, n, hd⟩ := IsList_keep hl H.has
  obtain ⟨⟨cls2, dd2, data2, sl2⟩, ho2, hc2, n2, hd2⟩ := IsList_keep hm H.has
  simp only at hc hd hc2 hd2
  subst hc hd hc2 hd2
  have q1 : vs.toList.length = vs.size := Array.length_toList
  have q2 : ws.toList.length = ws.size := Array.length_toList
  refine concat_meets ⟨_, ho, rfl⟩ ⟨_, ho2, rfl⟩ noFill_list_add seq_list_add PySem.F.slot_list_add PySem.F.entry_list_add (PySem.F.args_list_add_2 _ _) (list_addW x y vs ws n n2 dd dd2 sl sl2 (by (first | decide | exact Nat.le_trans (by assumption) (by decide) | lia | omega))) ⟨ho, ho2, ?_⟩
  have e : vs ++ ws = (vs.toList ++ ws.toList).toArray := by simp
  rw [e]
  exact new_list H (by rw [List.map_append]; exact rs.append rt) h

theorem rvs_rep {fz : Heap} {l : List V} {vs : List Value} (r : RVs fz l vs) : ∀ n : Nat, RVs fz (List.replicate n l).flatten (List.replicate n vs).flatten
  | 0 => .nil
  | n + 1 => by rw [List.replicate_succ, List.replicate_succ, List.flatten_cons, List.flatten_cons]; exact r.append (rvs_rep r n)
/-! ### slices -/
noncomputable def cutL {α : Type} (l : List α) (lo hi : Option Int) : List α := (l.drop (lo.elim 0 (clipAt l.length))).take (hi.elim l.length (clipAt l.length) - lo.elim 0 (clipAt l.length))
noncomputable def cutS (x : Str) (lo hi : Option Int) : Str := ⟨(cutL x.cps.toList lo hi).toArray⟩
theorem cutL_map {α β : Type} (f : α → β) (l : List α) (lo hi : Option Int) : (cutL l lo hi).map f = cutL (l.map f) lo hi := by
  unfold cutL; rw [List.map_take, List.map_drop, List.length_map]
theorem rvs_cut {fz : Heap} {l : List V} {vs : List Value} (r : RVs fz l vs) (lo hi : Option Int) : RVs fz (cutL l lo hi) (cutL vs lo hi) := by
  have drop : ∀ {l : List V} {vs : List Value}, RVs fz l vs → ∀ n : Nat, RVs fz (l.drop n) (vs.drop n) := by
    intro l vs r
    induction r with
    | nil => intro n; cases n <;> exact .nil
    | cons h t ih => intro n; cases n with
      | zero => exact .cons h t
      | succ n => exact ih n
  have take : ∀ {l : List V} {vs : List Value}, RVs fz l vs → ∀ n : Nat, RVs fz (l.take n) (vs.take n) := by
    intro l vs r
    induction r with
    | nil => intro n; cases n <;> exact .nil
    | cons h t ih => intro n; cases n with
      | zero => exact .nil
      | succ n => exact .cons h (ih n)
  unfold cutL
  rw [r.length]
  exact take (drop r _) _
theorem strSlice_is (x : Str) (lo hi : Option Int) : Txt.slice x lo hi = cutS x lo hi := by
  have e : (Builtin.Str.strSliceIndices lo hi 1 x.length) = (List.range (hi.elim x.length (clipAt x.length) - lo.elim 0 (clipAt x.length))).map (lo.elim 0 (clipAt x.length) + ·) := by
    rw [← sliceRange_one]
    have b := sliceBounds_plain lo hi x.length
    have b1 := congrArg (·.1) b
    have b2 := congrArg (·.2.1) b
    dsimp only at b1 b2
    rw [← b1, ← b2]
    cases lo <;> cases hi <;> rfl
  have e2 : ((Builtin.Str.strSliceIndices lo hi 1 x.length).filterMap (x.cps[·]?)) = cutL x.cps.toList lo hi := by
    rw [e, pick_run]
    unfold cutL
    rw [Array.length_toList]; rfl
  unfold Txt.slice cutS
  rw [e2]
  split
  · rename_i h
    simp only [beq_self_eq_true, Bool.true_and, beq_iff_eq] at h
    have h3 : (cutL x.cps.toList lo hi).length = x.length := by
      rw [e, List.length_map, List.length_range] at h
      have h4 : x.cps.toList.length = x.length := Array.length_toList
      have hb : hi.elim x.length (clipAt x.length) ≤ x.length := by cases hi <;> simp only [Option.elim, clipAt] <;> (first | decide | exact Nat.le_trans (by assumption) (by decide) | lia | omega)
      unfold cutL
      rw [List.length_take, List.length_drop, h4]
      (first | decide | exact Nat.le_trans (by assumption) (by decide) | lia | omega)
    have h5 : cutL x.cps.toList lo hi = x.cps.toList := by
      have hs : (cutL x.cps.toList lo hi).Sublist x.cps.toList := by unfold cutL; exact (List.take_sublist _ _).trans (List.drop_sublist _ _)
      exact hs.eq_of_length (by rw [h3, Array.length_toList]; rfl)
    rw [h5]
  · rfl

noncomputable abbrev SPt (W : Wd) (A : Around) (env : Env) (p : Option Expr) (own : Own) (Q : Option Int → Own → Prop) : Prop := SG W A (fun _ k v => IsPart v k) (evalPart p env) own Q
theorem SPt_none {Q : Option Int → Own → Prop} (h : Q none own) : SPt W A env none own Q := fun fz s H ht => wpAny_pure ⟨fz, _, own, .refl _, H, .none, h⟩
theorem SPt_some {e : Expr} {Q : Option Int → Own → Prop} (h : SE W A env e own fun a o1 => ∃ i, a = .int i ∧ Q (some i) o1) : SPt W A env (some e) own Q := fun fz s H ht =>
  wp_then (h fz s H ht) ht fun fz1 va a o1 s1 k1 H1 t1 r1 q1 => by
    obtain ⟨i, rfl, q⟩ := q1
    obtain ⟨t, rfl⟩ := r1.int_inv
    exact ⟨fz1, _, o1, k1, H1, .int _ _, q⟩
theorem SE_SliceL {value : Expr} {lower upper : Option Expr} {p pos : Pos} {Q : V → Own → Prop}
    (h : SE W A env value own fun a o1 => SPt W A env lower o1 fun lo o2 => SPt W A env upper o2 fun hi o3 => ∃ l, a = .lst l ∧ l.length ≤ sizeLine ∧ Q (.lst (cutL l lo hi)) o3)
    (ht : ∀ o r, letTemporaryGo value o r = pure () := by intro _ _; rfl) : SE W A env (.Subscript value (.Slice lower upper none p) pos) own Q := fun fz s H tk => by
  refine wpAny_Subscript_list_slice (wp_then (h fz s H tk) tk fun fz1 va a o1 s1 k1 H1 t1 r1 q1 => wp_then (q1 fz1 s1 H1 t1) t1 fun fz2 vl lo o2 s2 k2 H2 t2 r2 q2 => wp_then (q2 fz2 s2 H2 t2) t2 fun fz3 vu hi o3 s3 k3 H3 t3 r3 q3 => ?_) ht
  obtain ⟨l, rfl, hz, q⟩ := q3
  obtain ⟨x, vs, rfl, hl, rs⟩ := (r1.mono (k2.trans k3)).lst_inv
  have h1 := rs.length
  rw [List.length_map] at h1
  have qs : vs.toList.length = vs.size := Array.length_toList
  refine ⟨x, vs, lo, hi, rfl, IsList_keep hl H3.has, by (first | decide | exact Nat.le_trans (by assumption) (by decide) | lia | omega), r2, r3, ?_⟩
  have e : slicePick vs lo hi none = (cutL vs.toList lo hi).toArray := by rw [slicePick_plain]; unfold cutL; rw [Array.length_toList]
  rw [e]
  have H4 := H3.grow (k := s3.toks) (Keep.push s3.heap { cls := .type "slice", data := .fields #[vl, vu, .none] })
  obtain ⟨fz', b, own', kk, H', r, qq⟩ := new_list (n := 0) (vs := cutL vs.toList lo hi) (ds := cutL l lo hi) H4 (by rw [cutL_map]; exact rvs_cut rs lo hi) q
  rw [show ({ s3 with heap := s3.heap.push { cls := .type "slice", data := .fields #[vl, vu, .none] }, toks := s3.toks } : Shared).heap.objs.size = s3.heap.objs.size + 1 from Heap.size_push ..] at r
  exact ⟨fz', b, own', k1.trans (k2.trans (k3.trans kk)), H', r, qq⟩
theorem part_value {v : Value} {k : Option Int} (h : IsPart v k) : ∃ l : Option (Int × Tok), v = partValue l ∧ l.map (·.1) = k := by
  cases h with
  | none => exact ⟨none, rfl, rfl⟩
  | int i t => exact ⟨some (i, t), rfl, rfl⟩
theorem SE_SliceS {value : Expr} {lower upper : Option Expr} {p pos : Pos} {Q : V → Own → Prop}
    (h : SE W A env value own fun a o1 => SPt W A env lower o1 fun lo o2 => SPt W A env upper o2 fun hi o3 => ∃ x, a = .str x ∧ x.length ≤ sizeLine ∧ Q (.str (cutS x lo hi)) o3)
    (ht : ∀ o r, letTemporaryGo value o r = pure () := by intro _ _; rfl) : SE W A env (.Subscript value (.Slice lower upper none p) pos) own Q := fun fz s H tk => by
  refine wpAny_Subscript_str_slice (wp_then (h fz s H tk) tk fun fz1 va a o1 s1 k1 H1 t1 r1 q1 => wp_then (q1 fz1 s1 H1 t1) t1 fun fz2 vl lo o2 s2 k2 H2 t2 r2 q2 => wp_then (q2 fz2 s2 H2 t2) t2 fun fz3 vu hi o3 s3 k3 H3 t3 r3 q3 => ?_) ht
  obtain ⟨x, rfl, hz, q⟩ := q3
  obtain ⟨t, rfl⟩ := r1.str_inv
  obtain ⟨pl, rfl, e1⟩ := part_value r2
  obtain ⟨pu, rfl, e2⟩ := part_value r3
  refine ⟨x, t, pl, pu, rfl, rfl, rfl, ?_⟩
  have hs := strSlice_is x lo hi
  have H4 := H3.grow (k := s3.toks) (Keep.push s3.heap { cls := .type "slice", data := .fields #[partValue pl, partValue pu, .none] })
  have key : ∀ (t' : Tok) (k : Nat), Post W RV Q fz (.str (Txt.slice x lo hi) t') { s3 with heap := s3.heap.push { cls := .type "slice", data := .fields #[partValue pl, partValue pu, .none] }, toks := k } := fun t' k =>
    ⟨fz3, _, o3, k1.trans (k2.trans k3), H4.toks k, by rw [hs]; exact .dat (.str _ _), q⟩
  unfold Txt.slice at key
  unfold sliceMade slicePicked
  rw [e1, e2]
  dsimp only [Option.map, Option.getD]
  split
  · rename_i hc
    rw [if_pos hc] at key
    exact key t _
  · rename_i hc
    rw [if_neg hc] at key
    refine ⟨?_, key _ _⟩
    have := Txt.slice_le x lo hi
    unfold Txt.slice at this
    rw [if_neg hc] at this
    exact Nat.le_trans this hz
end
section
variable {W : Wd} {A : Around} {env : Env} {own : Own}

/-! ### attributes of a made thing -/
theorem putNs {o : Obj} {es : Array DictEntry} {ep : Nat} {name : Str} {h : Int} {t : Tok} {v : Value} (hd : o.data = .dict es ep) (hk : StrKeys es) :
    ∃ es' ep', (o.putName name h (.str name t) v).data = .dict es' ep' ∧ StrKeys es' ∧ es'.size ≤ es.size + 1 ∧ (nsFind es name ≠ none → es'.size = es.size) ∧ ∀ x, nsFind es' x = if x = name then some v else nsFind es x := by
  obtain ⟨c, d, dt, sl⟩ := o
  subst hd
  cases hi : es.findIdx? (·.key.isStr name) with
  | some i =>
    refine ⟨es.modify i fun e => { e with val := v }, ep, by simp only [Obj.putName_eq, Obj.putNameByArray, hi], hk.modify _ _, by simp, fun _ => by simp, fun x => ?_⟩
    exact findBy_modify (fun n v => v.isStr n) Value.isStr_inj es name x v i hi
  | none =>
    refine ⟨es.push ⟨h, .str name t, v⟩, ep + 1, by simp only [Obj.putName_eq, Obj.putNameByArray, hi], hk.push _ _ _ _, by simp, fun hne => ?_, fun x => ?_⟩
    · exfalso; apply hne
      unfold nsFind findBy
      rw [Option.map_eq_none_iff, Array.find?_eq_none]
      intro e he
      rw [Array.findIdx?_eq_none_iff] at hi
      simpa using hi e he
    · exact findBy_push (fun n v => v.isStr n) es name x _ _ v (fun y => by
        show (name == y) = decide (y = name)
        by_cases h : y = name
        · subst h; simp
        · have : ¬ name = y := fun e => h e.symm
          simp [h, this]) hi

theorem Put.keys {x : Str} {a : V} {l l' : List (Str × V)} (u : Put x a l l') : (x ∈ l.map (·.1) ∧ l'.map (·.1) = l.map (·.1)) ∨ (l'.map (·.1) = l.map (·.1) ++ [x]) := by
  induction u with
  | new => exact .inr rfl
  | here => exact .inl ⟨by simp, by simp⟩
  | there _ ih =>
    rcases ih with ⟨h1, h2⟩ | h
    · exact .inl ⟨by simp only [List.map_cons, List.mem_cons]; exact .inr h1, by simp only [List.map_cons, h2]⟩
    · exact .inr (by simp only [List.map_cons, h, List.cons_append])
theorem att_put {fz : Heap} {loc loc' : List (Str × V)} {o : Obj} {x : Str} {a : V} {v : Value} {h : Int} {t : Tok} (H : AttIs fz loc o) (u : Put x a loc loc') (nd : (loc'.map (·.1)).Nodup) (r : RV fz a v) :
    AttIs fz loc' (o.putName x h (.str x t) v) := by
  obtain ⟨es, ep, hd, hk, hz, h1, h2⟩ := H
  obtain ⟨es', ep', hd', hk', hz', hz2, hf⟩ := putNs (name := x) (h := h) (t := t) (v := v) hd hk
  have kk := u.keys
  refine ⟨es', ep', hd', hk', ?_, fun p hp => ?_, fun y hy => ?_⟩
  · rcases kk with ⟨m, e⟩ | e
    · have : nsFind es x ≠ none := by
        obtain ⟨p, hp, e'⟩ := List.mem_map.mp m
        obtain ⟨w, e2, _⟩ := h1 p hp
        rw [← e', e2]; exact fun z => nomatch z
      rw [hz2 this]
      have := congrArg List.length e
      simp only [List.length_map] at this
      (first | decide | exact Nat.le_trans (by assumption) (by decide) | lia | omega)
    · have := congrArg List.length e
      simp only [List.length_map, List.length_append, List.length_cons, List.length_nil] at this
      (first | decide | exact Nat.le_trans (by assumption) (by decide) | lia | omega)
  · rcases u.other nd p hp with rfl | ⟨hp', hne⟩
    · exact ⟨v, by rw [hf, if_pos rfl], r⟩
    · obtain ⟨w, e, r'⟩ := h1 p hp'; exact ⟨w, by rw [hf, if_neg hne]; exact e, r'⟩
  · rw [hf]
    rcases kk with ⟨m, e⟩ | e
    · rw [e] at hy
      rw [if_neg (fun q : y = x => hy (q ▸ m))]; exact h2 y hy
    · rw [e, List.mem_append] at hy
      rw [if_neg (fun q => hy (.inr (by simp [q])))]; exact h2 y (fun q => hy (.inl q))

theorem lookIn_of {o : Obj} {es : Array DictEntry} {ep : Nat} {name : Str} (hd : o.data = .dict es ep) (hk : StrKeys es) : lookIn name o = some (nsFind es name) := by
  unfold lookIn
  rw [hd]
  dsimp only
  have e : nsFind es name = (es.toList.find? (·.key.isStr name)).map (·.val) := by unfold nsFind findBy; rw [Array.find?_toList]
  rw [e]
  cases q : es.toList.find? (·.key.isStr name) with
  | some en => rfl
  | none =>
    have : es.toList.any (·.refKey) = false := by
      rw [List.any_eq_false]; intro z hz; obtain ⟨n, t, h⟩ := hk z (by simpa using hz); simp [DictEntry.refKey, h]
    simp [this]

theorem inst_at {fz : Heap} {s : Shared} {x dx C : Addr} {loc : List (Str × V)} (H : Hold W fz own s) (h1 : (x, Ob.obj (instObj C dx)) ∈ own) (h2 : (dx, Ob.att loc) ∈ own) :
    ∃ od, s.heap.get? dx = some od ∧ AttIs fz loc od ∧ InstAt s.heap x (instObj C dx) C (some od) := by
  obtain ⟨o, ho, e⟩ := H.get h1
  have e' : o = instObj C dx := e
  subst e'
  obtain ⟨od, hd, a⟩ := H.get h2
  exact ⟨od, hd, a, ho, rfl, rfl, hd⟩

/-- what the text's class must be -/
structure ClsOk (K : Frag) (C : Addr) : Prop where
  makes : makesIn K C = true
  ga : findIn K (.ref C) "__getattribute__" = some (some (.builtin "object.__getattribute__"))
  gattr : findIn K (.ref C) "__getattr__" = some none
  sa : findIn K (.ref C) "__setattr__" = some (some (.builtin "object.__setattr__"))
  plain : plainOver K C = true
  dict : (clsIn K C).any (·.hasDict) = true

theorem do_setattr {x dx C : Addr} {loc loc' : List (Str × V)} {name : Str} {a : V} {own' : Own} {Q : Own → Prop} (hc : ClsOk W.K C) (ht : takerIn W.K C name = some none) (h1 : (x, Ob.obj (instObj C dx)) ∈ own) (h2 : (dx, Ob.att loc) ∈ own)
    (u : Put name a loc loc') (nd : (loc'.map (·.1)).Nodup) (hz : loc'.length ≤ 1000) (up : Upd dx (.att loc) (.att loc') own own') (h : Q own') :
    S1 W A RU (fun v => setAttr (.ref x) name v) a own fun _ => Q := fun fz s v H tk r => by
  obtain ⟨od, hod, ha, I⟩ := inst_at H h1 up.mem
  refine set_plain H.kin I hc.sa ?_
  refine osa_open (s := { s with toks := s.toks + 1 }) H.kin I hc.plain ht fun b => ?_
  obtain ⟨cd, hcd, hdict⟩ := any_some hc.dict
  have ha' := att_put (h := PyData.keyHash W.w.params name) (t := s.toks + 1) ha u nd r
  have hhas := ha
  obtain ⟨es, ep, hd, hk, hsz, _, _⟩ := ha
  obtain ⟨hx, _, _, _⟩ := I
  have hnf : (Obj.putName name (PyData.keyHash W.w.params name) (.str name (s.toks + 1)) v od).isFreed = false := by
    obtain ⟨es', ep', hd', _⟩ := ha'
    have g : ∀ o : Obj, o.data = .dict es' ep' → o.isFreed = false := by rintro ⟨_, _, dt, _⟩ e; cases e; rfl
    exact g _ hd'
  refine wpAny_bind (wpAny_pure (wpAny_bind (wpAny_bind (wpAny_loadPart hx (wpAny_bind ((looks_clsIn (H.toks (s.toks + 1)).kin hcd).here ?_))))))
  rw [hdict]
  refine wpAny_pure (a := some dx) (wpAny_bind (wpAny_pure (wpAny_bind ?_)))
  unfold nsSet
  refine wpAny_bind (wpAny_bind (wpAny_askSetting (wpAny_pure (wpAny_bind (wpAny_mkText (wpAny_bind (wpAny_loadPart hod ?_)))))))
  have hany : es.any (·.refKey) = false := by
    rw [Array.any_eq_false']; intro e he; obtain ⟨n, t, h⟩ := hk e he; simp [DictEntry.refKey, h]
  rw [hd]
  dsimp only
  have c : (!es.any (·.key.isStr name) && es.any (·.refKey)) = false := by rw [hany, Bool.and_false]
  rw [aRefKeyMayBeTheName_at, c]
  refine wpAny_updatePart hod ?_
  have D' := Heap.get?_update_self (Obj.putName name (PyData.keyHash W.w.params name) (.str name (s.toks + 1)) v) hod hnf
  refine wpAny_bind (wpAny_lookBehind D' ?_ ?_)
  · obtain ⟨es', ep', hd', _, hz', _⟩ := ha'
    rw [hd']; exact pastItsLine_dict (by rw [sizeLine_eq]; (first | decide | exact Nat.le_trans (by assumption) (by decide) | lia | omega))
  · refine wpAny_pure ?_
    exact ⟨fz, (), own', .refl _, H.set (k := s.toks + 1 + 1) up (Heap.SameBut.update ..) D' ha', trivial, h⟩

theorem SX_AssignAttr {o : Expr} {name : Str} {pos' pos : Pos} {value : Expr} {Q : Fl → Own → Prop}
    (h : SE W A env value own fun a o1 => SE W A env o o1 fun b o2 => ∃ x, b = .ref x ∧ S1 W A RU (fun v => setAttr (.ref x) name v) a o2 fun _ o3 => Q .next o3)
    (hs : swapsWith value (some (.Attribute o name pos')) pos.line env = pure false := by rfl) : SX W A env (.Assign [.Attribute o name pos'] value pos) own Q := fun fz s H ht => by
  refine plainObj_wpAny_Assign_Attribute (wp_then (h fz s H ht) ht fun fz1 va a o1 s1 k1 H1 t1 r1 q1 => wp_then (q1 fz1 s1 H1 t1) t1 fun fz2 vb b o2 s2 k2 H2 t2 r2 q2 => ?_) hs
  obtain ⟨x, rfl, q⟩ := q2
  cases r2.val_inv
  refine wp_then (q fz2 s2 va H2 t2 (r1.mono k2)) t2 fun fz3 _ _ o3 s3 k3 H3 t3 _ q3 => ?_
  exact ⟨fz3, .next, o3, k1.trans (k2.trans k3), H3, .next, q3⟩

theorem get_att {x dx C : Addr} {loc : List (Str × V)} {name : Str} {a : V} {Q : V → Own → Prop} (hc : ClsOk W.K C) (h1 : (x, Ob.obj (instObj C dx)) ∈ own) (h2 : (dx, Ob.att loc) ∈ own) (hx : (name, a) ∈ loc)
    (hf : findIn W.K (.ref C) name = some none) (hv : ∀ fz v, RV fz a v → handedIn v = true) (h : Q a own) : S1 W A RV (fun v => getAttr v name true) (.ref x) own Q := fun fz s v H tk r => by
  cases r.val_inv
  obtain ⟨od, hod, ha, I⟩ := inst_at H h1 h2
  obtain ⟨es, ep, hd, hk, hsz, h3, _⟩ := ha
  obtain ⟨u, e, ru⟩ := h3 _ hx
  obtain ⟨cd, hcd, hdict⟩ := any_some hc.dict
  refine get_value (v := u) H.kin I hc.ga ?_ (hv _ _ ru) ⟨fz, a, own, .refl _, H.toks _, ru, h⟩
  unfold findObj
  rw [hcd, Option.bind_some, hf, Option.bind_some]
  dsimp only
  rw [Option.bind_some, Option.bind_some]
  dsimp only
  unfold PySem.W.ownOf
  rw [hdict, if_pos rfl]
  dsimp only
  rw [lookIn_of hd hk, e]
  rfl

theorem handed_int {i : Int} : ∀ fz v, RV fz (.int i) v → handedIn v = true := fun fz v r => by obtain ⟨t, rfl⟩ := r.int_inv; rfl
/-- a method of the class -/
theorem mth_inst {x dx C f : Addr} {loc : List (Str × V)} {name : Str} {pl : Sem Bool} {Q : Value × List V → Own → Prop} (hc : ClsOk W.K C) (h1 : (x, Ob.obj (instObj C dx)) ∈ own) (h2 : (dx, Ob.att loc) ∈ own)
    (hf : findIn W.K (.ref C) name = some (some (.ref f))) (hty : typeIn W.K (.ref f) = some (.type "function")) (hn : name ∉ loc.map (·.1)) (h : Q (.ref f, [.ref x]) own) : SMth W A name pl (.ref x) own Q := fun fz s v H tk r => by
  cases r.val_inv
  obtain ⟨od, hod, ha, I⟩ := inst_at H h1 h2
  obtain ⟨es, ep, hd, hk, hsz, _, h4⟩ := ha
  refine method_fn H.kin I hc.ga hc.gattr hf hty ?_ ⟨fz, _, own, .refl _, H, ⟨rfl, .cons (.val _) .nil⟩, h⟩
  unfold shadowIn
  dsimp only
  rw [lookIn_of hd hk, h4 _ hn]
  rfl

/-- making a thing -/
theorem do_make {C fI : Addr} {args : List V} {Q : V → Own → Prop} (hc : ClsOk W.K C) (hi : findIn W.K (.ref C) "__init__" = some (some (.ref fI))) (hf : typeIn W.K (.ref fI) = some (.type "function"))
    (h : ∀ A' : Around, A'.handled = A.handled → A'.depth = A.depth + 1 → A'.units = A.units + 1 → ∀ x dx, SLC W A' (.ref fI) (.ref x :: args) ((x, .obj (instObj C dx)) :: (dx, .att []) :: own) fun r o => r = .none ∧ Q (.ref x) o) :
    SL W A RV (fun vs => call (.ref C) vs) args own Q := fun fz s vs H ht rs => by
  refine wpAny_call ?_
  have k : Keep s.heap ((s.heap.push emptyDict).push (instObj C s.heap.objs.size)) := (Keep.push _ _).trans (Keep.push _ _)
  have H1 : Hold W fz ((s.heap.objs.size, .att []) :: own) { s with heap := s.heap.push emptyDict, toks := s.toks } := H.new (Keep.push _ _) (get?_ge (Nat.le_refl _)) (Heap.get?_push_size _ rfl)
    ⟨#[], 0, rfl, fun e he => by simp at he, by simp, fun p hp => (nomatch hp), fun x _ => rfl⟩
  have H2 : Hold W fz ((s.heap.objs.size + 1, .obj (instObj C s.heap.objs.size)) :: (s.heap.objs.size, .att []) :: own) { s with heap := (s.heap.push emptyDict).push (instObj C s.heap.objs.size), toks := s.toks } := by
    have := H1.new (k := s.toks) (ob := .obj (instObj C s.heap.objs.size)) (Keep.push _ (instObj C s.heap.objs.size)) (get?_ge (Nat.le_refl _)) (Heap.get?_push_size _ rfl) rfl
    rw [show ({ s with heap := s.heap.push emptyDict, toks := s.toks } : Shared).heap.objs.size = s.heap.objs.size + 1 from Heap.size_push ..] at this
    exact this
  obtain ⟨hh, g, d, t, os⟩ := s
  refine make_core (makes_of H.kin hc.makes) (looks_findIn H.kin hi) (fun self => bind_fn H.kin self hf) (.inl rfl) ?_
  have key := h (A.under (.builtin "type.__call__" ⟨.ref C :: vs, []⟩)) rfl rfl rfl (hh.objs.size + 1) hh.objs.size fz _ _ H2 ht (.cons (.val _) rs)
  refine codeAny_mono key fun r s' x => ?_
  rcases r with e | (v | _ | _ | _) <;> first | exact x.elim | skip
  obtain ⟨fz', b, own', k', H', rb, rfl, q⟩ := x
  exact ⟨rb.none_inv, fz', _, own', k', H', .val _, q⟩
end
section
variable {W : Wd} {A : Around} {env : Env} {own : Own}

theorem ite_dec {p : Prop} [Decidable p] {P Q : Prop} (h1 : p → P) (h2 : ¬ p → Q) : if decide p = true then P else Q := by
  by_cases h : p
  · rw [if_pos (decide_eq_true h)]; exact h1 h
  · rw [if_neg (by simpa using h)]; exact h2 h
theorem ite_tt' {P Q : Prop} (h : P) : if true = true then P else Q := by rw [if_pos rfl]; exact h
theorem ite_ff' {P Q : Prop} (h : Q) : if false = true then P else Q := by rw [if_neg (by decide)]; exact h
theorem ite_bool {b : Bool} {P Q : Prop} (h1 : b = true → P) (h2 : b = false → Q) : if b = true then P else Q := by cases b <;> simp_all

theorem K_of {K K' : Frag} {a : Addr} {o : Obj} (hK : K = K') (h : K'.lookup a = some o) : K.lookup a = some o := hK ▸ h
theorem nsIn_of {K K' : Frag} {x : Str} {r : Option (Option Value)} (hK : K = K') (h : nsIn K' mainGlobals x = r) : nsIn K mainGlobals x = r := hK ▸ h
/-! ### texts as lists of signs -/
noncomputable def S (l : List Nat) : Str := ⟨l.toArray⟩
noncomputable def lit (x : Str) : List Nat := x.cps.toList
theorem S_lit (x : Str) : S (lit x) = x := by unfold S lit; simp
theorem S_len (l : List Nat) : (S l).length = l.length := by show l.toArray.size = _; simp
theorem S_cat (a b : List Nat) : S a ++ S b = S (a ++ b) := by
  show (⟨(S a).cps ++ (S b).cps⟩ : Str) = S (a ++ b)
  simp [S]
theorem S_inj {a b : List Nat} : S a = S b ↔ a = b := by
  constructor
  · intro h; have := congrArg (fun x : Str => x.cps.toList) h; simpa [S] using this
  · intro h; rw [h]

theorem SE_strS {x : Str} {k : Nat} {pos : Pos} {Q : V → Own → Prop} (h : Q (.str (S (lit x))) own) : SE W A env (.Constant (.str x) k pos) own Q := SE_str (by rw [S_lit] at h; exact h)
theorem SE_strL {x : Str} {l : List Nat} {k : Nat} {pos : Pos} {Q : V → Own → Prop} (hx : lit x = l) (h : Q (.str (S l)) own) : SE W A env (.Constant (.str x) k pos) own Q := SE_strS (by rw [hx]; exact h)
theorem op_catS {a b : List Nat} {Q : V → Own → Prop} (hz : a.length + b.length ≤ sizeLine) (h : Q (.str (S (a ++ b))) own) : S2 W A RV (binaryOp .Add) (.str (S a)) (.str (S b)) own Q := op_cat (by rw [S_len, S_len]; exact hz) (by rw [S_cat]; exact h)
theorem cmp_eqSS {a b : List Nat} {Q : V → Own → Prop} (h : Q (.bool (decide (a = b))) own) : S2 W A RV (compareOp .Eq) (.str (S a)) (.str (S b)) own Q := cmp_eqS (by
  have : decide (S a = S b) = decide (a = b) := by simp only [S_inj]
  rw [this]; exact h)
theorem cmp_neSS {a b : List Nat} {Q : V → Own → Prop} (h : Q (.bool (decide (a ≠ b))) own) : S2 W A RV (compareOp .NotEq) (.str (S a)) (.str (S b)) own Q := cmp_neS (by
  have : decide (S a ≠ S b) = decide (a ≠ b) := by simp only [ne_eq, S_inj]
  rw [this]; exact h)
theorem tr_strS {a : List Nat} {Q : Bool → Own → Prop} (hx : a.length ≤ sizeLine) (h : Q (decide (a ≠ [])) own) : S1 W A RB truthy (.str (S a)) own Q := tr_str (by rw [S_len]; exact hx) (by
  have : decide ((S a).length ≠ 0) = decide (a ≠ []) := by rw [S_len]; cases a <;> simp
  rw [this]; exact h)
theorem call_lenS {a : List Nat} {Q : V → Own → Prop} (hz : a.length ≤ sizeLine) (h : Q (.int a.length) own) : SL W A RV (fun vs => call (.builtin "len") vs) [.str (S a)] own Q := call_len_str (by rw [S_len]; exact hz) (by rw [S_len]; exact h)
theorem call_chrS {i : Int} {Q : V → Own → Prop} (h0 : 0 ≤ i) (h1 : i < 1114112) (h : Q (.str (S [i.toNat])) own) : SL W A RV (fun vs => call (.builtin "chr") vs) [.int i] own Q := call_chr h0 h1 h
theorem sub_strS {o i : Expr} {a : List Nat} {k : Int} {c : Nat} {Q : V → Own → Prop} (hlo : -(a.length : Int) ≤ k) (hhi : k < (a.length : Int)) (hz : a.length ≤ sizeLine) (hx : a[place k a.length]? = some c) (h : Q (.str (S [c])) own)
    (hs : ∀ v u, subscripted i false v u = operate [v, u] (getItem v u) := by intro _ _; with_unfolding_all rfl) : S2 W A RV (subscriptTail o i) (.str (S a)) (.int k) own Q :=
  sub_str (by rw [S_len]; exact hlo) (by rw [S_len]; exact hhi) (by rw [S_len]; exact hz) (by rw [S_len]; show a.toArray[_]? = _; simpa using hx) h hs
theorem cutS_S (a : List Nat) (lo hi : Option Int) : cutS (S a) lo hi = S (cutL a lo hi) := by unfold cutS S; simp
theorem SE_SliceSS {value : Expr} {lower upper : Option Expr} {p pos : Pos} {Q : V → Own → Prop}
    (h : SE W A env value own fun a o1 => SPt W A env lower o1 fun lo o2 => SPt W A env upper o2 fun hi o3 => ∃ l, a = .str (S l) ∧ l.length ≤ sizeLine ∧ Q (.str (S (cutL l lo hi))) o3)
    (ht : ∀ o r, letTemporaryGo value o r = pure () := by intro _ _; rfl) : SE W A env (.Subscript value (.Slice lower upper none p) pos) own Q :=
  SE_SliceS (SG.mono h fun a o1 h1 => SG.mono h1 fun lo o2 h2 => SG.mono h2 fun hi o3 ⟨l, e, hz, q⟩ => ⟨S l, e, by rw [S_len]; exact hz, by rw [cutS_S]; exact q⟩) ht

/-! ### a list of one's own handed on as data -/
inductive Take (D : Addr) (ob : Ob) : Own → Own → Prop
  | here {l : Own} : Take D ob ((D, ob) :: l) l
  | there {p : Addr × Ob} {l l' : Own} : Take D ob l l' → Take D ob (p :: l) (p :: l')
theorem Take.perm {D : Addr} {ob : Ob} {l l' : Own} (t : Take D ob l l') : l.Perm ((D, ob) :: l') := by
  induction t with
  | here => exact .refl _
  | there _ ih => exact (ih.cons _).trans (.swap ..)
theorem Upd.mid {D : Addr} {ob ob' : Ob} {post : Own} : ∀ {pre : Own}, Upd D ob ob' (pre ++ (D, ob) :: post) (pre ++ (D, ob') :: post)
  | [] => .here
  | _ :: _ => .there Upd.mid
theorem mem_mid {p q : Addr × Ob} {pre post : Own} (h : p ∈ pre ++ post) : p ∈ pre ++ q :: post := by
  rcases List.mem_append.mp h with h | h
  · exact List.mem_append_left _ h
  · exact List.mem_append_right _ (List.mem_cons_of_mem _ h)
theorem mem_mid' {q : Addr × Ob} {pre post : Own} : q ∈ pre ++ q :: post := List.mem_append_right _ List.mem_cons_self
theorem ite_nt {P Q : Prop} (h : Q) : if (!true) = true then P else Q := by rw [if_neg (by decide)]; exact h
theorem ite_nf {P Q : Prop} (h : P) : if (!false) = true then P else Q := by rw [if_pos (by decide)]; exact h
theorem count_S (l : List Nat) (c : Nat) : Txt.count (S l) (S [c]) = (l.count c : Int) := by
  have h := PyProof.Rows.count_cnt (S l) c
  have e : (⟨#[c]⟩ : Str) = S [c] := rfl
  rw [e] at h
  rw [h]
  show cnt c l = _
  induction l with
  | nil => rw [cnt_nil]; rfl
  | cons d l ih =>
    rw [cnt_cons, ih (count_cnt (S l) c), List.count_cons]
    by_cases hd : d = c
    · subst hd; simp; (first | decide | exact Nat.le_trans (by assumption) (by decide) | lia | omega)
    · simp [hd]
theorem call_countS {l : List Nat} {c : Nat} {Q : V → Own → Prop} (h : Q (.int (l.count c)) own) : SL W A RV (fun vs => call (.builtin "str.count") vs) [.str (S l), .str (S [c])] own Q := call_count (by rw [count_S]; exact h)
theorem op_mulR {a b : Int} {Q : V → Own → Prop} (hm : Builtin.Int.intBits b ≤ 64) (h : Q (.int (a * b)) own) : S2 W A RV (binaryOp .Mult) (.int a) (.int b) own Q := op_mul (.of_right hm) h
end
section
variable {W : Wd} {A : Around} {env : Env} {own : Own}

theorem GensIs.more {gs : Array GenState} (x : GensIs own gs) : ∀ {nw : Own}, (∀ p ∈ nw, p.2.genOf = none) → GensIs (nw ++ own) gs
  | [], _ => x
  | p :: nw, h => (GensIs.more x fun q hq => h q (List.mem_cons_of_mem _ hq)).cons (a := p.1) (h p List.mem_cons_self)
theorem Hold.more {fz : Heap} {s : Shared} (H : Hold W fz own s) {h' : Heap} {k : Nat} (hk : Keep s.heap h') {nw : Own} (hn : ∀ p ∈ nw, s.heap.get? p.1 = none) (ho : ∀ p ∈ nw, ∃ o, h'.get? p.1 = some o ∧ ObIs fz p.2 o)
    (nd : (nw.map (·.1)).Nodup) (hg : ∀ p ∈ nw, p.2.genOf = none) : Hold W fz (nw ++ own) { s with heap := h', toks := k } where
  base := H.base
  has := H.has.trans hk
  obs := fun p hp => by
    rcases List.mem_append.mp hp with hp | hp
    · exact ho p hp
    · obtain ⟨o', e, r⟩ := H.obs p hp; exact ⟨o', hk _ _ e, r⟩
  out := fun p hp => by
    rcases List.mem_append.mp hp with hp | hp
    · cases e : fz.get? p.1 with
      | none => rfl
      | some o' => exact absurd (H.has _ _ e) (by rw [hn p hp]; exact fun x => nomatch x)
    · exact H.out p hp
  nd := by
    rw [List.map_append, List.nodup_append]
    refine ⟨nd, H.nd, fun a ha b hb e => ?_⟩
    subst e
    obtain ⟨p, hp, rfl⟩ := List.mem_map.mp ha
    obtain ⟨q, hq, e⟩ := List.mem_map.mp hb
    obtain ⟨o', e', _⟩ := H.obs q hq
    rw [e, hn p hp] at e'
    cases e'
  gens := GensIs.more H.gens hg
  os := H.os

/-! ### calls with defaults -/
theorem do_callD {f : Addr} {args : List V} {Q : V → Own → Prop} {name qual : Str} {params : Arguments} {body : List Stmt} {scope : Scope} {dV kV doc pm cdv ct oc : Value} {an od : Option Addr} {osl : Array (Option Value)}
    (names : List Str) (dfl : List Value) (dfv : List V) (hdf : ∀ fz, RVs fz dfv dfl)
    (ho : W.K.lookup f = some ⟨oc, od, .func (fnOf name qual params body scope dV kV doc pm an cdv ct), osl⟩) (hcd : codeIn W.K cdv qual = true) (hroom : A.depth < recursionLimit)
    (hb : ∀ s vs, W.K.In s.heap → vs.length = args.length → BindsTo s (fnOf name qual params body scope dV kV doc pm an cdv ct) ⟨vs, []⟩ (names.zip (vs ++ dfl)))
    (hloc : ∀ y ∈ names, scope.names.lookup y = some .local) (nd : names.Nodup)
    (h : ∀ L, SXs W (A.deeper (envX qual scope L f cdv [])) (envX qual scope L f cdv []) body ((L, .ns (names.zip (args ++ dfv))) :: own) (retTo Q))
    (hco : scope.isCoroutine = false) (hgen : scope.isGenerator = false) (hk : scope.kind = .function)
    (hcell : ∀ x ∈ scope.names, x.2 ≠ .cell) : SLC W A (.ref f) args own Q := fun fz s vs H ht rs => by
  have ndz : ((names.zip (vs ++ dfl)).map (·.1)).Nodup := nd.sublist zip_fst
  refine (codeAny_call_def (fd := fnOf name qual params body scope dV kV doc pm an cdv ct) (body := body) (binds := names.zip (vs ++ dfl)) hroom (H.kin _ _ ho) rfl (W.top.nolimit.keeps H.keep) (codeRec_of H.kin hcd) rfl
    (hb s vs H.kin rs.length.symm) hcell (fun x hx => hloc _ (List.of_mem_zip (show (x.1, x.2) ∈ names.zip (vs ++ dfl) from hx)).1) (fun h₁ hns hk₁ => ?_) hco hgen hk)
  obtain ⟨o, ho', hob⟩ := of_ns (fz := fz) (loc := names.zip (args ++ dfv)) hns (fun p hp => by
    obtain ⟨v, e, r⟩ := zip_lookup (rs.append (hdf fz)) nd p hp
    exact ⟨v, by rw [lookup_reverse ndz]; exact e, r⟩)
  have H₁ : Hold W fz ((s.heap.objs.size, .ns (names.zip (args ++ dfv))) :: own) { s with heap := h₁, toks := s.toks + (names.zip (vs ++ dfl)).length } := H.new hk₁ (get?_ge (Nat.le_refl _)) ho' hob
  refine wpAny_mono (h s.heap.objs.size fz _ H₁ (Nat.le_trans ht (Nat.le_add_right _ _))) (fun fl s' x => ?_) fun _ _ x => x.elim
  obtain ⟨fz', b, own', k, H', r, own'', wk, q⟩ := x
  refine ⟨fz', _, own'', k, wk.hold H', ?_, q⟩
  cases r with
  | next => exact .dat .none
  | brk => exact .dat .none
  | cont => exact .dat .none
  | ret r => exact r

/-! ### calls of a def whose names are captured -/
noncomputable def AllL (fz : Heap) (m : Str → Option Value) : List (Str × V) → Prop
  | [] => True
  | p :: r => (∃ v, m p.1 = some v ∧ RV fz p.2 v) ∧ AllL fz m r
theorem AllL.get {fz : Heap} {m : Str → Option Value} {l : List (Str × V)} (h : AllL fz m l) (p : Str × V) (hp : p ∈ l) : ∃ v, m p.1 = some v ∧ RV fz p.2 v := by
  induction l with
  | nil => cases hp
  | cons q r ih =>
    rcases List.mem_cons.mp hp with rfl | hp
    · exact h.1
    · exact ih h.2 hp
noncomputable def AllC (fz : Heap) (m : Str → Option Value) : List (Str × Nat × Option V) → Prop
  | [] => True
  | (x, _, none) :: r => m x = none ∧ AllC fz m r
  | (x, _, some a) :: r => (∃ v, m x = some v ∧ RV fz a v) ∧ AllC fz m r
theorem AllC.get {fz : Heap} {m : Str → Option Value} {l : List (Str × Nat × Option V)} (h : AllC fz m l) (p : Str × Nat × Option V) (hp : p ∈ l) : match p.2.2 with | none => m p.1 = none | some a => ∃ v, m p.1 = some v ∧ RV fz a v := by
  induction l with
  | nil => cases hp
  | cons q r ih =>
    obtain ⟨x, n, o⟩ := q
    cases o with
    | none =>
      rcases List.mem_cons.mp hp with rfl | hp
      · exact h.1
      · exact ih h.2 hp
    | some a =>
      rcases List.mem_cons.mp hp with rfl | hp
      · exact h.1
      · exact ih h.2 hp
theorem lookup_mem_nodup {α : Type} : ∀ {l : List (Str × α)}, (l.map (·.1)).Nodup → ∀ {n : Str} {c : α}, (n, c) ∈ l → l.lookup n = some c
  | (k, v) :: r, nd, n, c, h => by
    rw [List.map_cons, List.nodup_cons] at nd
    rw [List.lookup_cons]
    rcases List.mem_cons.mp h with e | h
    · cases e; simp
    · have : n ≠ k := fun e => nd.1 (List.mem_map.mpr ⟨_, h, e⟩)
      have : (n == k) = false := by simpa using this
      rw [this]; exact lookup_mem_nodup nd.2 h

noncomputable abbrev cellsOwn (L : Addr) (ce : List (Str × Nat × Option V)) : Own := ce.map fun p => (L + p.2.1, Ob.cell p.2.2)
theorem do_callE {f : Addr} {args : List V} {Q : V → Own → Prop} {name qual : Str} {params : Arguments} {body : List Stmt} {scope : Scope} {dV kV doc pm cdv ct oc : Value} {an od : Option Addr} {osl : Array (Option Value)}
    (names : List Str) (loc : List (Str × V)) (ce : List (Str × Nat × Option V))
    (ho : W.K.lookup f = some ⟨oc, od, .func (fnOf name qual params body scope dV kV doc pm an cdv ct), osl⟩) (hcd : codeIn W.K cdv qual = true) (hroom : A.depth < recursionLimit)
    (hb : ∀ s vs, W.K.In s.heap → vs.length = args.length → BindsTo s (fnOf name qual params body scope dV kV doc pm an cdv ct) ⟨vs, []⟩ (names.zip vs))
    (hcl : ∀ L, cellsFrom (L + 1) scope.names [] = ce.map fun p => (p.1, L + p.2.1)) (ndc : (ce.map (·.1)).Nodup)
    (hkind : ∀ y ∈ names, scope.names.lookup y = some .local ∨ (scope.names.lookup y = some .cell ∧ y ∈ ce.map (·.1)))
    (hbind : ∀ fz vs L, RVs fz args vs → AllL fz (bindL (envX qual scope L f cdv (ce.map fun p => (p.1, L + p.2.1))).kindOf (names.zip vs) fun _ => none) loc ∧ AllC fz (bindC (envX qual scope L f cdv (ce.map fun p => (p.1, L + p.2.1))).kindOf (names.zip vs) fun _ => none) ce)
    (h : ∀ L, SXs W (A.deeper (envX qual scope L f cdv (ce.map fun p => (p.1, L + p.2.1)))) (envX qual scope L f cdv (ce.map fun p => (p.1, L + p.2.1))) body ((L, .ns loc) :: (cellsOwn L ce ++ own)) (retTo Q))
    (hco : scope.isCoroutine = false) (hgen : scope.isGenerator = false) (hk : scope.kind = .function) : SLC W A (.ref f) args own Q := fun fz s vs H ht rs => by
  have hlk : ∀ L, ∀ y ∈ ce.map (·.1), (((ce.map fun p => (p.1, L + p.2.1)) : List (Str × Addr)).lookup y).isSome = true := fun L y hy => by
    obtain ⟨p, hp, rfl⟩ := List.mem_map.mp hy
    rw [lookup_mem_nodup (l := ce.map fun p => (p.1, L + p.2.1)) (by rw [List.map_map]; exact ndc) (List.mem_map.mpr ⟨p, hp, rfl⟩)]; rfl
  refine codeAny_call_function hroom (H.kin _ _ ho) rfl hco hgen rfl (codeRec_of H.kin hcd) (hb s vs H.kin rs.length.symm _ _ _ _ ?_)
  have base := wpAny_newFunctionEnv_cells (M := model W.prog W.w) (A := A.in1) (E := fun e s' => False) (s := s) (scope := scope) (globals := mainGlobals) (binds := names.zip vs) (qual := qual ++ ".<locals>.") (func := some f) (code := cdv) (builtins := builtinsNs)
    (Q := fun env s' => env = newEnv scope s.heap.objs.size mainGlobals (cellsFrom (s.heap.objs.size + 1) scope.names []) (qual ++ ".<locals>.") (some f) cdv none builtinsNs ∧
      InCallC s env.locals (bindL env.kindOf (names.zip vs) fun _ => none) env.cells (bindC env.kindOf (names.zip vs) fun _ => none) s') hk (fun x hx => by
      rcases hkind _ (List.of_mem_zip (show (x.1, x.2) ∈ names.zip vs from hx)).1 with e | ⟨e, m⟩
      · exact .inl e
      · refine .inr ⟨e, ?_⟩
        rw [hcl]; exact hlk _ _ m) (fun env he s' x => ⟨he, x⟩)
  refine wpAny_mono (wpAny_toks_of ht base) (fun env' s' x => ?_) fun _ _ e => e.2.elim
  obtain ⟨t1, he, x⟩ := x
  have he' : env' = envX qual scope s.heap.objs.size f cdv (ce.map fun p => (p.1, s.heap.objs.size + p.2.1)) := by rw [he, hcl]; rfl
  subst he'
  clear he
  refine ⟨(W.top.nolimit.keeps H.keep).keeps x.toInCall.keep, codeAny_func ?_⟩
  have hk₁ := x.toInCall.keep
  obtain ⟨hL, hC⟩ := hbind fz vs s.heap.objs.size rs
  obtain ⟨o, ho', hob⟩ := of_ns (fz := fz) (loc := loc) x.toInCall.ns hL.get
  have hcells : ∀ p ∈ ce, ((ce.map fun p => (p.1, s.heap.objs.size + p.2.1)) : List (Str × Addr)).lookup p.1 = some (s.heap.objs.size + p.2.1) := fun p hp =>
    lookup_mem_nodup (l := ce.map fun p => (p.1, s.heap.objs.size + p.2.1)) (by rw [List.map_map]; exact ndc) (List.mem_map.mpr ⟨p, hp, rfl⟩)
  have habove : ∀ p ∈ ce, s.heap.objs.size < s.heap.objs.size + p.2.1 := fun p hp => x.above _ _ (List.mem_map.mpr ⟨p, hp, rfl⟩)
  obtain ⟨h₁, tk, rfl⟩ := x.toInCall.same
  have H₁ : Hold W fz ((s.heap.objs.size, .ns loc) :: cellsOwn s.heap.objs.size ce ++ own) { s with heap := h₁, toks := tk } := by
    refine H.more hk₁ (fun p hp => ?_) (fun p hp => ?_) ?_ (fun p hp => by rcases List.mem_cons.mp hp with rfl | hp; rfl; obtain ⟨q, _, rfl⟩ := List.mem_map.mp hp; rfl)
    · rcases List.mem_cons.mp hp with rfl | hp
      · exact get?_ge (Nat.le_refl _)
      · obtain ⟨q, hq, rfl⟩ := List.mem_map.mp hp
        exact get?_ge (Nat.le_of_lt (habove q hq))
    · rcases List.mem_cons.mp hp with rfl | hp
      · exact ⟨o, ho', hob⟩
      · obtain ⟨q, hq, rfl⟩ := List.mem_map.mp hp
        obtain ⟨oc', e, d⟩ := x.cell _ _ (hcells q hq)
        have g := hC.get q hq
        obtain ⟨qx, qn, qo⟩ := q
        cases qo with
        | none => exact ⟨oc', e, by dsimp only at g d; rw [g] at d; exact d⟩
        | some a =>
          obtain ⟨v, e2, r⟩ := g
          exact ⟨oc', e, v, by dsimp only at e2 d; rw [e2] at d; exact d, r⟩
    · rw [List.map_cons, List.nodup_cons]
      refine ⟨fun hm => ?_, ?_⟩
      · obtain ⟨q, hq, e⟩ := List.mem_map.mp hm
        obtain ⟨q', hq', rfl⟩ := List.mem_map.mp hq
        exact absurd (habove q' hq') (by rw [show s.heap.objs.size + q'.2.1 = s.heap.objs.size from e]; exact Nat.lt_irrefl _)
      · have ap := x.apart
        rw [List.pairwise_map] at ap
        rw [List.map_map, List.Nodup, List.pairwise_map]
        exact ap
  refine wpAny_mono (h s.heap.objs.size fz _ H₁ t1) (fun fl s' x => ?_) fun _ _ x => x.elim
  obtain ⟨fz', b, own', k, H', r, own'', wk, q⟩ := x
  refine ⟨fz', _, own'', k, wk.hold H', ?_, q⟩
  cases r with
  | next => exact .dat .none
  | brk => exact .dat .none
  | cont => exact .dat .none
  | ret r => exact r

/-! ### two clauses -/
end
section
variable {W : Wd} {A : Around} {env : Env} {own : Own}

/-! ### equal data -/
noncomputable def Ok (n : Nat) (d : PyData) : Prop := d.canLay0 = true ∧ d.depth ≤ n
theorem Ok.mono {n m : Nat} {d : PyData} (h : Ok n d) (k : n ≤ m) : Ok m d := ⟨h.1, Nat.le_trans h.2 k⟩
theorem ok_none {n : Nat} : Ok (n + 1) .none := ⟨rfl, by simp [PyData.depth]⟩
theorem ok_int {n : Nat} {i : Int} : Ok (n + 1) (.int i) := ⟨rfl, by simp [PyData.depth]⟩
theorem ok_bool {n : Nat} {b : Bool} : Ok (n + 1) (.bool b) := ⟨rfl, by simp [PyData.depth]⟩
theorem ok_str {n : Nat} {l : List Nat} (h : ∀ c ∈ l, c < 1114112) : Ok (n + 1) (.str (S l)) := by
  refine ⟨?_, by simp [PyData.depth]⟩
  show PyData.strOk (S l) = true
  unfold PyData.strOk S
  simp only [List.all_toArray, List.all_eq_true]
  intro c hc; simpa using h c hc
theorem okAll {n : Nat} : ∀ {l : List PyData}, (∀ d ∈ l, Ok n d) → PyData.canLayAll0 l = true ∧ PyData.depthAll l ≤ n
  | [], _ => ⟨rfl, by simp [PyData.depthAll]⟩
  | d :: l, h => by
    obtain ⟨h1, h2⟩ := okAll (l := l) fun e he => h e (List.mem_cons_of_mem _ he)
    obtain ⟨k1, k2⟩ := h d List.mem_cons_self
    refine ⟨by simp [PyData.canLayAll0, h1, k1], ?_⟩
    simp only [PyData.depthAll]; (first | decide | exact Nat.le_trans (by assumption) (by decide) | lia | omega)
theorem ok_list {n : Nat} {l : List PyData} (h : ∀ d ∈ l, Ok n d) : Ok (n + 1) (.list l) := by
  obtain ⟨h1, h2⟩ := okAll h
  exact ⟨by simpa [PyData.canLay0] using h1, by simp only [PyData.depth]; (first | decide | exact Nat.le_trans (by assumption) (by decide) | lia | omega)⟩
theorem ok_tuple {n : Nat} {l : List PyData} (h : ∀ d ∈ l, Ok n d) : Ok (n + 1) (.tuple l) := by
  obtain ⟨h1, h2⟩ := okAll h
  exact ⟨by simpa [PyData.canLay0] using h1, by simp only [PyData.depth]; (first | decide | exact Nat.le_trans (by assumption) (by decide) | lia | omega)⟩

theorem cmp_neR {a b : PyData} {Q : V → Own → Prop} (e : a = b) (ok : Ok 60 a) (hu : A.units + 60 < cLine) (h : Q (.bool false) own) : S2 W A RV (compareOp .NotEq) (.dat a) (.dat b) own Q := fun fz s v u H _ r1 r2 => by
  subst e
  cases r1 with | dat r1 => cases r2 with | dat r2 =>
  refine SeqAt.compareNe_reads (Reads.keeps H.has r1) (Reads.keeps H.has r2) ok.1 ok.1 (by have := ok.2; (first | decide | exact Nat.le_trans (by assumption) (by decide) | lia | omega)) ?_
  rw [SeqAt.eqv_refl a ok.1]
  exact at_tok H _ (.dat (.bool _)) h

/-! ### a list of one's own becomes data where it is named -/
inductive VF (D : Addr) (d : PyData) : V → V → Prop
  | at_ : VF D d (.ref D) (.dat d)
  | same {v : V} : VF D d v v
inductive NF (D : Addr) (d : PyData) : List (Str × V) → List (Str × V) → Prop
  | nil : NF D d [] []
  | cons {x : Str} {v v' : V} {l l' : List (Str × V)} : VF D d v v' → NF D d l l' → NF D d ((x, v) :: l) ((x, v') :: l')
inductive LF (D : Addr) (d : PyData) : List V → List V → Prop
  | nil : LF D d [] []
  | cons {v v' : V} {l l' : List V} : VF D d v v' → LF D d l l' → LF D d (v :: l) (v' :: l')
  | refl {l : List V} : LF D d l l
inductive OF (D : Addr) (d : PyData) : Own → Own → Prop
  | refl {l : Own} : OF D d l l
  | ns {a : Addr} {loc loc' : List (Str × V)} {l l' : Own} : NF D d loc loc' → OF D d l l' → OF D d ((a, .ns loc) :: l) ((a, .ns loc') :: l')
  | cell {a : Addr} {v v' : V} {l l' : Own} : VF D d v v' → OF D d l l' → OF D d ((a, .cell (some v)) :: l) ((a, .cell (some v')) :: l')
  | list {a : Addr} {loc loc' : List V} {l l' : Own} : LF D d loc loc' → OF D d l l' → OF D d ((a, .list loc) :: l) ((a, .list loc') :: l')
  | same {p : Addr × Ob} {l l' : Own} : OF D d l l' → OF D d (p :: l) (p :: l')
theorem VF.rv {D : Addr} {d : PyData} {fz : Heap} (hD : RV fz (.dat d) (.ref D)) {a a' : V} (x : VF D d a a') {v : Value} (r : RV fz a v) : RV fz a' v := by
  cases x with
  | at_ => rw [r.val_inv]; exact hD
  | same => exact r
theorem LF.rv {D : Addr} {d : PyData} {fz : Heap} (hD : RV fz (.dat d) (.ref D)) {l l' : List V} (x : LF D d l l') : ∀ {vs : List Value}, RVs fz l vs → RVs fz l' vs := by
  induction x with
  | nil => intro vs r; exact r
  | refl => intro vs r; exact r
  | cons h _ ih => intro vs r; cases r with | cons r1 r2 => exact .cons (h.rv hD r1) (ih r2)
theorem NF.is {D : Addr} {d : PyData} {fz : Heap} (hD : RV fz (.dat d) (.ref D)) {l l' : List (Str × V)} (x : NF D d l l') {es : Array DictEntry} (h : ∀ p ∈ l, ∃ v, nsFind es p.1 = some v ∧ RV fz p.2 v) :
    ∀ p ∈ l', ∃ v, nsFind es p.1 = some v ∧ RV fz p.2 v := by
  induction x with
  | nil => exact h
  | cons hv _ ih =>
    intro p hp
    rcases List.mem_cons.mp hp with rfl | hp
    · obtain ⟨v, e, r⟩ := h _ List.mem_cons_self; exact ⟨v, e, hv.rv hD r⟩
    · exact ih (fun q hq => h q (List.mem_cons_of_mem _ hq)) p hp
theorem OF.is {D : Addr} {d : PyData} {fz : Heap} (hD : RV fz (.dat d) (.ref D)) {l l' : Own} (x : OF D d l l') : (l'.map (·.1) = l.map (·.1)) ∧ ∀ p' ∈ l', ∃ p ∈ l, p.1 = p'.1 ∧ ∀ o, ObIs fz p.2 o → ObIs fz p'.2 o := by
  induction x with
  | refl => exact ⟨rfl, fun p hp => ⟨p, hp, rfl, fun _ h => h⟩⟩
  | ns h _ ih =>
    refine ⟨by simp [ih.1], fun p hp => ?_⟩
    rcases List.mem_cons.mp hp with rfl | hp
    · exact ⟨_, List.mem_cons_self, rfl, fun o ⟨es, ep, h1, h2, h3⟩ => ⟨es, ep, h1, h2, h.is hD h3⟩⟩
    · obtain ⟨q, hq, r⟩ := ih.2 p hp; exact ⟨q, List.mem_cons_of_mem _ hq, r⟩
  | cell h _ ih =>
    refine ⟨by simp [ih.1], fun p hp => ?_⟩
    rcases List.mem_cons.mp hp with rfl | hp
    · exact ⟨_, List.mem_cons_self, rfl, fun o ⟨v, e, r⟩ => ⟨v, e, h.rv hD r⟩⟩
    · obtain ⟨q, hq, r⟩ := ih.2 p hp; exact ⟨q, List.mem_cons_of_mem _ hq, r⟩
  | list h _ ih =>
    refine ⟨by simp [ih.1], fun p hp => ?_⟩
    rcases List.mem_cons.mp hp with rfl | hp
    · exact ⟨_, List.mem_cons_self, rfl, fun o ⟨vs, n, e, r⟩ => ⟨vs, n, e, h.rv hD r⟩⟩
    · obtain ⟨q, hq, r⟩ := ih.2 p hp; exact ⟨q, List.mem_cons_of_mem _ hq, r⟩
  | same _ ih =>
    refine ⟨by simp [ih.1], fun p hp => ?_⟩
    rcases List.mem_cons.mp hp with rfl | hp
    · exact ⟨_, List.mem_cons_self, rfl, fun _ h => h⟩
    · obtain ⟨q, hq, r⟩ := ih.2 p hp; exact ⟨q, List.mem_cons_of_mem _ hq, r⟩
theorem OF.gens {D : Addr} {d : PyData} {l l' : Own} (x : OF D d l l') {gs : Array GenState} (G : GensIs l gs) : GensIs l' gs := by
  have key : (l'.filterMap fun p => p.2.genOf) = (l.filterMap fun p => p.2.genOf) ∧ ∀ p ∈ l', ∀ g P, p.2 = .gen g P → p ∈ l := by
    clear G
    induction x with
    | refl => exact ⟨rfl, fun p hp _ _ _ => hp⟩
    | ns _ _ ih =>
      refine ⟨by simpa [List.filterMap_cons, Ob.genOf] using ih.1, fun p hp g P e => ?_⟩
      rcases List.mem_cons.mp hp with rfl | hp
      · cases e
      · exact List.mem_cons_of_mem _ (ih.2 p hp g P e)
    | cell _ _ ih =>
      refine ⟨by simpa [List.filterMap_cons, Ob.genOf] using ih.1, fun p hp g P e => ?_⟩
      rcases List.mem_cons.mp hp with rfl | hp
      · cases e
      · exact List.mem_cons_of_mem _ (ih.2 p hp g P e)
    | list _ _ ih =>
      refine ⟨by simpa [List.filterMap_cons, Ob.genOf] using ih.1, fun p hp g P e => ?_⟩
      rcases List.mem_cons.mp hp with rfl | hp
      · cases e
      · exact List.mem_cons_of_mem _ (ih.2 p hp g P e)
    | same _ ih =>
      refine ⟨by rw [List.filterMap_cons, List.filterMap_cons, ih.1], fun p hp g P e => ?_⟩
      rcases List.mem_cons.mp hp with rfl | hp
      · exact List.mem_cons_self
      · exact List.mem_cons_of_mem _ (ih.2 p hp g P e)
  exact ⟨G.bare, fun p hp g P e => G.st p (key.2 p hp g P e) g P e, by rw [key.1]; exact G.nd⟩
theorem SG_frz {α β : Type} {R : Heap → β → α → Prop} {t : Sem α} {own₁ own' : Own} {Q : β → Own → Prop} {D : Addr} {ys : List V} {ds : List PyData} (tk : Take D (.list ys) own own₁) (ad : AllDat ys ds) (x : OF D (.list ds) own₁ own')
    (h : SG W A R t own' Q) : SG W A R t own Q := fun fz s H ht => by
  obtain ⟨fz', k, H', r⟩ := (H.perm tk.perm).freezeList ad
  obtain ⟨k1, k2⟩ := x.is r
  refine (h fz' s ⟨H'.base, H'.has, fun p hp => ?_, fun p hp => ?_, by rw [k1]; exact H'.nd, x.gens H'.gens, H'.os⟩ ht).weak k
  · obtain ⟨q, hq, e, f⟩ := k2 p hp
    obtain ⟨o, ho, i⟩ := H'.obs q hq
    exact ⟨o, e ▸ ho, f o i⟩
  · obtain ⟨q, hq, e, f⟩ := k2 p hp
    exact e ▸ H'.out q hq

theorem deeper_gen {body : List Stmt} {e : Env} {Q : Fl → Own → Prop} (hh : A.handled = none) (h : ∀ A' : Around, A'.handled = none → A'.depth = A.depth + 1 → A'.units = A.units + 3 → SXs W A' env body own Q) : SXs W (A.deeper e) env body own Q :=
  h _ hh rfl rfl
end
section
variable {W : Wd} {A : Around} {env : Env} {own : Own}

/-! ### small calls -/
theorem strs_of {fz : Heap} : ∀ {ls : List (List Nat)} {vs : List Value}, RVs fz ((ls.map fun l => PyData.str (S l)).map V.dat) vs → StrsAre vs (ls.map S)
  | [], _, r => by cases r; exact .nil
  | n :: ns, _, r => by
    cases r with
    | cons h t => obtain ⟨t', rfl⟩ := RV.str_inv h; exact .cons _ _ (strs_of t)
/-! ### texts made of texts -/
theorem call_join {ls : List (List Nat)} {Q : V → Own → Prop} (hz : (ls.flatten).length ≤ 1000000) (h : Q (.str (S ls.flatten)) own) :
    SL W A RV (fun vs => call (.builtin "str.join") vs) [.str (S []), .lst (ls.map fun l => .str (S l))] own Q := SL2 fun fz s v u H ht r1 r2 => by
  obtain ⟨t, rfl⟩ := r1.str_inv
  obtain ⟨x, vs, rfl, hl, rs⟩ := r2.lst_inv
  have hsum : ∀ ls : List (List Nat), ((ls.map S).map (·.length)).sum = ls.flatten.length := by
    intro ls
    induction ls with
    | nil => rfl
    | cons a r ih => simp only [List.map_cons, List.sum_cons, ih, S_len, List.flatten_cons, List.length_append]
  have hj : ∀ ls : List (List Nat), Txt.join (S []) (ls.map S) = S ls.flatten := by
    intro ls
    have key : ∀ ls : List (List Nat), Str.join (S []) (ls.map S) = S ls.flatten := by
      intro ls
      induction ls with
      | nil => rfl
      | cons a r ih =>
        cases r with
        | nil => simp [Str.join]
        | cons b r =>
          have e : Str.join (S []) ((a :: b :: r).map S) = S a ++ S [] ++ Str.join (S []) ((b :: r).map S) := rfl
          rw [e, ih, S_cat, S_cat]; simp
    have := key ls
    exact (eq_of_beq (join_plain_closes _ _)).trans this
  refine join_list (IsList_keep hl H.has) (strs_of rs) ?_ fun t' k => ?_
  · rw [hsum, S_len]; simp only [List.length_nil, Nat.mul_zero]; (first | decide | exact Nat.le_trans (by assumption) (by decide) | lia | omega)
  · rw [hj]; exact at_tok H _ (.dat (.str _ _)) h

/-! ### lists that grow -/
theorem look_iadd : typeLookup (.type "list") (dunderI "add") = pure (some (.builtin "list.__iadd__")) := PySem.F.slot_list_iadd.lookup
theorem fills_iadd : fillsInplaceSlot (.type "list") "add" (Operator.Add == .Add) = pure false := by
  unfold fillsInplaceSlot
  show (typeLookup (.type "list") (dunderI "add") >>= fun fi => pure (fi.isSome && !isSeqSlot fi)) = pure false
  rw [look_iadd]
  have e : isSeqSlot (some (.builtin "list.__iadd__")) = true := by decide +kernel
  simp [e]
theorem seq_iadd : seqSlot? (.type "list") (dunderI "add") = pure (some (.builtin "list.__iadd__")) := PySem.seqSlot_of look_iadd (by decide +kernel)
theorem mapSeq_app' {vs ws : List Value} {n : Nat} : (Obj.mapSeq (fun x => x ++ ws.toArray) (listObj vs n)) = listObj (vs ++ ws) (if (vs.toArray ++ ws.toArray).size == vs.toArray.size then n else n + 1) := by
  have := mapSeq_app vs.toArray ws.toArray n none #[]
  unfold listObj
  rw [this]
  simp
theorem op_iaddO {D E : Addr} {a b : List V} {own' : Own} {Q : V → Own → Prop} (hE : (E, Ob.list b) ∈ own) (u : Upd D (.list a) (.list (a ++ b)) own own') (hz : a.length + b.length ≤ sizeLine) (h : Q (.ref D) own') : S2 W A RV (inplaceOp .Add) (.ref D) (.ref E) own Q := fun fz s v u' H ht r1 r2 => by
  cases r1.val_inv
  cases r2.val_inv
  obtain ⟨ob, ho, vs, n, rfl, rs⟩ := H.get u.mem
  obtain ⟨ob2, ho2, ws, n2, rfl, rt⟩ := H.get hE
  have h1 := rs.length
  have h2 := rt.length
  have hD : s.TypeIs (.ref D) "list" := ⟨_, ho, rfl⟩
  have hE' : s.TypeIs (.ref E) "list" := ⟨_, ho2, rfl⟩
  unfold inplaceOp
  refine wpAny_holding ?_
  refine wpAny_bind (wpAny_typeOf hD (wpAny_bind (wpAny_of_eq fills_iadd ?_)))
  show wpAny _ A (if false = true then _ else _) _ _ s
  rw [if_neg Bool.false_ne_true]
  refine wpAny_bind (PyProof.Rows.binaryOp1_none (nm := "add") hD hE' noFill_list_add ?_)
  refine wpAny_bind (wpAny_of_eq seq_iadd ?_)
  refine wpAny_bind (wpAny_rule ?_)
  have hsz : vs.toArray.size + ws.toArray.size ≤ sizeLine := by simp only [List.size_toArray]; (first | decide | exact Nat.le_trans (by assumption) (by decide) | lia | omega)
  refine call_meets PySem.F.slot_list_iadd hD PySem.F.entry_list_iadd (PySem.F.args_list_iadd_2 _ _) (AutoSeq1.list___iadd___list_list_0 D vs.toArray n E ws.toArray n2 (extend_door hsz) (Nat.le_trans (Nat.le_add_right _ _) hsz) (Nat.le_succ_of_le hsz)) ⟨ho, ho2, ?_⟩
  have ho' : (s.heap.update D (Obj.mapSeq fun x => x ++ ws.toArray)).get? D = some (listObj (vs ++ ws) (if (vs.toArray ++ ws.toArray).size == vs.toArray.size then n else n + 1)) := by
    rw [Heap.get?_update_self _ ho (by rw [mapSeq_app']; rfl), mapSeq_app']
  exact ⟨fz, _, own', .refl _, H.set (k := s.toks) u (Heap.SameBut.update ..) ho' ⟨vs ++ ws, _, rfl, rs.append rt⟩, .val _, h⟩

/-! ### replaced signs -/
/-! ### the end struck off -/
end
section
variable {W : Wd} {A : Around} {env : Env} {own : Own}

/-! ### formats -/
end
section
variable {W : Wd} {A : Around} {env : Env} {own : Own}

/-! ### raised and caught in one frame -/
theorem off_of {fz : Heap} {s : Shared} (H : Hold W fz own s) {a : Addr} (h : s.heap.get? a = none) : fz.get? a = none ∧ ∀ p ∈ own, p.1 ≠ a := by
  refine ⟨?_, fun p hp e => ?_⟩
  · cases e : fz.get? a with
    | none => rfl
    | some o => have := H.has _ _ e; rw [h] at this; cases this
  · obtain ⟨o, ho, _⟩ := H.obs p hp; rw [e, h] at ho; cases ho

/-! ### calls whose parameters have drawn tokens -/
/-! ### texts with fields -/
end
section
variable {W : Wd} {A : Around} {env : Env} {own : Own}
/-! ### a block in two parts -/
theorem execs_append (env : Env) : ∀ l1 l2 : List Stmt, execs (l1 ++ l2) env = (execs l1 env >>= fun f => match f with | .next => execs l2 env | f => pure f)
  | [], l2 => by
    have e : execs [] env = pure .next := by unfold execs; rfl
    rw [e, pure_bind]; rfl
  | s :: l1, l2 => by
    have e : ∀ r : List Stmt, execs (s :: r) env = (exec s env >>= fun f => match f with | .next => execs r env | f => pure f) := fun r => by rw [execs]; congr 1
    rw [List.cons_append, e, e, bind_assoc]
    congr 1
    funext f
    cases f <;> first | exact execs_append env l1 l2 | (simp only [pure_bind])
theorem SXs_append {l1 l2 : List Stmt} {Q : Fl → Own → Prop} (h : SXs W A env l1 own (onNext (fun o1 => SXs W A env l2 o1 Q) Q)) : SXs W A env (l1 ++ l2) own Q := fun fz s H ht => by
  unfold At
  rw [execs_append]
  refine wpAny_bind (wp_then (h fz s H ht) ht fun fz1 va a o1 s1 k1 H1 t1 r1 q1 => ?_)
  cases r1 with
  | next => exact At.weak (q1 fz1 s1 H1 t1) k1
  | brk => exact wpAny_pure ⟨fz1, _, o1, k1, H1, .brk, q1⟩
  | cont => exact wpAny_pure ⟨fz1, _, o1, k1, H1, .cont, q1⟩
  | ret r => exact wpAny_pure ⟨fz1, _, o1, k1, H1, .ret r, q1⟩
theorem SXs_splitAt (n : Nat) {l : List Stmt} {Q : Fl → Own → Prop} (h : SXs W A env (l.take n) own (onNext (fun o1 => SXs W A env (l.drop n) o1 Q) Q)) : SXs W A env l own Q := by
  have := SXs_append h
  rwa [List.take_append_drop] at this
end
section
variable {W : Wd} {A : Around} {env : Env} {own : Own}
/-! ### a def within a def -/
theorem Upd.self {a : Addr} {ob : Ob} : ∀ {l : Own}, (a, ob) ∈ l → Upd a ob ob l l
  | p :: l, h => by
    by_cases e : p = (a, ob)
    · subst e; exact .here
    · exact .there (Upd.self (by rcases List.mem_cons.mp h with h | h; exact absurd h.symm e; exact h))
end
section
variable {W : Wd} {A : Around} {env : Env} {own : Own}
/-! ### tabs to blanks -/
end
section
variable {W : Wd} {A : Around} {env : Env} {own : Own}
/-! ### a sign in a text, a text's end struck off, a text repeated, a list copied -/
/-! ### short forms for the macros -/
end
section
/-! ### a generator's code up to its next yield -/
section
variable {M : Model} {A : Around} {Φ : End → Shared → Prop} {c : Code} {fs : List Frame} {s : Shared}
/-- run on, it comes to an end as told: a yield or a return -/
noncomputable def Sg (M : Model) (A : Around) (Φ : End → Shared → Prop) (c : Code) (t : Sem Fin) (fs : List Frame) (s : Shared) : Prop :=
  ∀ Γ p, Γ.code = c → Γ.Woken A → ∃ e s', Runs M Γ p t fs s e s' ∧ Φ e s'
theorem sg_wrap {α : Type} {m : Sem α} {K : α → Sem Fin} {H : Value → Sem Fin} {gd : Bool → Bool} {lv : List Value → List Value}
    (h : wpAny M (A.over c fs) m (fun a s' => Sg M A Φ c (K a) fs s') (fun x s' => Sg M A Φ c (H x) fs s') s) : Sg M A Φ c (m.wrap K H gd lv) fs s := by
  rintro Γ p rfl hΓ
  exact runs_wrap_of_wp K H gd lv m (h (Γ.over fs) p (hΓ.over fs)) (fun a p' s' h' => h' Γ p' rfl hΓ) (fun x p' s' h' => h' Γ p' rfl hΓ)
theorem sg_at {p' : Pos} {k : Unit → Sem Fin} (h : Sg M A Φ c (k ()) fs s) : Sg M A Φ c (.at p' k) fs s :=
  sg_wrap (m := standAt p') (K := k) (H := .raise) (gd := id) (lv := id) (wpAny_standAt h)
theorem sg_point {l : List Value} {k : Unit → Sem Fin} (h : Sg M A Φ c (k ()) fs s) : Sg M A Φ c (.point l k) fs s :=
  sg_wrap (m := point) (K := k) (H := .raise) (gd := id) (lv := fun _ => l) (wpAny_point h)
theorem sg_call {c' : Code} {h : Option Value} {g : Bool} {l : List Value} {k : Result → Sem Fin} (hc : ∀ p, Sg M A Φ c' (M.den c') (.ret k h g l c p [] :: fs) s) : Sg M A Φ c (.call c' h g l k) fs s := by
  rintro Γ p rfl hΓ
  obtain ⟨e, s', hr, he⟩ := hc p (Γ.goto c') p rfl (hΓ.goto c')
  exact ⟨e, s', runs_call_seg hr, he⟩
theorem sg_leaf {k : Result → Sem Fin} {h : Option Value} {g : Bool} {l : List Value} {c₁ : Code} {p₁ : Pos} {kp : List Value} (r : Result) (hk : Sg M A Φ c₁ (k r) fs s) : Sg M A Φ c (leafOf r) (.ret k h g l c₁ p₁ kp :: fs) s := by
  rintro Γ p rfl hΓ
  obtain ⟨e, s', hr, he⟩ := hk (Γ.goto c₁) p₁ rfl (hΓ.goto c₁)
  exact ⟨e, s', Runs.pop r hr, he⟩
theorem sg_again {c' : Code} (hq : c'.quiet = true) (hc : Sg M A Φ c' (M.den c') fs s) : Sg M A Φ c (.pure (.again c')) fs s := by
  rintro Γ p rfl hΓ
  obtain ⟨e, s', hr, he⟩ := hc (Γ.goto c') p rfl (hΓ.goto c')
  exact ⟨e, s', Runs.head (c₁ := c') (fun _ _ x => .again hq x) hr, he⟩
theorem sg_end (r : Result) (h : Φ (.ret r) s) : Sg M A Φ c (leafOf r) [] s := by
  rintro Γ p rfl _
  exact ⟨.ret r, s, Runs.leaf r, h⟩
theorem sg_yield {v : Value} {g : Bool} {l : List Value} {k : Resume → Sem Fin} (hfs : splitAtGen fs = none) (h : ∀ p, Φ (.susp v g l k c p fs) s) : Sg M A Φ c (.yield v g l k) fs s := by
  rintro Γ p rfl _
  exact ⟨_, s, Runs.yield' fs hfs, h p⟩
end
variable {W : Wd} {A : Around} {env : Env} {own : Own} {Φ : End → Shared → Prop} {fz₀ : Heap} {c : Code} {fs : List Frame}
/-- the same, over the layer's states -/
noncomputable def Gk (W : Wd) (A : Around) (Φ : End → Shared → Prop) (fz₀ : Heap) (c : Code) (fs : List Frame) (t : Sem Fin) (own : Own) : Prop :=
  ∀ fz s, Keep fz₀ fz → Hold W fz own s → W.tk ≤ s.toks → Sg (model W.prog W.w) A Φ c t fs s
theorem Gk.perm {t : Sem Fin} {own' : Own} (k : own.Perm own') (h : Gk W A Φ fz₀ c fs t own') : Gk W A Φ fz₀ c fs t own := fun fz s k0 H ht => h fz s k0 (H.perm k) ht
theorem Gk.wk {t : Sem Fin} {own' : Own} (k : Wk own own') (h : Gk W A Φ fz₀ c fs t own') : Gk W A Φ fz₀ c fs t own := fun fz s k0 H ht => h fz s k0 (k.hold H) ht
section
variable {K : Flow → Sem Fin} {H : Value → Sem Fin} {gd : Bool → Bool} {lv : List Value → List Value}
noncomputable abbrev kNext (env : Env) (rest : List Stmt) (K : Flow → Sem Fin) (H : Value → Sem Fin) (gd : Bool → Bool) (lv : List Value → List Value) : Flow → Sem Fin := fun f => match f with
  | .next => (execs rest env).wrap K H gd lv
  | f => K f
theorem gk_nil (h : Gk W A Φ fz₀ c fs (K .next) own) : Gk W A Φ fz₀ c fs ((execs [] env).wrap K H gd lv) own := h
theorem gk_cons {st : Stmt} {rest : List Stmt} (h : Gk W A Φ fz₀ c fs ((exec st env).wrap (kNext env rest K H gd lv) H gd lv) own) : Gk W A Φ fz₀ c fs ((execs (st :: rest) env).wrap K H gd lv) own := fun fz s k0 Ho ht => by
  rw [execs_cons_wrap]
  exact h fz s k0 Ho ht
/-- a statement that yields nothing -/
theorem gk_plain {st : Stmt} (h : SX W (A.over c fs) env st own (fun fl o => fl = .next ∧ Gk W A Φ fz₀ c fs (K .next) o)) : Gk W A Φ fz₀ c fs ((exec st env).wrap K H gd lv) own := fun fz s k0 Ho ht => by
  refine sg_wrap (wpAny_mono (E := NoX) (wp_then (h fz s Ho ht) ht fun fz1 va a o1 s1 k1 H1 t1 r1 q1 => ?_) (fun _ _ x => x) fun _ _ x => x.elim)
  obtain ⟨rfl, q⟩ := q1
  cases r1
  exact q fz1 s1 (k0.trans k1) H1 t1
theorem gk_cont {pos : Pos} (h : Gk W A Φ fz₀ c fs (K .cont) own) : Gk W A Φ fz₀ c fs ((exec (.Continue pos) env).wrap K H gd lv) own := fun fz s k0 Ho ht =>
  sg_at (h fz s k0 Ho ht)
theorem gk_if {test : Expr} {b o : List Stmt} {pos : Pos} (h : ST W (A.over c fs) env test own fun r o1 => if r then Gk W A Φ fz₀ c fs ((execs b env).wrap K H gd lv) o1 else Gk W A Φ fz₀ c fs ((execs o env).wrap K H gd lv) o1) :
    Gk W A Φ fz₀ c fs ((exec (.If test b o pos) env).wrap K H gd lv) own := fun fz s k0 Ho ht => by
  rw [exec_If]
  refine sg_at ?_
  show Sg _ _ _ _ (Sem.wrap K H gd lv (isTrue test env (eval test env) >>= _)) _ _
  rw [Sem.bind_eq_wrap', Sem.wrap_wrap]
  refine sg_wrap (wpAny_mono (E := NoX) (wp_then (h fz s Ho ht) ht fun fz1 va a o1 s1 k1 H1 t1 r1 q1 => ?_) (fun _ _ x => x) fun _ _ x => x.elim)
  subst r1
  cases va
  · exact q1 fz1 s1 (k0.trans k1) H1 t1
  · exact q1 fz1 s1 (k0.trans k1) H1 t1
/-- a yield: what stands behind it goes on as K tells -/
theorem gk_yield {e : Expr} {ypos pos : Pos} (hfs : splitAtGen fs = none) (h : SE W (A.over c fs) env e own fun a o1 => ∀ fz s v l k p, Keep fz₀ fz → Hold W fz o1 s → W.tk ≤ s.toks → RV fz a v → k (.send .none) = K .next → Φ (.susp v (gd false) l k c p fs) s)
    (hco : env.scope.isCoroutine = false := by rfl) (hi : interactive env = false := by rfl) : Gk W A Φ fz₀ c fs ((exec (.Expr (.Yield (some e) ypos) pos) env).wrap K H gd lv) own := fun fz s k0 Ho ht => by
  rw [exec_Expr env _ pos hi rfl]
  show Sg _ A Φ c (.at pos fun _ => ((eval e env >>= fun v => (standAt ypos >>= fun _ => yieldOut env v)) >>= fun x => dropValue (.Yield (some e) ypos) pos x).wrap K H gd lv) fs s
  have hy : ∀ v, yieldOut env v = yieldValue v := fun v => by simp only [yieldOut, hco, Bool.false_eq_true, if_false]
  simp only [hy]
  refine sg_at ?_
  rw [Sem.bind_eq_wrap', Sem.bind_eq_wrap', Sem.wrap_wrap, Sem.wrap_wrap]
  refine sg_wrap (wpAny_mono (E := NoX) (wp_then (h fz s Ho ht) ht fun fz1 va a o1 s1 k1 H1 t1 r1 q1 => ?_) (fun _ _ x => x) fun _ _ x => x.elim)
  refine sg_at (sg_yield hfs fun p => ?_)
  exact q1 fz1 s1 va _ _ p (k0.trans k1) H1 t1 r1 rfl
/-- what stands behind a loop's end -/
noncomputable abbrev kBack (env : Env) (K : Flow → Sem Fin) (H : Value → Sem Fin) (gd : Bool → Bool) (lv : List Value → List Value) : Result → Sem Fin := fun r =>
  ((match r with | .ok f => (.pure f : Sem Flow) | .error e => .raise e).onRaise fun (x : Value) => do
    if (← field x 1) == Value.none then unsupported "frame.own-activation:exception-without-traceback"
    setFlight x env.frame).wrap K H gd lv
theorem gk_while {test : Expr} {body : List Stmt} {pos : Pos} (h : ∀ p, Gk W A Φ fz₀ (.whileLoop test body [] env) (.ret (kBack env K H gd lv) none (gd false) (lv []) c p [] :: fs) ((model W.prog W.w).den (.whileLoop test body [] env)) own) :
    Gk W A Φ fz₀ c fs ((exec (.While test body [] pos) env).wrap K H gd lv) own := fun fz s k0 Ho ht => sg_at (sg_call fun p => h p fz s k0 Ho ht)
theorem gk_for {target iter : Expr} {body : List Stmt} {pos : Pos} (h : SE W (A.over c fs) env iter own fun a o1 => S1 W (A.over c fs) RV pyIter a o1 fun b o2 => ∃ it, b = .ref it ∧
      ∀ p, Gk W A Φ fz₀ (.forLoop target (.ref it) body [] env) (.ret (kBack env K H gd lv) none (gd false) (lv []) c p [] :: fs) ((model W.prog W.w).den (.forLoop target (.ref it) body [] env)) o2)
    (hs : ∀ x, foldedSetIterable iter env x = pure x := by intro _; rfl) : Gk W A Φ fz₀ c fs ((exec (.For target iter body [] pos) env).wrap K H gd lv) own := fun fz s k0 Ho ht => by
  rw [exec_For]
  refine sg_at ?_
  show Sg _ _ _ _ (Sem.wrap K H gd lv (eval iter env >>= _)) _ _
  rw [Sem.bind_eq_wrap', Sem.wrap_wrap]
  refine sg_wrap (wpAny_mono (E := NoX) (wp_then (h fz s Ho ht) ht fun fz1 va a o1 s1 k1 H1 t1 r1 q1 => ?_) (fun _ _ x => x) fun _ _ x => x.elim)
  show Sg _ _ _ _ (Sem.wrap K H gd lv (foldedSetIterable iter env va >>= _)) _ _
  rw [hs, pure_bind]
  refine sg_at ?_
  show Sg _ _ _ _ (Sem.wrap K H gd lv (holding [va] (pyIter va) >>= _)) _ _
  rw [Sem.bind_eq_wrap', Sem.wrap_wrap]
  refine sg_wrap (wpAny_holding (wpAny_mono (E := NoX) (wp_then (q1 fz1 s1 va H1 t1 r1) t1 fun fz2 vb b o2 s2 k2 H2 t2 r2 q2 => ?_) (fun _ _ x => x) fun _ _ x => x.elim))
  obtain ⟨it, rfl, q2⟩ := q2
  cases r2.val_inv
  exact sg_call fun p => q2 p fz2 s2 (k0.trans (k1.trans k2)) H2 t2
end
/-- a leaf into the frame below -/
theorem gk_leaf {k : Result → Sem Fin} {h : Option Value} {g : Bool} {l : List Value} {c₁ : Code} {p₁ : Pos} {kp : List Value} {f : Flow} (hk : Gk W A Φ fz₀ c₁ fs (k (.ok f)) own) : Gk W A Φ fz₀ c (.ret k h g l c₁ p₁ kp :: fs) (.pure (.done f)) own :=
  fun fz s k0 Ho ht => sg_leaf (.ok f) (hk fz s k0 Ho ht)
theorem gk_back {K : Flow → Sem Fin} {H : Value → Sem Fin} {gd : Bool → Bool} {lv : List Value → List Value} {f : Flow} (h : Gk W A Φ fz₀ c fs (K f) own) : Gk W A Φ fz₀ c fs (kBack env K H gd lv (.ok f)) own := h
theorem gk_again {c' : Code} (hq : c'.quiet = true) (h : Gk W A Φ fz₀ c' fs ((model W.prog W.w).den c') own) : Gk W A Φ fz₀ c fs (.pure (.again c')) own :=
  fun fz s k0 Ho ht => sg_again hq (h fz s k0 Ho ht)
theorem gk_end {f : Flow} (h : ∀ fz s, Keep fz₀ fz → Hold W fz own s → W.tk ≤ s.toks → Φ (.ret (.ok f)) s) : Gk W A Φ fz₀ c [] (.pure (.done f)) own :=
  fun fz s k0 Ho ht => sg_end (.ok f) (h fz s k0 Ho ht)
/-- what a loop's turn does with a raise -/
noncomputable abbrev hTurn (env : Env) : Value → Sem Fin := fun e => (do noteFrame e env; theTreesLotGoes e : Sem Unit).wrap (fun _ => .raise e) .raise id id
noncomputable abbrev kTurn (c : Code) : Flow → Sem Fin := fun f => match f with
  | .next | .cont => .pure (.again c)
  | .brk => .pure (.done .next)
  | .ret v => .pure (.done (.ret v))
theorem gk_whileTurn {test : Expr} {body : List Stmt} (h : ST W (A.over (.whileLoop test body [] env) fs) env test own fun r o1 => if r then Gk W A Φ fz₀ (.whileLoop test body [] env) fs ((execs body env).wrap (kTurn (.whileLoop test body [] env)) (hTurn env) id id) o1 else Gk W A Φ fz₀ (.whileLoop test body [] env) fs (.pure (.done .next)) o1) :
    Gk W A Φ fz₀ (.whileLoop test body [] env) fs ((model W.prog W.w).den (.whileLoop test body [] env)) own := fun fz s k0 Ho ht => by
  show Sg _ A Φ _ ((whileTurn test body [] env).onRaise (fun x => do noteFrame x env; theTreesLotGoes x)) fs s
  unfold whileTurn
  rw [Sem.onRaise_eq_wrap, Sem.bind_eq_wrap', Sem.wrap_wrap]
  refine sg_wrap (wpAny_mono (E := NoX) (wp_then (h fz s Ho ht) ht fun fz1 va a o1 s1 k1 H1 t1 r1 q1 => ?_) (fun _ _ x => x) fun _ _ x => x.elim)
  subst r1
  cases va with
  | false => exact q1 fz1 s1 (k0.trans k1) H1 t1
  | true =>
    have q := (show Gk W A Φ fz₀ (.whileLoop test body [] env) fs _ o1 from q1) fz1 s1 (k0.trans k1) H1 t1
    show Sg _ A Φ _ (Sem.wrap _ _ _ _ (if true = true then _ else _)) fs s1
    rw [if_pos rfl, Sem.bind_eq_wrap', Sem.wrap_wrap]
    rw [Sem.wrap_congr (execs body env) _ _ (K' := kTurn (.whileLoop test body [] env)) (H' := hTurn env) (fun f => by cases f <;> rfl)
      (fun e => by first | exact Sem.bind_eq_wrap _ _ | (show (do noteFrame e env; theTreesLotGoes e : Sem Unit).bind (fun _ => .raise e) = _; rw [Sem.bind_eq_wrap]))]
    exact q
end
section
variable {W : Wd} {A : Around} {env : Env} {own : Own}
/-! ### a list's iterator that many read -/
noncomputable def LItP (l : List V) : Heap → Obj → Prop := fun fz o => o.cls = .type "list_iterator" ∧
  ((∃ a vs, ∃ i : Nat, fz.IsList a vs ∧ RVs fz l (vs.toList.drop i) ∧ o.data = .fields #[.ref a, .int i 0]) ∨ (l = [] ∧ ∃ k, o.data = .fields #[.none, k]))
theorem lit_end {prog : Program} {w : World} {E : Value → Shared → Prop} {s : Shared} {it l : Addr} {i : Nat} {items : Array Value} {Q : Option Value → Shared → Prop} (hh : A.handled = none)
    (hit : s.heap.IsListIter it l i) (hl : s.heap.IsList l items) (hx : items[i]? = none)
    (hQ : ∀ h' o', Heap.ExtBut it s.heap h' → h'.get? it = some o' → o'.cls = .type "list_iterator" → o'.data = .fields #[.none, .int i 0] → Q none { s with heap := h' }) : wpAny (model prog w) A (pyNext (.ref it)) Q E s := by
  obtain ⟨o, ho, hc, hd⟩ := id hit
  obtain ⟨ol, hol, _, nl, hdl⟩ := hl
  unfold pyNext
  refine wpAny_bind (wpAny_attempt (wpAny_callSpecial?_slot (name := Str.ofString "__next__") hit.typeIs slot_listiter_next
    (wpAny_call_entry slot_listiter_next hit.typeIs entry_listiter_next ?_ (args_listiter_next _))))
  show wpAny _ _ (field (.ref it) 0 >>= _) _ _ s
  refine wpAny_bind (wpAny_field ho hd (x := .ref l) rfl ?_)
  show wpAny _ _ (if (Value.ref l == Value.none) = true then _ else _) _ _ s
  rw [if_neg (show ¬ ((Value.ref l == Value.none) = true) from Bool.false_ne_true)]
  show wpAny _ _ (field (.ref it) 1 >>= _) _ _ s
  refine wpAny_bind (wpAny_field ho hd (x := .int i 0) rfl ?_)
  show wpAny _ _ (seqItems? (.ref l) >>= _) _ _ s
  refine wpAny_bind (wpAny_seqItems hol hdl ?_)
  simp only [Int.toNat_natCast, hx]
  refine wpAny_bind (wpAny_rule (wpAny_bind (wpAny_setField ho hd (by simp) ?_)))
  show wpAny _ _ (newExc (.type "StopIteration") [] >>= _) _ _ _
  refine wpAny_bind ?_
  simp only [newExc, newTuple]
  refine wpAny_bind (wpAny_newObj_type ?_ (by size_fits))
  refine wpAny_bind (m := firstArgMember _ _) (wpAny_of_eq (a := Value.none) (by first | rfl | (simp only [firstArgMember]; rfl)) ?_)
  refine wpAny_newObj_type ?_ (by size_fits)
  simp only [raiseNew]
  refine wpAny_bind (wpAny_handled ?_)
  rw [show A.in1.handled = none from hh]
  refine wpAny_bind (wpAny_pure (wpAny_throw ?_))
  refine wpAny_bind (wpAny_isInstance (T := "StopIteration") (b := true) ⟨_, Heap.get?_push_size _ rfl, rfl⟩ isSubtype_stop ?_)
  have hd₃ := Obj.data_mapFields hd (·.setIfInBounds 0 Value.none)
  have he := Heap.get?_update_self (Obj.mapFields (·.setIfInBounds 0 Value.none)) ho (Obj.isFreed_of_fields hd₃)
  exact wpAny_pure (hQ _ _ (((Heap.SameBut.update ..).extBut.push _).push _) (Heap.get?_push_of_some _ (Heap.get?_push_of_some _ he)) (by obtain ⟨c, d, dt, sl⟩ := o; cases dt <;> exact hc) (by rw [hd₃]; rfl))
theorem Hold.extBut' {fz : Heap} {s : Shared} {own' : Own} {a : Addr} {ob ob' : Ob} (H : Hold W fz own s) (u : Upd a ob ob' own own') {h' : Heap} {k : Nat} (he : Heap.ExtBut a s.heap h') {o : Obj} (ho : h'.get? a = some o) (hob : ObIs fz ob' o) (hg : ob'.genOf = none := by rfl) :
    Hold W fz own' { s with heap := h', toks := k } where
  base := H.base
  has := fun b o e => he b o (fun hb => by have := H.out _ u.mem; rw [hb] at e; exact absurd e (by rw [this]; exact fun x => nomatch x)) (H.has b o e)
  obs := fun p hp => by
    rcases u.other' H.nd p hp with rfl | ⟨h, hne⟩
    · exact ⟨o, ho, hob⟩
    · obtain ⟨o', e, r⟩ := H.obs p h
      exact ⟨o', he _ _ hne e, r⟩
  out := fun p hp => by
    rcases u.other' H.nd p hp with rfl | ⟨h, _⟩
    · exact H.out (a, ob) u.mem
    · exact H.out p h
  nd := by rw [u.keys]; exact H.nd
  gens := H.gens.upd u hg
  os := H.os
theorem lit_some {a : Addr} {x : V} {l : List V} {fz : Heap} {s : Shared} {own' : Own} {P : Option Value → Shared → Prop} (H : Hold W fz own s) (u : Upd a (.prop (LItP (x :: l))) (.prop (LItP l)) own own')
    (q : ∀ v s', Hold W fz own' s' → s.toks ≤ s'.toks → RV fz x v → P (some v) s') : wpAny (model W.prog W.w) A (pyNext (.ref a)) P NoX s := by
  obtain ⟨o, ho, fz₀, k, hc, h⟩ := H.get u.mem
  rcases h with ⟨b, vs, i, hl, rs, hd⟩ | ⟨e, _⟩
  · obtain ⟨v, e, rx, rl⟩ := rvs_drop rs
    refine wpAny_pyNext_list_item (l := b) (i := i) ⟨o, ho, hc, hd⟩ (IsList_keep (IsList_keep hl k) H.has) (by rw [← Array.getElem?_toList]; exact e) fun h' ⟨o', ho', hc', hd'⟩ hs' => ?_
    exact q v _ (H.set (k := s.toks) u hs' ho' ⟨fz₀, k, hc', .inl ⟨b, vs, i + 1, hl, rl, hd'⟩⟩) (Nat.le_refl _) (rx.mono k)
  · cases e
theorem lit_none {a : Addr} {fz : Heap} {s : Shared} {P : Option Value → Shared → Prop} (hh : A.handled = none) (H : Hold W fz own s) (hm : (a, Ob.prop (LItP [])) ∈ own)
    (q : ∀ s', Hold W fz own s' → s.toks ≤ s'.toks → P none s') : wpAny (model W.prog W.w) A (pyNext (.ref a)) P NoX s := by
  obtain ⟨o, ho, fz₀, k, hc, h⟩ := H.get hm
  rcases h with ⟨b, vs, i, hl, rs, hd⟩ | ⟨_, kv, hd⟩
  · refine lit_end hh (l := b) (i := i) ⟨o, ho, hc, hd⟩ (IsList_keep (IsList_keep hl k) H.has) (by rw [← Array.getElem?_toList]; exact rvs_drop_nil rs) fun h' o' he ho' hc' hd' => ?_
    exact q _ (H.extBut' (k := s.toks) (Upd.self hm) he ho' ⟨fz₀, k, hc', .inr ⟨rfl, _, hd'⟩⟩) (Nat.le_refl _)
  · exact next_over hh ho hc hd fun h' hk => q _ (H.grow (k := s.toks) hk) (Nat.le_refl _)
theorem lit_iter {a : Addr} {l : List V} {Q : V → Own → Prop} (hm : (a, Ob.prop (LItP l)) ∈ own) (h : Q (.ref a) own) : S1 W A RV pyIter (.ref a) own Q := fun fz s v H ht r => by
  cases r.val_inv
  obtain ⟨o, ho, fz₀, k, hc, _⟩ := H.get hm
  have hT : s.TypeIs (.ref a) "list_iterator" := ⟨o, ho, hc⟩
  refine wpAny_pyIter_slot hT slot_listiter_iter (wpAny_call_entry slot_listiter_iter hT entry_listiter_iter ?_ (args_listiter_iter _))
  show wpAny _ _ (ret (.ref a)) _ _ s
  exact wpAny_pure ⟨_, rfl, "list_iterator", _, hT, slot_listiter_next.lookup, ⟨fz, _, own, .refl _, H, .val _, h⟩⟩
/-! ### generators -/
noncomputable def Wake (M : Model) (A : Around) (Φ : End → Shared → Prop) (gs : GenState) (s : Shared) : Prop := match gs with
  | .fresh c => Sg M A Φ c (M.den c) [] s
  | .suspended k _ c _ fs _ => Sg M A Φ c (k (.send .none)) fs s
  | _ => False
theorem resume1 {M : Model} {E : Value → Shared → Prop} {s : Shared} {g : Nat} {gs : GenState} {l : List Value} {α : Type} {k : GenResult → Sem α} {Q : α → Shared → Prop} {Φ : End → Shared → Prop} (hg : s.gens[g]? = some gs)
    (hw : Wake M A Φ gs (s.setGen g .running)) (hq : ∀ e s', Φ e s' → e.quiet = true) (post : ∀ e₁ s₁, Φ e₁ s₁ → wpAny M A (k e₁.result) Q E (s₁.setGen g e₁.genState)) : wpAny M A (.resume g (.send .none) l k) Q E s := by
  intro Γ p hΓ
  rw [Sem.wp_resume]
  have hB : ∀ c, (Γ.wake c p).Woken A := fun c => hΓ.wake c p
  cases gs with
  | fresh c =>
    obtain ⟨e₁, s₁, hr, he⟩ := hw (Γ.wake c p) p rfl (hB c)
    exact ⟨_, _, by unfold Wakes; rw [hg]; exact ⟨e₁, s₁, hr, hq e₁ s₁ he, rfl, rfl⟩, post e₁ s₁ he Γ p hΓ⟩
  | suspended k₀ l₀ c₀ p₀ fs₀ cl =>
    obtain ⟨e₁, s₁, hr, he⟩ := hw (Γ.wake c₀ p) p₀ rfl (hB c₀)
    exact ⟨_, _, by unfold Wakes; rw [hg]; exact ⟨e₁, s₁, hr, hq e₁ s₁ he, rfl, rfl⟩, post e₁ s₁ he Γ p hΓ⟩
  | running => exact hw.elim
  | finished => exact hw.elim
theorem gens_set_ne {gs : Array GenState} {g g' : Nat} {x : GenState} (h : g' ≠ g) : (gs.setIfInBounds g x)[g']? = gs[g']? := Array.getElem?_setIfInBounds_ne (Ne.symm h)
theorem bare_set {gs : Array GenState} {g : Nat} {x : GenState} (h : AllBare gs) (hx : x.bare = true) : AllBare (gs.setIfInBounds g x) := fun y hy => by
  rcases Array.mem_or_eq_of_mem_setIfInBounds hy with h1 | h1
  · exact h y h1
  · rw [h1]; exact hx
/-- a generator's state is turned -/
theorem Hold.setGen {fz : Heap} {s : Shared} {ga : Addr} {g : Nat} {P P' : GenState → Prop} {x : GenState} (H : Hold W fz ((ga, .gen g P) :: own) s) (hb : x.bare = true) (hx : P' x) : Hold W fz ((ga, .gen g P') :: own) (s.setGen g x) := by
  obtain ⟨y, hy, _⟩ := H.gens.st _ List.mem_cons_self g P rfl
  have hlt : g < s.gens.size := by
    by_cases h : g < s.gens.size
    · exact h
    · rw [Array.getElem?_eq_none (Nat.not_lt.mp h)] at hy; cases hy
  have nd := H.gens.nd
  rw [List.filterMap_cons, show (ga, Ob.gen g P).2.genOf = some g from rfl] at nd
  have nd2 := List.nodup_cons.mp nd
  refine ⟨H.base, H.has, fun p hp => ?_, fun p hp => ?_, H.nd, ⟨bare_set H.gens.bare hb, fun p hp g' Q e => ?_, ?_⟩, H.os⟩
  · rcases List.mem_cons.mp hp with rfl | hp
    · exact H.obs (ga, .gen g P) List.mem_cons_self
    · exact H.obs p (List.mem_cons_of_mem _ hp)
  · rcases List.mem_cons.mp hp with rfl | hp
    · exact H.out (ga, .gen g P) List.mem_cons_self
    · exact H.out p (List.mem_cons_of_mem _ hp)
  · rcases List.mem_cons.mp hp with rfl | hp
    · cases e
      exact ⟨x, Array.getElem?_setIfInBounds_self_of_lt hlt, hx⟩
    · have hne : g' ≠ g := fun e' => nd2.1 (List.mem_filterMap.mpr ⟨p, hp, by rw [e]; exact congrArg some e'⟩)
      obtain ⟨z, hz, hq⟩ := H.gens.st p (List.mem_cons_of_mem _ hp) g' Q e
      exact ⟨z, (gens_set_ne hne).trans hz, hq⟩
  · rw [List.filterMap_cons, show (ga, Ob.gen g P').2.genOf = some g from rfl]; exact nd
theorem Hold.isGen {fz : Heap} {s : Shared} (H : Hold W fz own s) {ga : Addr} {g : Nat} {P : GenState → Prop} (hm : (ga, Ob.gen g P) ∈ own) : s.heap.IsGen ga g := by
  obtain ⟨o, ho, hc, ⟨nm, qn, hd⟩, hs⟩ := H.get hm
  exact ⟨o, nm, qn, ho, hc, hd, hs⟩
/-- the end of a segment, as the waker sees it -/
noncomputable def OutG (W : Wd) (fz : Heap) (ga : Addr) (g : Nat) (R : V → (GenState → Prop) → Own → Prop) (S : Own → Prop) (e : End) (s' : Shared) : Prop :=
  e.quiet = true ∧ match e with
  | .ret r => r = .ok (.ret .none) ∧ ∃ fz' o, Keep fz fz' ∧ Hold W fz' ((ga, .gen g (· = .running)) :: o) s' ∧ W.tk ≤ s'.toks ∧ S o
  | .susp v .. => ∃ fz' b P o, Keep fz fz' ∧ Hold W fz' ((ga, .gen g (· = .running)) :: o) s' ∧ W.tk ≤ s'.toks ∧ RV fz' b v ∧ P e.genState ∧ R b P o
/-- a generator is asked for its next -/
theorem gen_next {fz : Heap} {s : Shared} {ga : Addr} {g : Nat} {P : GenState → Prop} {R : V → (GenState → Prop) → Own → Prop} {S : Own → Prop} {Q : Option Value → Shared → Prop} (hh : A.handled = none) (hroom : A.depth < recursionLimit)
    (H : Hold W fz ((ga, .gen g P) :: own) s) (ht : W.tk ≤ s.toks)
    (hw : ∀ gs, P gs → ∀ s', Hold W fz ((ga, .gen g (· = .running)) :: own) s' → W.tk ≤ s'.toks → Wake (model W.prog W.w) A.in1 (OutG W fz ga g R S) gs s')
    (hy : ∀ v b P' o fz' s', Keep fz fz' → Hold W fz' ((ga, .gen g P') :: o) s' → W.tk ≤ s'.toks → RV fz' b v → R b P' o → Q (some v) s')
    (hr : ∀ o fz' s', Keep fz fz' → Hold W fz' ((ga, .gen g (· = .finished)) :: o) s' → W.tk ≤ s'.toks → S o → Q none s') : wpAny (model W.prog W.w) A (pyNext (.ref ga)) Q NoX s := by
  have hg := H.isGen List.mem_cons_self
  obtain ⟨gs, hgs, hP⟩ := H.gens.st _ List.mem_cons_self g P rfl
  have hw' := hw gs hP _ (H.setGen (x := .running) rfl rfl) ht
  unfold pyNext
  refine wpAny_bind (wpAny_attempt (wpAny_callSpecial?_slot (name := Str.ofString "__next__") hg.typeIs slot_gen_next
    (wpAny_call_entry slot_gen_next hg.typeIs entry_gen_next ?_ (args_gen_next _))))
  show wpAny _ _ (Builtin.Generator.genWake (.ref ga) (.send .none)) _ _ s
  unfold Builtin.Generator.genWake
  refine wpAny_bind (wpAny_holding (wpAny_genNumber hg (wpAny_bind (wpAny_genState hgs ?_))))
  have hl : s.heap.NoLimit := W.top.nolimit.keeps H.keep
  have fin : ∀ e s₁, OutG W fz ga g R S e s₁ → e.quiet = true := fun e s₁ x => x.1
  cases gs with
  | running => exact hw'.elim
  | finished => exact hw'.elim
  | _ =>
    refine wpAny_bind (wpAny_roomToWake hl hroom ?_)
    show wpAny _ _ (.resume g (.send .none) [] _) _ _ s
    refine resume1 hgs hw' fin fun e₁ s₁ hx => ?_
    obtain ⟨hq, hx⟩ := hx
    cases e₁ with
    | ret r =>
      obtain ⟨rfl, fz', o, k', H', t', hS⟩ := hx
      show wpAny _ _ (newExc (.type "StopIteration") [] >>= _) _ _ _
      refine wpAny_bind ?_
      simp only [newExc, newTuple]
      refine wpAny_bind (wpAny_newObj_type ?_ (by size_fits))
      refine wpAny_bind (m := firstArgMember _ _) (wpAny_of_eq (a := Value.none) (by first | rfl | (simp only [firstArgMember]; rfl)) ?_)
      refine wpAny_newObj_type ?_ (by size_fits)
      simp only [raiseNew]
      refine wpAny_bind (wpAny_bind (wpAny_handled ?_))
      rw [show A.in1.handled = none from hh]
      refine wpAny_throw ?_
      refine wpAny_bind (wpAny_isInstance (T := "StopIteration") (b := true) ⟨_, Heap.get?_push_size _ rfl, rfl⟩ isSubtype_stop ?_)
      have H2 := H'.setGen (x := .finished) (P' := (· = .finished)) rfl rfl
      exact wpAny_pure (hr o fz' _ k' (H2.grow (k := s₁.toks) ((Keep.push _ _).trans (Keep.push _ _))) t' hS)
    | susp v g₀ l₀ k₀ c₀ p₀ fs₀ =>
      obtain ⟨fz', b, P', o, k', H', t', r, hP', hR⟩ := hx
      exact wpAny_pure ⟨v, rfl, wpAny_pure (hy v b P' o fz' _ k' (H'.setGen (End.bare_of_quiet hq) hP') t' r hR)⟩
/-- a generator is made -/
theorem do_callG {f : Addr} {args : List V} {Q : V → Own → Prop} {name qual : Str} {params : Arguments} {body : List Stmt} {scope : Scope} {dV kV doc pm cdv ct oc : Value} {an od : Option Addr} {osl : Array (Option Value)}
    (names : List Str) (ho : W.K.lookup f = some ⟨oc, od, .func (fnOf name qual params body scope dV kV doc pm an cdv ct), osl⟩) (hcd : codeIn W.K cdv qual = true) (hroom : A.depth < recursionLimit)
    (hb : ∀ s vs, W.K.In s.heap → vs.length = args.length → BindsTo s (fnOf name qual params body scope dV kV doc pm an cdv ct) ⟨vs, []⟩ (names.zip vs))
    (hloc : ∀ y ∈ names, scope.names.lookup y = some .local) (nd : names.Nodup)
    (P : Addr → GenState → Prop) (hP : ∀ L, P L (.fresh (.func body (envX qual scope L f cdv [])))) (h : ∀ L ga g, Q (.ref ga) ((ga, .gen g (P L)) :: (L, .ns (names.zip args)) :: own))
    (hco : scope.isCoroutine = false) (hgen : scope.isGenerator = true) (hk : scope.kind = .function)
    (hcell : ∀ x ∈ scope.names, x.2 ≠ .cell) : SLC W A (.ref f) args own Q := fun fz s vs H ht rs => by
  have ndz : ((names.zip vs).map (·.1)).Nodup := nd.sublist zip_fst
  refine codeAny_call_generator (fd := fnOf name qual params body scope dV kV doc pm an cdv ct) (body := body) hroom (H.kin _ _ ho) rfl hco hgen rfl (codeRec_of H.kin hcd) (hb s vs H.kin rs.length.symm _ _ _ _ ?_)
  refine wpAny_newFunctionEnv hcell (fun x hx => hloc _ (List.of_mem_zip (show (x.1, x.2) ∈ names.zip vs from hx)).1) (fun h₁ hns hsb => ?_) hk
  have hk₁ : Keep s.heap h₁ := fun b o e => hsb.extBut b o (Nat.ne_of_lt (Heap.lt_size e)) (Heap.get?_push_of_some _ e)
  refine ⟨(W.top.nolimit.keeps H.keep).keeps hk₁, ?_⟩
  obtain ⟨o, ho', hob⟩ := of_ns (fz := fz) (loc := names.zip args) hns (fun p hp => by
    obtain ⟨v, e, r⟩ := zip_lookup rs nd p hp
    exact ⟨v, by rw [lookup_reverse ndz]; exact e, r⟩)
  have H₁ : Hold W fz ((s.heap.objs.size, .ns (names.zip args)) :: own) { s with heap := h₁, toks := s.toks + (names.zip vs).length } := H.new hk₁ (get?_ge (Nat.le_refl _)) ho' hob
  refine ⟨fz, _, _, .refl _, ?_, .val _, h s.heap.objs.size h₁.objs.size s.gens.size⟩
  have hfr : h₁.get? h₁.objs.size = none := get?_ge (Nat.le_refl _)
  obtain ⟨o1, o2⟩ := off_of H₁ hfr
  have hgl : ∀ p ∈ ((s.heap.objs.size, Ob.ns (names.zip args)) :: own : Own), ∀ g P, p.2 = .gen g P → g < s.gens.size := fun p hp g P e => by
    obtain ⟨x, hx, _⟩ := H₁.gens.st p hp g P e
    have hx' : s.gens[g]? = some x := hx
    by_cases hlt : g < s.gens.size
    · exact hlt
    · rw [Array.getElem?_eq_none (Nat.not_lt.mp hlt)] at hx'; cases hx'
  refine ⟨H₁.base, fun b o e => Heap.get?_push_of_some _ (H₁.has b o e), fun p hp => ?_, fun p hp => ?_, ?_, ⟨H₁.gens.bare.push rfl, fun p hp g P' e => ?_, ?_⟩, H₁.os⟩
  · rcases List.mem_cons.mp hp with rfl | hp
    · exact ⟨_, Heap.get?_push_size _ rfl, rfl, ⟨_, _, rfl⟩, rfl⟩
    · obtain ⟨o', e, r⟩ := H₁.obs p hp; exact ⟨o', Heap.get?_push_of_some _ e, r⟩
  · rcases List.mem_cons.mp hp with rfl | hp
    · exact o1
    · exact H₁.out p hp
  · rw [List.map_cons, List.nodup_cons]
    exact ⟨fun hm => by obtain ⟨p, hp, e⟩ := List.mem_map.mp hm; exact o2 p hp e, H₁.nd⟩
  · rcases List.mem_cons.mp hp with rfl | hp
    · cases e
      exact ⟨_, Array.getElem?_push_size, hP _⟩
    · obtain ⟨x, hx, hq⟩ := H₁.gens.st p hp g P' e
      have hlt := hgl p hp g P' e
      exact ⟨x, by rw [Array.getElem?_push_lt hlt]; exact (Array.getElem?_eq_getElem hlt).symm.trans hx, hq⟩
  · rw [List.filterMap_cons, show (h₁.objs.size, Ob.gen s.gens.size (P s.heap.objs.size)).2.genOf = some s.gens.size from rfl]
    refine List.nodup_cons.mpr ⟨fun hm => ?_, H₁.gens.nd⟩
    obtain ⟨p, hp, e⟩ := List.mem_filterMap.mp hm
    obtain ⟨pa, po⟩ := p
    cases po <;> first | (cases e; done) | skip
    rename_i g P'
    have e' : some g = some s.gens.size := e
    have := hgl _ hp g P' rfl
    cases e'
    exact Nat.lt_irrefl _ this
end
section
variable {W : Wd} {A : Around} {env : Env} {own : Own} {Φ : End → Shared → Prop} {fz₀ : Heap} {fs : List Frame}
/-! ### a generator's for over a shared iterator -/
theorem let_goL {prog : Program} {w : World} {E : Value → Shared → Prop} {s : Shared} {o : Obj} {it : Addr} {v : Value} {target : Expr} {Q : Unit → Shared → Prop} (ho : s.heap.get? it = some o) (hc : o.cls = .type "list_iterator") (h : Q () s) :
    wpAny (model prog w) A (letOwnedTupleGo target (.ref it) v) Q E s := by
  unfold letOwnedTupleGo
  have key : wpAny (model prog w) A (do
      let (.ref r, .ref a) := ((Value.ref it), v) | return
      let o ← load r
      match o.cls, o.data with
      | .type n, .fields vs =>
        if ["enumerate", "zip", "dict_itemiterator", "dict_reverseitemiterator", "odict_iterator", "itertools.zip_longest", "itertools.pairwise"].contains n && vs[0]? == some (rawInt a) then
          rule "for.unpacks-the-owned-tuple"
          updateField r 0 .none
      | _, _ => pure ()) Q E s := by
    cases v with
    | ref a =>
      show wpAny _ _ (load it >>= _) _ _ _
      refine wpAny_bind (wpAny_load ho ?_)
      obtain ⟨c, d, dt, sl⟩ := o
      cases hc
      cases dt <;> first
        | exact wpAny_pure h
        | (dsimp only; rw [show (["enumerate", "zip", "dict_itemiterator", "dict_reverseitemiterator", "odict_iterator", "itertools.zip_longest", "itertools.pairwise"].contains "list_iterator") = false by decide, Bool.false_and, if_neg Bool.false_ne_true]; exact wpAny_pure h)
    | _ => exact wpAny_pure h
  cases target <;> first | exact key | exact wpAny_pure h
theorem den_for (target : Expr) (it : Value) (body : List Stmt) (env : Env) : (model W.prog W.w).den (.forLoop target it body [] env) = ((forTurn target it body [] env).onRaise (fun x => do noteFrame x env; theTreesLotGoes x)) := rfl
theorem gk_for_none {target : Expr} {it : Addr} {body : List Stmt} (hh : (A.over (.forLoop target (.ref it) body [] env) fs).handled = none) (hm : (it, Ob.prop (LItP [])) ∈ own) (h : Gk W A Φ fz₀ (.block [] env) fs (.pure (.done .next)) own) :
    Gk W A Φ fz₀ (.forLoop target (.ref it) body [] env) fs ((model W.prog W.w).den (.forLoop target (.ref it) body [] env)) own := fun fz s k0 Ho ht => by
  rw [den_for]
  unfold forTurn
  rw [Sem.onRaise_eq_wrap]
  refine sg_at ?_
  show Sg _ _ _ _ (Sem.wrap _ _ _ _ ((pyNext (.ref it)).onRaise _ >>= _)) _ _
  rw [Sem.bind_eq_wrap', Sem.wrap_wrap]
  refine sg_wrap (wpAny_onRaise (wpAny_mono (E := NoX) (lit_none (P := fun r s' => r = none ∧ Hold W fz own s' ∧ W.tk ≤ s'.toks) hh Ho hm fun s' H' t' => ⟨rfl, H', Nat.le_trans ht t'⟩) ?_ fun _ _ x => x.elim))
  rintro r s' ⟨rfl, H', t'⟩
  exact sg_again rfl (h fz s' k0 H' t')
theorem gk_for_some {target : Expr} {it : Addr} {body : List Stmt} {x : V} {r : List V} {own' : Own} (u : Upd it (.prop (LItP (x :: r))) (.prop (LItP r)) own own')
    (h : SA W (A.over (.forLoop target (.ref it) body [] env) fs) env target x own' fun o2 => Gk W A Φ fz₀ (.forLoop target (.ref it) body [] env) fs ((execs body env).wrap (kTurn (.forLoop target (.ref it) body [] env)) (hTurn env) id id) o2) :
    Gk W A Φ fz₀ (.forLoop target (.ref it) body [] env) fs ((model W.prog W.w).den (.forLoop target (.ref it) body [] env)) own := fun fz s k0 Ho ht => by
  rw [den_for]
  unfold forTurn
  rw [Sem.onRaise_eq_wrap]
  refine sg_at ?_
  show Sg _ _ _ _ (Sem.wrap _ _ _ _ ((pyNext (.ref it)).onRaise _ >>= _)) _ _
  rw [Sem.bind_eq_wrap', Sem.wrap_wrap]
  refine sg_wrap (wpAny_onRaise (wpAny_mono (E := NoX) (lit_some (P := fun q s' => ∃ v, q = some v ∧ Hold W fz own' s' ∧ W.tk ≤ s'.toks ∧ RV fz x v) Ho u fun v s' H' t' rx => ⟨v, rfl, H', Nat.le_trans ht t', rx⟩) ?_ fun _ _ x => x.elim))
  rintro q s' ⟨v, rfl, H', t', rx⟩
  obtain ⟨ob, hob, fz1, _, hc, _⟩ := H'.get u.mem'
  show Sg _ _ _ _ (Sem.wrap _ _ _ _ (letOwnedTupleGo target (.ref it) v >>= _)) _ _
  rw [Sem.bind_eq_wrap', Sem.wrap_wrap]
  refine sg_wrap (let_goL hob hc ?_)
  show Sg _ _ _ _ (Sem.wrap _ _ _ _ (assign target env v >>= _)) _ _
  rw [Sem.bind_eq_wrap', Sem.wrap_wrap]
  refine sg_wrap (wpAny_mono (E := NoX) (wp_then (h fz s' v H' t' rx) t' fun fz2 _ _ o2 s2 k2 H2 t2 _ q2 => ?_) (fun _ _ x => x) fun _ _ x => x.elim)
  have q := q2 fz2 s2 (k0.trans k2) H2 t2
  show Sg _ _ _ _ (Sem.wrap _ _ _ _ (execs body env >>= _)) _ _
  rw [Sem.bind_eq_wrap', Sem.wrap_wrap]
  rw [Sem.wrap_congr (execs body env) _ _ (K' := kTurn (.forLoop target (.ref it) body [] env)) (H' := hTurn env) (fun f => by cases f <;> rfl)
    (fun e => by first | exact Sem.bind_eq_wrap _ _ | (show (do noteFrame e env; theTreesLotGoes e : Sem Unit).bind (fun _ => .raise e) = _; rw [Sem.bind_eq_wrap]))]
  exact q
theorem gk_func {body : List Stmt} (h : Gk W A Φ fz₀ (.func body env) fs ((execs body env).wrap (fun f => .pure (.done (.ret (match f with | .ret v => v | _ => .none)))) (fun e => (leaving env e).wrap (fun _ => .raise e) .raise id id) id id) own) :
    Gk W A Φ fz₀ (.func body env) fs ((model W.prog W.w).den (.func body env)) own := fun fz s k0 Ho ht => by
  show Sg _ A Φ _ (.point [] fun _ => ((execs body env).onRaise (leaving env)) >>= _) fs s
  refine sg_point ?_
  rw [Sem.onRaise_eq_wrap, Sem.bind_eq_wrap', Sem.wrap_wrap]
  rw [Sem.wrap_congr (execs body env) _ _ (K' := fun f => .pure (.done (.ret (match f with | .ret v => v | _ => .none))))
    (H' := fun e => (leaving env e).wrap (fun _ => .raise e) .raise id id) (fun f => by cases f <;> rfl)
    (fun e => by rw [Sem.bind_eq_wrap, Sem.wrap_wrap]; rfl)]
  exact h fz s k0 Ho ht
end
section
variable {W : Wd} {A : Around} {env : Env} {own : Own}
/-! ### is None -/
noncomputable def isNoneD : PyData → Bool
  | .none => true
  | _ => false
theorem cmp_isNone {d : PyData} {Q : V → Own → Prop} (h : Q (.bool (isNoneD d)) own) : S2 W A RV (compareOp .Is) (.dat d) .none own Q := fun fz s v u H _ r1 r2 => by
  rw [r2.none_inv]
  have fin : ∀ b, Q (.bool b) own → Post W RV Q fz (.bool b) s := fun b q => ⟨fz, _, own, .refl _, H, .dat (.bool _), q⟩
  cases r1 with
  | dat r =>
    cases r with
    | none => exact wpAny_is_self rfl (fin true h)
    | _ => exact wpAny_is_other rfl (fun e => nomatch e) (fin false h)
/-! ### the first of a list taken out -/
theorem call_pop0 {D : Addr} {x : V} {l : List V} {own' : Own} {Q : V → Own → Prop} (u : Upd D (.list (x :: l)) (.list l) own own') (hz : l.length < sizeLine) (h : Q x own') : SL W A RV (fun vs => call (.builtin "list.pop") vs) [.ref D, .int 0] own Q := SL2 fun fz s v w H ht r1 r2 => by
  cases r1.val_inv
  obtain ⟨t, rfl⟩ := r2.int_inv
  obtain ⟨ob, ho, vs, n, rfl, rs⟩ := H.get u.mem
  cases rs with
  | @cons _ y _ ys ry rys =>
    have hlen := rys.length
    refine call_meets PySem.F.slot_list_pop ⟨_, ho, rfl⟩ PySem.F.entry_list_pop (PySem.F.args_list_pop_2 _ _) (PySem.MeetsSeq.list_pop_at D (y :: ys).toArray n 0 t 0 y (by decide) (by simp [seqIndex?]) (by simp) (by simp only [List.size_toArray, List.length_cons]; (first | decide | exact Nat.le_trans (by assumption) (by decide) | lia | omega))) ⟨ho, ?_⟩
    have hs : Heap.SameBut D s.heap (s.heap.update D (Obj.mapSeq fun xs => xs.eraseIdxIfInBounds 0)) := Heap.SameBut.update ..
    have e : Obj.mapSeq (fun xs => xs.eraseIdxIfInBounds 0) (listObj (y :: ys) n) = listObj ys (n + 1) := by
      unfold listObj Obj.mapSeq
      simp [Array.eraseIdxIfInBounds]
    have hg := Heap.get?_update_self (Obj.mapSeq fun xs => xs.eraseIdxIfInBounds 0) ho (by rw [e]; rfl)
    rw [e] at hg
    exact ⟨fz, _, own', .refl _, H.set (k := s.toks) u hs hg ⟨ys, _, rfl, rys⟩, ry, h⟩
theorem mth_pop {D : Addr} {l : List V} {pl : Sem Bool} {Q : Value × List V → Own → Prop} (hm : (D, Ob.list l) ∈ own) (h : Q (.builtin "list.pop", [.ref D]) own) : SMth W A (Str.ofString "pop") pl (.ref D) own Q := mth_list hm PySem.F.slot_list_pop PySem.F.type_list_pop h
/-! ### unpacking -/
/-- stores in the names' order reversed -/
noncomputable def SSs (W : Wd) (A : Around) (env : Env) : List Str → List V → Own → (Own → Prop) → Prop
  | [], [], own, Q => Q own
  | x :: xs, a :: as, own, Q => SS W A env x a own fun o1 => SSs W A env xs as o1 Q
  | _, _, _, _ => False
theorem SSs_cons {x : Str} {xs : List Str} {a : V} {as : List V} {Q : Own → Prop} (h : SS W A env x a own fun o1 => SSs W A env xs as o1 Q) : SSs W A env (x :: xs) (a :: as) own Q := h
theorem SSs_nil {Q : Own → Prop} (h : Q own) : SSs W A env [] [] own Q := h
theorem SSs.run : ∀ {xs : List Str} {l : List V} {own : Own} {Q : Own → Prop}, SSs W A env xs l own Q → SL W A RU (fun vs => assignInOrder (xs.map fun n => bindName env n) vs) l own fun _ => Q
  | [], [], own, Q, h => fun fz s vs H ht r => by cases r; exact wpAny_pure ⟨fz, (), own, .refl _, H, trivial, h⟩
  | x :: xs, a :: as, own, Q, h => fun fz s vs H ht r => by
    cases r with
    | cons r rs =>
    show wpAny _ _ (holding _ (bindName env x _) >>= fun _ => assignInOrder (xs.map fun n => bindName env n) _) _ _ _
    refine wpAny_bind (wpAny_holding (wpAny_bindName (wp_then (h fz s _ H ht r) ht fun fz1 _ _ o1 s1 k1 H1 t1 _ q1 => ?_)))
    exact (SSs.run q1 fz1 s1 _ H1 t1 (rs.mono k1)).weak k1
  | [], _ :: _, _, _, h => h.elim
  | _ :: _, [], _, _, h => h.elim
theorem rvs_reverse {fz : Heap} {l : List V} {vs : List Value} (r : RVs fz l vs) : RVs fz l.reverse vs.reverse := by
  induction r with
  | nil => exact .nil
  | cons h _ ih => rw [List.reverse_cons, List.reverse_cons]; exact ih.append (.cons h .nil)
theorem SX_AssignSw {elts : List Expr} {k : Nat} {tpos pos : Pos} {value : Expr} {names : List Str} {Q : Fl → Own → Prop} (hh : A.handled = none)
    (hw : swappedStores [.Tuple elts k tpos] value env = pure (some names))
    (h : SE W A env value own fun a o1 => ∃ t l, a = .ref t ∧ (t, Ob.tup l) ∈ o1 ∧ l.length = names.length ∧ SSs W A env names.reverse l.reverse o1 fun o2 => Q .next o2)
    (hs : swapsWithSole [.Tuple elts k tpos] value pos.line env = pure false := by rfl) : SX W A env (.Assign [.Tuple elts k tpos] value pos) own Q := fun fz s H ht => by
  refine Assign_Tuple_swapped (names := names) (wp_then (h fz s H ht) ht fun fz1 va a o1 s1 k1 H1 t1 r1 q1 => ?_) hs hw
  obtain ⟨t, l, rfl, hm, hl, q⟩ := q1
  cases r1.val_inv
  obtain ⟨o, ho, vs, n, rfl, rs⟩ := H1.get hm
  have hlen := rs.length
  have hn : names.length = vs.toArray.size := by simp only [List.size_toArray]; (first | decide | exact Nat.le_trans (by assumption) (by decide) | lia | omega)
  rw [hn]
  refine wpAny_unpackItems_tuple hh (t := t) (items := vs.toArray) ⟨_, ho, rfl, n, rfl⟩ fun h' he => ?_
  have H2 := H1.grow (k := s1.toks) (h' := h') fun b o e => he b o (Nat.ne_of_lt (Heap.lt_size e)) e
  refine wp_then (SSs.run q fz1 _ _ H2 t1 (rvs_reverse (by simpa using rs))) t1 fun fz3 _ _ o3 s3 k3 H3 t3 _ q3 => ?_
  exact ⟨fz3, _, o3, k1.trans k3, H3, .next, q3⟩
/-! ### next, asked of an iterator or a generator, with a default -/
theorem next_entry {prog : Program} {w : World} {E : Value → Shared → Prop} {s : Shared} {it : Addr} {dflt f : Value} {T : String} {Q : Value → Shared → Prop} (hT : s.TypeIs (.ref it) T) (hs : typeLookup (.type T) (Str.ofString "__next__") = pure (some f))
    (h : wpAny (model prog w) A.in1 (pyNext (.ref it)) (fun r s' => Q (r.getD dflt) s') E s) : wpAny (model prog w) A (call (.builtin "next") [.ref it, dflt]) Q E s := by
  refine PySem.Calls.call_function_entry (by decide +kernel) (by decide +kernel) kdk_entry_next (kdk_args_next2 _ _) ?_
  unfold Builtin.«next»
  refine wpAny_bind (m := someArgs "next" 1 2 _) (wpAny_of_eq (a := [Value.ref it, dflt]) (by first | rfl | kernel_rfl!) ?_)
  dsimp only
  refine wpAny_bind (wpAny_specialOf (name := Str.ofString "__next__") hT hs ?_)
  refine wpAny_ite_split (fun hab => absurd hab (by simp)) (fun _ => ?_)
  exact wpAny_bind (wpAny_mono h (fun r s' q => wpAny_pure ⟨_, rfl, q⟩) fun _ _ x => x)
theorem call_next_lit {it : Addr} {x : V} {l : List V} {own' : Own} {Q : V → Own → Prop} (u : Upd it (.prop (LItP (x :: l))) (.prop (LItP l)) own own') (h : Q x own') : SL W A RV (fun vs => call (.builtin "next") vs) [.ref it, .none] own Q := SL2 fun fz s v w H ht r1 r2 => by
  cases r1.val_inv
  obtain ⟨o, ho, fz₀, k, hc, _⟩ := H.get u.mem
  refine next_entry (T := "list_iterator") ⟨o, ho, hc⟩ slot_listiter_next.lookup (lit_some H u fun v s' H' t' rx => ?_)
  exact ⟨fz, _, own', .refl _, H', rx, h⟩
end
section
variable {W : Wd} {A : Around} {env : Env} {own : Own}
/-! ### range with a step, max of two -/
theorem call_range3 {a b c : Int} {Q : V → Own → Prop} (h0 : c ≠ 0) (hc : c.natAbs < 1073741824) (h : Q (.rng a b c) own) : SL W A RV (fun vs => call (.type "range") vs) [.int a, .int b, .int c] own Q := fun fz s vs H ht r => by
  obtain ⟨v1, v2, v3, rfl, r1, r2, r3⟩ : ∃ v1 v2 v3, vs = [v1, v2, v3] ∧ RV fz (.int a) v1 ∧ RV fz (.int b) v2 ∧ RV fz (.int c) v3 := by
    cases r with | cons r1 r => cases r with | cons r2 r => cases r with | cons r3 r => cases r; exact ⟨_, _, _, rfl, r1, r2, r3⟩
  obtain ⟨t, rfl⟩ := r1.int_inv; obtain ⟨t2, rfl⟩ := r2.int_inv; obtain ⟨t3, rfl⟩ := r3.int_inv
  refine call_range_3 h0 ?_ (Or.inl (PyProof.noPylong_small (by (first | decide | exact Nat.le_trans (by assumption) (by decide) | lia | omega))))
  obtain ⟨kk, H'⟩ := H.frz (k := s.toks) (o := { cls := .type "range", data := .fields #[.int a t, .int b t2, .int c t3] }) rfl (Keep.push _ _) (get?_ge (Nat.le_refl _)) (Heap.get?_push_size _ rfl)
  exact ⟨_, _, own, kk, H', .rng (putH_at rfl), h⟩
theorem call_max2 {a b : Int} {Q : V → Own → Prop} (hh : A.handled = none) (h : Q (.int (max a b)) own) : SL W A RV (fun vs => call (.builtin "max") vs) [.int a, .int b] own Q := SL2 fun fz s v w H ht r1 r2 => by
  obtain ⟨t, rfl⟩ := r1.int_inv; obtain ⟨t2, rfl⟩ := r2.int_inv
  refine max_two_ints hh fun h' tk hk => ?_
  by_cases hb : b > a
  · rw [if_pos hb]
    rw [show max a b = b by (first | decide | exact Nat.le_trans (by assumption) (by decide) | lia | omega)] at h
    exact ⟨fz, _, own, .refl _, H.grow (k := tk) hk, .dat (.int _ _), h⟩
  · rw [if_neg hb]
    rw [show max a b = a by (first | decide | exact Nat.le_trans (by assumption) (by decide) | lia | omega)] at h
    exact ⟨fz, _, own, .refl _, H.grow (k := tk) hk, .dat (.int _ _), h⟩
/-! ### a list unpacked -/
theorem draw_it {it : Addr} : ∀ {l : List V} {own : Own} {fz : Heap} {s : Shared} {P : List Value → Shared → Prop}, Hold W fz ((it, .it l) :: own) s → (∀ vs s', Hold W fz ((it, .it []) :: own) s' → s.toks ≤ s'.toks → RVs fz l vs → P vs s') → wpAny (model W.prog W.w) A (draw (.ref it) l.length) P NoX s
  | [], own, fz, s, P, H, q => wpAny_pure (q [] s H (Nat.le_refl _) .nil)
  | x :: l, own, fz, s, P, H, q => by
    show wpAny _ _ (pyNext (.ref it) >>= _) _ _ s
    refine wpAny_bind (next_some H .here fun v s' H' t' rx => ?_)
    refine wpAny_bind (wpAny_holding (draw_it H' fun vs s2 H2 t2 rs => wpAny_pure ?_))
    exact q _ _ H2 (Nat.le_trans t' t2) (.cons rx rs)
theorem SA_TupleL {ts : List Expr} {x1 : Nat} {pos : Pos} {l : List PyData} {Q : Own → Prop} (hh : A.handled = none) (hn : (assignEach ts env).length = l.length) (h : SAs W A env ts (l.map V.dat) own Q)
    (hstar : (assignEach ts env).findIdx? (·.1) = none := by rfl) : SA W A env (.Tuple ts x1 pos) (.lst l) own Q := fun fz s v H ht r => by
  unfold At
  rw [arm_assign_Tuple]
  refine wpAny_bind (wpAny_standAt ?_)
  obtain ⟨a, vs, rfl, hl, rs⟩ := r.lst_inv
  have hl' := IsList_keep hl H.has
  unfold unpack
  rw [hn, hstar]
  refine wpAny_bind (wpAny_holding ?_)
  unfold unpackItems
  refine wpAny_bind ?_
  unfold notIterableAtAll
  refine wpAny_bind (wpAny_specialOf (name := Str.ofString "__iter__") hl'.typeIs slot_list_iter.lookup ?_)
  refine wpAny_pure ?_
  simp only [Bool.false_eq_true, if_false]
  refine wpAny_bind (wpAny_holding (wp_then (it_list (l := l) (own := own) (Q := fun b o => ∃ it, b = .ref it ∧ o = (it, .it (l.map V.dat)) :: own) (fun it => ⟨it, rfl, rfl⟩) fz s (.ref a) H ht r) ht fun fz1 vb b o1 s1 k1 H1 t1 r1 q1 => ?_))
  obtain ⟨it, rfl, rfl⟩ := q1
  cases r1.val_inv
  have hlen : (l.map V.dat).length = l.length := List.length_map ..
  rw [← hlen]
  refine wpAny_bind (wpAny_holding (draw_it H1 fun ws s2 H2 t2 rs2 => ?_))
  have hw := rs2.length
  rw [if_neg (by rw [← hw]; (first | decide | exact Nat.le_trans (by assumption) (by decide) | lia | omega))]
  refine wpAny_bind (wpAny_holding (next_none hh H2 fun s3 H3 t3 => ?_))
  simp only [Option.isSome_none, Bool.false_eq_true, if_false]
  refine wpAny_pure ?_
  exact (h fz1 s3 ws H3 (Nat.le_trans t1 (Nat.le_trans t2 t3)) rs2).weak k1
/-! ### an item of a list of one's own is set -/
theorem set_listObj (vs : List Value) (n j : Nat) (v : Value) : ∃ n', Obj.mapSeq (·.setIfInBounds j v) (listObj vs n) = listObj (vs.set j v) n' := by
  refine ⟨if (vs.toArray.setIfInBounds j v).size == vs.toArray.size then n else n + 1, ?_⟩
  have e : Obj.mapSeq (·.setIfInBounds j v) (listObj vs n) = { cls := .type "list", data := .seq (vs.toArray.setIfInBounds j v) (if (vs.toArray.setIfInBounds j v).size == vs.toArray.size then n else n + 1) } := rfl
  rw [e]
  unfold listObj
  congr 2
  simp
theorem set_own {D : Addr} {l : List V} {k : Int} {x : V} {own' : Own} {Q : Own → Prop} (h0 : 0 ≤ k) (hk : k < (l.length : Int)) (hz : l.length ≤ sizeLine) (u : Upd D (.list l) (.list (l.set k.toNat x)) own own') (h : Q own') :
    S2 W A RU (fun i v => setItem (.ref D) i v) (.int k) x own (fun _ => Q) := fun fz s iv v H ht r1 r2 => by
  obtain ⟨t, rfl⟩ := r1.int_inv
  obtain ⟨ob, ho, vs, n, rfl, rs⟩ := H.get u.mem
  have hlen := rs.length
  rw [sizeLine_eq] at hz
  have hl : s.heap.IsList D vs.toArray := ⟨_, ho, rfl, n, rfl⟩
  have hfit : k < 2 ^ 63 := by (first | decide | exact Nat.le_trans (by assumption) (by decide) | lia | omega)
  have hd : (listObj vs n).data = .seq vs.toArray n := rfl
  unfold At setItem
  try with_reducible refine wpAny_holding ?_
  first | refine wpAny_bind (wpAny_pure ?_) | skip
  refine wpAny_bind (wpAny_sequenceKey hl.typeIs (by decide) ?_)
  refine wpAny_bind (wpAny_callSpecial?_slot (name := Str.ofString "__setitem__") hl.typeIs slot_list_setitem
    (wpAny_call_entry slot_list_setitem hl.typeIs entry_list_setitem ?_ (args_list_setitem _ _ _)))
  show wpAny _ _ (Builtin.List.listSubscript? (.int k t) >>= _) _ _ s
  refine wpAny_bind (wpAny_listSubscript_int (fitsIndex_of h0 hfit) ?_)
  clear hfit
  obtain ⟨j, rfl⟩ := Int.eq_ofNat_of_zero_le h0
  have hj : j < vs.toArray.size := by simp only [List.size_toArray]; (first | decide | exact Nat.le_trans (by assumption) (by decide) | lia | omega)
  have hx' : vs.toArray[j]? = some vs.toArray[j] := Array.getElem?_eq_getElem hj
  show wpAny _ _ ((seqItemAt D j >>= fun r => pure (r.map (j, ·))) >>= _) _ _ s
  refine wpAny_bind (wpAny_bind (wpAny_seqItemAt ho hd (wpAny_pure ?_)))
  rw [hx']
  show wpAny _ _ (setSeqItemAt D j v >>= _) _ _ s
  obtain ⟨n', e⟩ := set_listObj vs n j v
  have hfin := Heap.get?_update_self (Obj.mapSeq (·.setIfInBounds j v)) ho (by rw [e]; rfl)
  rw [e] at hfin
  have rset : RVs fz (l.set j x) (vs.set j v) := by
    have key : ∀ {l : List V} {vs : List Value}, RVs fz l vs → ∀ j : Nat, RVs fz (l.set j x) (vs.set j v) := by
      intro l vs rs
      induction rs with
      | nil => intro j; exact .nil
      | cons h t ih => intro j; cases j with
        | zero => exact .cons r2 t
        | succ j => exact .cons h (ih j)
    exact key rs j
  have fin : Post W RU (fun _ => Q) fz () { s with heap := s.heap.update D (Obj.mapSeq (·.setIfInBounds j v)) } :=
    ⟨fz, (), own', .refl _, H.set (k := s.toks) u (Heap.SameBut.update ..) hfin ⟨_, _, rfl, by simpa using rset⟩, trivial, h⟩
  refine wpAny_bind (wpAny_setSeqItemAt ho hd ?_)
  first
    | exact wpAny_bind (wpAny_pure (wpAny_pure ⟨.none, rfl, wpAny_pure fin⟩))
    | exact wpAny_pure ⟨.none, rfl, wpAny_pure fin⟩
theorem SX_AssignSub {o i value : Expr} {pos' pos : Pos} {Q : Fl → Own → Prop}
    (h : SE W A env value own fun x o1 => SE W A env o o1 fun a o2 => SE W A env i o2 fun b o3 => ∃ D, a = .ref D ∧ S2 W A RU (fun i v => setItem (.ref D) i v) b x o3 fun _ o4 => Q .next o4)
    (hs : swapsWith value (some (.Subscript o i pos')) pos.line env = pure false := by rfl) : SX W A env (.Assign [.Subscript o i pos'] value pos) own Q := fun fz s H ht => by
  refine wpAny_Assign_Subscript (wp_then (h fz s H ht) ht fun fz1 va a o1 s1 k1 H1 t1 r1 q1 => wp_then (q1 fz1 s1 H1 t1) t1 fun fz2 vb b o2 s2 k2 H2 t2 r2 q2 => wp_then (q2 fz2 s2 H2 t2) t2 fun fz3 vc c o3 s3 k3 H3 t3 r3 q3 => ?_) hs
  obtain ⟨D, rfl, q3⟩ := q3
  cases r2.val_inv
  refine wp_then (q3 fz3 s3 vc va H3 t3 r3 (r1.mono (k2.trans k3))) t3 fun fz4 _ _ o4 s4 k4 H4 t4 _ q4 => ?_
  exact ⟨fz4, _, o4, k1.trans (k2.trans (k3.trans k4)), H4, .next, q4⟩
theorem get_own {D : Addr} {l : List V} {k : Int} {x : V} {Q : V → Own → Prop} (hm : (D, Ob.list l) ∈ own) (h0 : 0 ≤ k) (hk : k < (l.length : Int)) (hz : l.length ≤ sizeLine) (hx : l[k.toNat]? = some x) (h : Q x own) : S2 W A RV getItem (.ref D) (.int k) own Q := fun fz s v u H ht r1 r2 => by
  cases r1.val_inv
  obtain ⟨t, rfl⟩ := r2.int_inv
  obtain ⟨ob, ho, vs, n, rfl, rs⟩ := H.get hm
  obtain ⟨y, e, r⟩ := rs.get hx
  have hlen := rs.length
  rw [sizeLine_eq] at hz
  have hl' : s.heap.IsList D vs.toArray := ⟨_, ho, rfl, n, rfl⟩
  exact wpAny_getItem_list hl' h0 (by (first | decide | exact Nat.le_trans (by assumption) (by decide) | lia | omega)) (by simpa using e) ⟨fz, _, own, .refl _, H, r, h⟩
theorem SX_AugSub {o i value : Expr} {pos' pos : Pos} {op : Operator} {Q : Fl → Own → Prop}
    (h : SE W A env o own fun a o1 => SE W A env i o1 fun b o2 => S2 W A RV getItem a b o2 fun x o3 => SE W A env value o3 fun y o4 => S2 W A RV (inplaceOp op) x y o4 fun z o5 => ∃ D, a = .ref D ∧ S2 W A RU (fun i v => setItem (.ref D) i v) b z o5 fun _ o6 => Q .next o6)
    (ha : ∀ ov iv new, augStore i ov iv new = (do holding [new, ov, iv] (setItem ov iv new); release [new, ov, iv] []; pure .next) := by intro _ _ _; rfl) : SX W A env (.AugAssign (.Subscript o i pos') op value pos) own Q := fun fz s H ht => by
  refine wpAny_AugAssign_Subscript_any (wp_then (h fz s H ht) ht fun fz1 va a o1 s1 k1 H1 t1 r1 q1 => wp_then (q1 fz1 s1 H1 t1) t1 fun fz2 vb b o2 s2 k2 H2 t2 r2 q2 => wp_then (q2 fz2 s2 va vb H2 t2 (r1.mono k2) r2) t2 fun fz3 vc c o3 s3 k3 H3 t3 r3 q3 =>
    wp_then (q3 fz3 s3 H3 t3) t3 fun fz4 vd d o4 s4 k4 H4 t4 r4 q4 => wp_then (q4 fz4 s4 vc vd H4 t4 (r3.mono k4) r4) t4 fun fz5 ve e o5 s5 k5 H5 t5 r5 q5 => ?_) ha
  obtain ⟨D, rfl, q5⟩ := q5
  cases r1.val_inv
  refine wp_then (q5 fz5 s5 vb ve H5 t5 (r2.mono (k3.trans (k4.trans k5))) r5) t5 fun fz6 _ _ o6 s6 k6 H6 t6 _ q6 => ?_
  exact ⟨fz6, _, o6, k1.trans (k2.trans (k3.trans (k4.trans (k5.trans k6)))), H6, .next, q6⟩
/-! ### a list of one's own compared -/
theorem own_reads {fz : Heap} {s : Shared} (H : Hold W fz own s) {D : Addr} {ds : List PyData} (hm : (D, Ob.list (ds.map V.dat)) ∈ own) : ∃ as, Reads s.heap (.ref D) (.list ds) as := by
  obtain ⟨o, ho, vs, n, rfl, rs⟩ := H.get hm
  obtain ⟨as, ra⟩ := (rs.mono H.has).reads
  exact ⟨_, .list ho rfl rfl (by simpa using ra)⟩
theorem cmp_eqON {D : Addr} {ds : List PyData} {Q : V → Own → Prop} (hm : (D, Ob.list (ds.map V.dat)) ∈ own) (ok : Ok 60 (.list ds)) (hu : A.units + 64 < cLine) (h : Q (.bool (decide (ds = []))) own) : S2 W A RV (compareOp .Eq) (.ref D) (.lst []) own Q := fun fz s v u H _ r1 r2 => by
  cases r1.val_inv
  obtain ⟨as, ra⟩ := own_reads H hm
  cases r2 with | dat r2 =>
  refine SeqAt.compareEq_reads ra (Reads.keeps H.has r2) ok.1 rfl (by have := ok.2; (first | decide | exact Nat.le_trans (by assumption) (by decide) | lia | omega)) ?_
  have e : PyData.eqv (.list ds) (.list []) = decide (ds = []) := by cases ds <;> rfl
  rw [e]
  exact at_tok H _ (.dat (.bool _)) h
/-! ### a list repeated, to be turned later -/
theorem op_mulLO {a : List PyData} {x : Int} {Q : V → Own → Prop} (hlo : -(2 ^ 63 : Int) ≤ x) (hhi : x < 2 ^ 63) (hz : a.length * x.toNat ≤ 2 ^ 24) (h : ∀ D, Q (.ref D) ((D, .list (((List.replicate x.toNat a).flatten).map V.dat)) :: own)) : S2 W A RV (binaryOp .Mult) (.lst a) (.int x) own Q := fun fz s v u' H ht r1 r2 => by
  obtain ⟨l, vs, rfl, hl, rs⟩ := r1.lst_inv
  obtain ⟨u, rfl⟩ := r2.int_inv
  have h1 := rs.length
  rw [List.length_map] at h1
  have q1 : vs.toList.length = vs.size := Array.length_toList
  obtain ⟨⟨cls, d, data, sl⟩, ho, hcl, k, hd⟩ := IsList_keep hl H.has
  simp only at hcl hd
  subst hcl hd
  have hsz' : vs.size * x.toNat ≤ 2 ^ 24 := by rw [← q1, ← h1]; exact hz
  refine wpAny_binaryOp_repeat_ref (T := "list") (U := "int") (by decide) ⟨_, ho, rfl⟩ (fun s' => typeIs_int s' x u) noFill_list_mul F.fills_int_mul F.slot_int_rmul repeat_list F.slot_int_index.lookup
    (call_meets F.slot_int_rmul (typeIs_int s x u) F.entry_int_rmul (F.args_int_rmul_2 _ _) (lm_int_rmul_list_any x u l vs k d sl)
      ⟨ho, rfl, ⟨_, ho, rfl⟩, call_meets F.slot_list_mul ⟨_, ho, rfl⟩ F.entry_list_mul (F.args_list_mul_2 _ _)
        (lm_list_mul_any l vs k d sl x u (by simp [Builtin.List.listFitsIndex]; (first | decide | exact Nat.le_trans (by assumption) (by decide) | lia | omega)) (by (first | decide | exact Nat.le_trans (by assumption) (by decide) | lia | omega)) (by simp [Builtin.List.listTooLong, sizeLine]; (first | decide | exact Nat.le_trans (by assumption) (by decide) | lia | omega)))
        ⟨ho, ?_⟩⟩)
  have e : vs = vs.toList.toArray := by simp
  rw [e, listMul_foldl_if]
  have rr : RVs fz (((List.replicate x.toNat a).flatten).map V.dat) (List.replicate x.toNat vs.toList).flatten := by
    have := rvs_rep rs x.toNat
    have e2 : ((List.replicate x.toNat a).flatten).map V.dat = (List.replicate x.toNat (a.map V.dat)).flatten := by rw [List.map_flatten, List.map_replicate]
    rw [e2]; exact this
  exact ⟨fz, _, _, .refl _, H.new (ob := .list (((List.replicate x.toNat a).flatten).map V.dat)) (k := s.toks) (Keep.push _ _) (get?_ge (Nat.le_refl _)) (Heap.get?_push_size _ rfl) ⟨_, _, rfl, rr⟩, .val _, h _⟩
end
section
variable {W : Wd} {A : Around} {env : Env} {own : Own}
/-! ### an iterator over a list of one's own -/
noncomputable def OItP (D : Addr) (i : Nat) : Heap → Obj → Prop := fun _ o => o.cls = .type "list_iterator" ∧ o.data = .fields #[.ref D, .int i 0]
noncomputable abbrev oit (D : Addr) (i : Nat) : Ob := .prop (OItP D i)
theorem iter_own {D : Addr} {l : List V} {Q : V → Own → Prop} (hm : (D, Ob.list l) ∈ own) (h : ∀ it, Q (.ref it) ((it, oit D 0) :: own)) : S1 W A RV pyIter (.ref D) own Q := fun fz s v H ht r => by
  cases r.val_inv
  obtain ⟨o, ho, vs, n, rfl, rs⟩ := H.get hm
  refine wpAny_pyIter_list (l := D) (items := vs.toArray) ⟨_, ho, rfl, n, rfl⟩ ?_
  exact ⟨fz, _, _, .refl _, H.new (ob := oit D 0) (k := s.toks) (Keep.push _ _) (get?_ge (Nat.le_refl _)) (Heap.get?_push_size _ rfl) ⟨fz, .refl _, rfl, rfl⟩, .val _, h _⟩
theorem oit_some {it D : Addr} {i : Nat} {l : List V} {x : V} {fz : Heap} {s : Shared} {own' : Own} {P : Option Value → Shared → Prop} (H : Hold W fz own s) (u : Upd it (oit D i) (oit D (i + 1)) own own') (hm : (D, Ob.list l) ∈ own) (hx : l[i]? = some x)
    (q : ∀ v s', Hold W fz own' s' → s.toks ≤ s'.toks → RV fz x v → P (some v) s') : wpAny (model W.prog W.w) A (pyNext (.ref it)) P NoX s := by
  obtain ⟨o, ho, fz₀, k, hc, hd⟩ := H.get u.mem
  obtain ⟨ol, hol, vs, n, rfl, rs⟩ := H.get hm
  obtain ⟨v, e, rx⟩ := rs.get hx
  refine wpAny_pyNext_list_item (l := D) (i := i) (items := vs.toArray) ⟨o, ho, hc, hd⟩ ⟨_, hol, rfl, n, rfl⟩ (by simpa using e) fun h' ⟨o', ho', hc', hd'⟩ hs' => ?_
  exact q v _ (H.set (k := s.toks) u hs' ho' ⟨fz₀, k, hc', hd'⟩) (Nat.le_refl _) rx
theorem oit_none {it D : Addr} {i : Nat} {l : List V} {fz : Heap} {s : Shared} {P : Option Value → Shared → Prop} (hh : A.handled = none) (H : Hold W fz ((it, oit D i) :: own) s) (hm : (D, Ob.list l) ∈ own) (hx : l[i]? = none)
    (q : ∀ s', Hold W fz own s' → s.toks ≤ s'.toks → P none s') : wpAny (model W.prog W.w) A (pyNext (.ref it)) P NoX s := by
  obtain ⟨o, ho, fz₀, k, hc, hd⟩ := H.get List.mem_cons_self
  obtain ⟨ol, hol, vs, n, rfl, rs⟩ := H.get (List.mem_cons_of_mem _ hm)
  have hlen := rs.length
  have hx' : vs[i]? = none := by
    rw [List.getElem?_eq_none_iff] at hx ⊢; (first | decide | exact Nat.le_trans (by assumption) (by decide) | lia | omega)
  refine wpAny_pyNext_list_end hh (l := D) (i := i) (items := vs.toArray) ⟨o, ho, hc, hd⟩ ⟨_, hol, rfl, n, rfl⟩ (by simpa using hx') fun h' he => ?_
  exact q _ (H.extBut (k := s.toks) he) (Nat.le_refl _)
theorem oit_self {fz : Heap} {s : Shared} {it D : Addr} {i : Nat} {Q : Value → Shared → Prop} {E : Value → Shared → Prop} (H : Hold W fz own s) (hm : (it, oit D i) ∈ own) (h : Q (.ref it) s) : wpAny (model W.prog W.w) A (pyIter (.ref it)) Q E s := by
  obtain ⟨o, ho, fz₀, k, hc, _⟩ := H.get hm
  have hT : s.TypeIs (.ref it) "list_iterator" := ⟨o, ho, hc⟩
  refine wpAny_pyIter_slot hT slot_listiter_iter (wpAny_call_entry slot_listiter_iter hT entry_listiter_iter ?_ (args_listiter_iter _))
  show wpAny _ _ (ret (.ref it)) _ _ s
  exact wpAny_pure ⟨_, rfl, "list_iterator", _, hT, slot_listiter_next.lookup, h⟩
/-! ### a comprehension, turn by turn, whose items may be made things -/
/-- a clause's loop, its iterator any -/
noncomputable def CLX (W : Wd) (A : Around) (e : Expr) (d : Nat) (D : Addr) (cenv : Env) (it : Addr) (ob : Ob) (own : Own) (Q : Own → Prop) : Prop :=
  ∀ fz s, Hold W fz ((it, ob) :: own) s → W.tk ≤ s.toks → codeAny (model W.prog W.w) A (.compLoop e d (.ref it) (.ref D) cenv)
    (fun r s' => match r with | .ok _ => ∃ fz' own', Keep fz fz' ∧ Hold W fz' own' s' ∧ W.tk ≤ s'.toks ∧ Q own' | .error _ => False) s
theorem let_goT {prog : Program} {w : World} {E : Value → Shared → Prop} {s : Shared} {o : Obj} {it : Addr} {n : String} {v : Value} {target : Expr} {Q : Unit → Shared → Prop} (ho : s.heap.get? it = some o) (hc : o.cls = .type n)
    (hn : ["enumerate", "zip", "dict_itemiterator", "dict_reverseitemiterator", "odict_iterator", "itertools.zip_longest", "itertools.pairwise"].contains n = false) (h : Q () s) :
    wpAny (model prog w) A (letOwnedTupleGo target (.ref it) v) Q E s := by
  unfold letOwnedTupleGo
  have key : wpAny (model prog w) A (do
      let (.ref r, .ref a) := ((Value.ref it), v) | return
      let o ← load r
      match o.cls, o.data with
      | .type n, .fields vs =>
        if ["enumerate", "zip", "dict_itemiterator", "dict_reverseitemiterator", "odict_iterator", "itertools.zip_longest", "itertools.pairwise"].contains n && vs[0]? == some (rawInt a) then
          rule "for.unpacks-the-owned-tuple"
          updateField r 0 .none
      | _, _ => pure ()) Q E s := by
    cases v with
    | ref a =>
      show wpAny _ _ (load it >>= _) _ _ _
      refine wpAny_bind (wpAny_load ho ?_)
      obtain ⟨c, d, dt, sl⟩ := o
      cases hc
      cases dt <;> first
        | exact wpAny_pure h
        | (dsimp only; rw [hn, Bool.false_and, if_neg Bool.false_ne_true]; exact wpAny_pure h)
    | _ => exact wpAny_pure h
  cases target <;> first | exact key | exact wpAny_pure h
/-- what the iterator gives next, and what is left -/
noncomputable def Steps (W : Wd) (A : Around) (it : Addr) (ob : Ob) (own : Own) (x : V) (ob' : Ob) : Prop := ∀ fz s, Hold W fz ((it, ob) :: own) s → ∀ P : Option Value → Shared → Prop,
  (∀ v s' o, Hold W fz ((it, ob') :: own) s' → s.toks ≤ s'.toks → RV fz x v → s'.heap.get? it = some o → (∃ n, o.cls = .type n ∧ ["enumerate", "zip", "dict_itemiterator", "dict_reverseitemiterator", "odict_iterator", "itertools.zip_longest", "itertools.pairwise"].contains n = false) → P (some v) s') → wpAny (model W.prog W.w) A (pyNext (.ref it)) P NoX s
noncomputable def Stops (W : Wd) (A : Around) (it : Addr) (ob : Ob) (own : Own) : Prop := ∀ fz s, Hold W fz ((it, ob) :: own) s → ∀ P : Option Value → Shared → Prop, (∀ s', Hold W fz own s' → s.toks ≤ s'.toks → P none s') → wpAny (model W.prog W.w) A (pyNext (.ref it)) P NoX s
theorem steps_it {it : Addr} {x : V} {l : List V} : Steps W A it (.it (x :: l)) own x (.it l) := fun fz s H P q => next_some H .here fun v s' H' t' rx => by
  obtain ⟨o, ho, hob⟩ := H'.get List.mem_cons_self
  exact q v s' o H' t' rx ho (it_cls hob)
theorem stops_it {it : Addr} (hh : A.handled = none) : Stops W A it (.it []) own := fun fz s H P q => next_none hh H q
theorem steps_own {it D : Addr} {i : Nat} {l : List V} {x : V} (hm : (D, Ob.list l) ∈ own) (hx : l[i]? = some x) : Steps W A it (oit D i) own x (oit D (i + 1)) := fun fz s H P q => oit_some H .here (List.mem_cons_of_mem _ hm) hx fun v s' H' t' rx => by
  obtain ⟨o, ho, _, _, hc, _⟩ := H'.get List.mem_cons_self
  exact q v s' o H' t' rx ho ⟨_, hc, by decide⟩
theorem stops_own {it D : Addr} {i : Nat} {l : List V} (hh : A.handled = none) (hm : (D, Ob.list l) ∈ own) (hx : l[i]? = none) : Stops W A it (oit D i) own := fun fz s H P q => oit_none hh H hm hx q
theorem CLX_step {elt target iter : Expr} {scope : Scope} {pos : Pos} {D : Addr} {cenv : Env} {it : Addr} {ob ob' : Ob} {x : V} {Q : Own → Prop} (hst : Steps W A it ob own x ob')
    (turn : SA W A cenv target x ((it, ob') :: own) fun o1 => SE W A cenv elt o1 fun a o2 => ∃ o2' ys o3 o', Wk o2 o2' ∧ Upd D (.list ys) (.list (ys ++ [a])) o2' o3 ∧ ys.length ≤ sizeLine ∧ o3.Perm ((it, ob') :: o') ∧ CLX W A (.ListComp elt [⟨target, iter, [], 0⟩] scope pos) 0 D cenv it ob' o' Q) :
    CLX W A (.ListComp elt [⟨target, iter, [], 0⟩] scope pos) 0 D cenv it ob own Q := fun fz s H ht => by
  refine codeAny_of_tree ?_
  rw [show A.under (.compLoop (.ListComp elt [⟨target, iter, [], 0⟩] scope pos) 0 (.ref it) (.ref D) cenv) = A from Around.under_of_weight rfl]
  show wpAny _ _ ((compTurn (.ListComp elt [⟨target, iter, [], 0⟩] scope pos) 0 (.ref it) (.ref D) cenv).onRaise (fun x => do noteFrame x cenv; theTreesLotGoes x)) _ _ s
  refine wpAny_onRaise (wpAny_mono (E := NoX) ?_ (fun _ _ q => q) fun _ _ x => x.elim)
  rw [turn_one]
  unfold turnSem
  refine wpAny_bind (wpAny_standAt (wpAny_bind (hst fz s H _ fun v s1 o1 H1 t1 rx ho hcl => ?_)))
  obtain ⟨n, hc, hn⟩ := hcl
  refine wpAny_bind (let_goT ho hc hn ?_)
  have tt := Nat.le_trans ht t1
  refine wpAny_bind (wp_then (turn fz s1 v H1 tt rx) tt fun fz2 _ _ o2 s2 k2 H2 t2 _ q2 => wpAny_bind (wpAny_tests_nil ?_))
  rw [if_pos rfl]
  unfold emitSem
  refine wpAny_bind (wpAny_bind (wp_then (q2 fz2 s2 H2 t2) t2 fun fz3 va a o3 s3 k3 H3 t3 r3 q3 => ?_))
  obtain ⟨o3', ys, o4, o', wk, u, hz, hp, cl⟩ := q3
  refine wpAny_bind (wp_then (do_append (Q := fun _ o => o = o4) u hz rfl fz3 s3 va (wk.hold H3) t3 r3) t3 fun fz4 _ _ o5 s4 k4 H4 t4 _ q4 => wpAny_pure ?_)
  subst q4
  refine wpAny_pure ⟨rfl, codeAny_mono (cl fz4 s4 (H4.perm hp) t4) fun r s' x => ?_⟩
  cases r with
  | ok f => obtain ⟨fz', own', k, rest⟩ := x; exact ⟨fz', own', k2.trans (k3.trans (k4.trans k)), rest⟩
  | error e => exact x.elim
theorem CLX_stop {elt target iter : Expr} {scope : Scope} {pos : Pos} {D : Addr} {cenv : Env} {it : Addr} {ob : Ob} {Q : Own → Prop} (hst : Stops W A it ob own) (h : Q own) : CLX W A (.ListComp elt [⟨target, iter, [], 0⟩] scope pos) 0 D cenv it ob own Q := fun fz s H ht => by
  refine codeAny_of_tree ?_
  rw [show A.under (.compLoop (.ListComp elt [⟨target, iter, [], 0⟩] scope pos) 0 (.ref it) (.ref D) cenv) = A from Around.under_of_weight rfl]
  show wpAny _ _ ((compTurn (.ListComp elt [⟨target, iter, [], 0⟩] scope pos) 0 (.ref it) (.ref D) cenv).onRaise (fun x => do noteFrame x cenv; theTreesLotGoes x)) _ _ s
  refine wpAny_onRaise (wpAny_mono (E := NoX) ?_ (fun _ _ q => q) fun _ _ x => x.elim)
  rw [turn_one]
  unfold turnSem
  refine wpAny_bind (wpAny_standAt (wpAny_bind (hst fz s H _ fun s1 H1 t1 => wpAny_pure ?_)))
  exact ⟨fz, own, .refl _, H1, Nat.le_trans ht t1, h⟩
theorem compStart_self {e : Expr} {d : Nat} {g : Comprehension} {it : Addr} {acc : Value} {cenv : Env} {s : Shared} {R : Result → Shared → Prop} (hself : ∀ (Q : Value → Shared → Prop) (E : Value → Shared → Prop), Q (.ref it) s → wpAny (model W.prog W.w) A (pyIter (.ref it)) Q E s)
    (hu : A.under (.compStart e d (.ref it) acc cenv) = A) (hg : (clausesOf e)[d]? = some g) (ha : (g.is_async != 0) = false)
    (hden : denote table (.compStart e d (.ref it) acc cenv) = (compStart e d (.ref it) acc cenv).onRaise (fun x => do noteFrame x cenv; standAt theWindowsPlace))
    (h : codeAny (model W.prog W.w) A (.compLoop e d (.ref it) acc cenv) R s) : codeAny (model W.prog W.w) A (.compStart e d (.ref it) acc cenv) R s := by
  refine codeAny_of_tree ?_
  rw [hu]
  show wpAny _ _ (denote table (.compStart e d (.ref it) acc cenv)) _ _ s
  rw [hden]
  refine wpAny_onRaise (wpAny_mono (E := NoX) ?_ (fun _ _ q => q) fun _ _ x => x.elim)
  unfold compStart
  rw [hg]
  simp only [Option.elim, ha, Bool.false_eq_true, if_false]
  refine wpAny_bind (wpAny_askSetting (wpAny_ite ?_))
  split
  · first
      | exact wpAny_bind (wpAny_pure (wpAny_pure (And.intro rfl h)))
      | exact wpAny_pure (And.intro rfl h)
  · exact wpAny_bind (wpAny_rule (wpAny_bind (wpAny_standAt (wpAny_bind (hself _ _ (wpAny_pure (And.intro rfl h)))))))
/-- what a comprehension of made things wants of its source -/
noncomputable def SelfIt (W : Wd) (A : Around) (it : Addr) (ob : Ob) : Prop := ∀ (fz : Heap) (own : Own) (s : Shared) (Q : Value → Shared → Prop) (E : Value → Shared → Prop), Hold W fz own s → (it, ob) ∈ own → Q (.ref it) s → wpAny (model W.prog W.w) A (pyIter (.ref it)) Q E s
theorem self_it {it : Addr} {l : List V} : SelfIt W A it (.it l) := fun fz own s Q E H hm h => it_self H hm h
theorem self_oit {it D : Addr} {i : Nat} : SelfIt W A it (oit D i) := fun fz own s Q E H hm h => oit_self H hm h
noncomputable abbrev CompsX (W : Wd) (A : Around) (env : Env) (e : Expr) (scope : Scope) (cl : List (Str × Addr)) (Fin : Addr → Addr → Own → Prop) (b : V) (o : Own) : Prop :=
  ∃ it ob o3, b = .ref it ∧ o = (it, ob) :: o3 ∧ SelfIt W A it ob ∧ ∀ C D, CLX W A e 0 D (cEnv scope cl C env) it ob ((C, .ns []) :: (D, .list []) :: o3) (Fin C D)
theorem comp_madeX {e : Expr} {scope : Scope} {cl : List (Str × Addr)} {Fin : Addr → Addr → Own → Prop} {b : V} {g : Comprehension} {gs : List Comprehension} {elt : Expr} {pos : Pos} {fz : Heap} {s : Shared} {RR : Value → Addr → Result → Shared → Prop} {vb : Value}
    (he : e = .ListComp elt (g :: gs) scope pos) (ha : (g.is_async != 0) = false) (hcell : ∀ y ∈ scope.names, y.2 ≠ .cell) (hkind : scope.kind = .function)
    (H : Hold W fz own s) (ht : W.tk ≤ s.toks) (r : RV fz b vb) (q : CompsX W A env e scope cl Fin b own)
    (hR : ∀ C D fz' o s', Keep fz fz' → Hold W fz' o s' → W.tk ≤ s'.toks → Fin C D o → RR (.ref D) C (.ok .next) s') (hok : ∀ acc C f s', RR acc C (.ok .next) s' → RR acc C (.ok f) s') :
    wpAny (model W.prog W.w) A (newList []) (fun acc s₃ => wpAny (model W.prog W.w) A (newFunctionEnv scope env.globals cl [] env.qual none .none (some env)) (fun cenv s₄ =>
      codeAny (model W.prog W.w) A (.compStart e 0 vb acc { cenv with scope := relabel scope env }) (RR acc cenv.locals) s₄) NoX s₃) NoX s := by
  obtain ⟨it, ob, o3, rfl, rfl, hself, core⟩ := q
  cases r.val_inv
  subst he
  refine wpAny_newObj_type (wpAny_newFunctionEnv hcell (by intro y hy; simp at hy) (fun h₁ hns₁ hsb₁ => ?_) hkind)
  dsimp only at hns₁ hsb₁ ⊢
  have H₁ : Hold W fz ((s.heap.objs.size, .list []) :: (it, ob) :: o3) { s with heap := s.heap.push (listObj [] 0), toks := s.toks } := H.new (Keep.push _ _) (get?_ge (Nat.le_refl _)) (Heap.get?_push_size _ rfl) ⟨[], 0, rfl, .nil⟩
  obtain ⟨o, ho, hob⟩ := of_ns (fz := fz) (loc := []) hns₁ (fun p hp => (nomatch hp))
  have hk₁ : Keep (s.heap.push (listObj [] 0)) h₁ := fun b o e => hsb₁.extBut b o (Nat.ne_of_lt (Heap.lt_size e)) (Heap.get?_push_of_some _ e)
  have H₂ : Hold W fz (((s.heap.push (listObj [] 0)).objs.size, .ns []) :: (s.heap.objs.size, .list []) :: (it, ob) :: o3) { s with heap := h₁, toks := s.toks } :=
    H₁.new (k := s.toks) hk₁ (get?_ge (Nat.le_refl _)) ho hob
  have H₃ := H₂.perm (own' := (it, ob) :: ((s.heap.push (listObj [] 0)).objs.size, .ns []) :: (s.heap.objs.size, .list []) :: o3)
    ((List.Perm.cons _ (List.Perm.swap ..)).trans (List.Perm.swap ..))
  refine compStart_self (fun Q E hq => hself fz _ _ Q E (H₃ : Hold W fz _ { s with heap := h₁, toks := s.toks + ([] : List (Str × Value)).length }) List.mem_cons_self hq) (Around.under_of_weight rfl) rfl ha rfl ?_
  refine codeAny_mono (core (s.heap.push (listObj [] 0)).objs.size s.heap.objs.size fz _ H₃ ht) fun r s' x => ?_
  cases r with
  | ok f => obtain ⟨fz', own', k, H', t', i⟩ := x; exact hok _ _ _ _ (hR _ _ fz' own' s' k H' t' i)
  | error e => exact x.elim
theorem SE_CompX {elt target iter : Expr} {ifs : List Expr} {gs : List Comprehension} {scope : Scope} {pos : Pos} {cl : List (Str × Addr)} {Q : V → Own → Prop}
    (hclos : closureFor scope env = pure cl) (hcell : ∀ y ∈ scope.names, y.2 ≠ .cell) (hkind : scope.kind = .function) (hnames : ∀ y ∈ scope.names, y.2 = .local → scope.names.lookup y.1 = some .local)
    (h : SE W A env iter own fun a o1 => S1 W A RV pyIter a o1 (CompsX W A env (.ListComp elt (⟨target, iter, ifs, 0⟩ :: gs) scope pos) scope cl fun C D o => ∃ o' ys o4, Wk o o' ∧ o'.Perm ((C, .ns []) :: (D, .list ys) :: o4) ∧ Q (.ref D) ((D, .list ys) :: o4)))
    (hs : ∀ x, foldedSetIterable iter env x = pure x := by intro _; rfl) : SE W A env (.ListComp elt (⟨target, iter, ifs, 0⟩ :: gs) scope pos) own Q := fun fz s H ht => by
  unfold At
  rw [eval_ListComp]
  refine wpAny_comprehension_free (use := none) rfl hs hclos hkind hnames (wp_then (h fz s H ht) ht fun fz1 va a o1 s1 k1 H1 t1 r1 q1 => wp_then (q1 fz1 s1 va H1 t1 r1) t1 fun fz2 vb b o2 s2 k2 H2 t2 r2 q2 => ?_)
  refine comp_madeX (RR := fun acc C => compPost (model W.prog W.w) A NoX none _ acc C) rfl rfl hcell hkind H2 t2 r2 q2 (fun C D fz3 o s3 k3 H3 t3 fin => ?_) fun acc C f s' x => x
  obtain ⟨o', ys, o4, wk, hp, q⟩ := fin
  have H4 := (wk.hold H3).perm hp
  obtain ⟨oC, hoC, hns⟩ := H4.get List.mem_cons_self
  obtain ⟨m, hm, _⟩ := ns_of hoC hns
  exact ⟨m, hm, fun h' hs' => ⟨fz3, _, _, k1.trans (k2.trans k3), H4.sameBut hs', .val _, q⟩⟩
theorem SX_AssignCompX {y : Str} {py spos : Pos} {elt target iter : Expr} {ifs : List Expr} {gs : List Comprehension} {scope : Scope} {pos : Pos} {cl : List (Str × Addr)} {Q : Fl → Own → Prop}
    (hclos : closureFor scope env = pure cl) (hcell : ∀ y ∈ scope.names, y.2 ≠ .cell) (hkind : scope.kind = .function) (hnames : ∀ y ∈ scope.names, y.2 = .local → scope.names.lookup y.1 = some .local)
    (hsw : swapsWith (.ListComp elt (⟨target, iter, ifs, 0⟩ :: gs) scope pos) (some (.Name y py)) spos.line env = pure true)
    (h : SE W A env iter own fun a o1 => S1 W A RV pyIter a o1 (CompsX W A env (.ListComp elt (⟨target, iter, ifs, 0⟩ :: gs) scope pos) scope cl fun C D o =>
      ∃ o' ys o4, Wk o o' ∧ o'.Perm ((C, .ns []) :: (D, .list ys) :: o4) ∧ SS W A env y (.ref D) ((C, .ns []) :: (D, .list ys) :: o4) fun o5 => ∃ o6, Wk o5 ((C, .ns []) :: o6) ∧ Q .next o6))
    (hs : ∀ x, foldedSetIterable iter env x = pure x := by intro _; rfl) : SX W A env (.Assign [.Name y py] (.ListComp elt (⟨target, iter, ifs, 0⟩ :: gs) scope pos) spos) own Q := fun fz s H ht => by
  unfold At
  rw [exec_Assign_Name_used _ _ _ _ hsw]
  refine wpAny_bind (wpAny_standAt (wpAny_bind ?_))
  show wpAny _ A (do let _ ← comprehension (.ListComp elt (⟨target, iter, ifs, 0⟩ :: gs) scope pos) scope env _ (newList []) false (eval iter env) (some (assign (.Name y py) env))) _ _ s
  refine wpAny_bind (wpAny_mono (E := NoX) (wpAny_comprehension_free (use := some (assign (.Name y py) env)) (Q := fun _ s' => ∃ fz' own', Keep fz fz' ∧ Hold W fz' own' s' ∧ Q .next own') rfl hs hclos hkind hnames
    (wp_then (h fz s H ht) ht fun fz1 va a o1 s1 k1 H1 t1 r1 q1 => wp_then (q1 fz1 s1 va H1 t1 r1) t1 fun fz2 vb b o2 s2 k2 H2 t2 r2 q2 => ?_))
    (fun _ s' hq => wpAny_pure (wpAny_pure (by obtain ⟨fz', o', k, H', q⟩ := hq; exact ⟨fz', .next, o', k, H', .next, q⟩))) fun _ _ e => e)
  refine comp_madeX (RR := fun acc C => compPost (model W.prog W.w) A NoX (some (assign (.Name y py) env)) _ acc C) rfl rfl hcell hkind H2 t2 r2 q2 (fun C D fz3 o s3 k3 H3 t3 fin => ?_) fun acc C f s' x => x
  obtain ⟨o', ys, o4, wk, hp, q⟩ := fin
  have H4 := (wk.hold H3).perm hp
  refine wpAny_assign_Name (wp_then (q fz3 s3 _ H4 t3 (.val _)) t3 fun fz4 _ _ o5 s4 k4 H5 t4 _ q5 => ?_)
  obtain ⟨o6, wk6, q6⟩ := q5
  have H6 := wk6.hold H5
  obtain ⟨oC, hoC, hns⟩ := H6.get List.mem_cons_self
  obtain ⟨m, hm, _⟩ := ns_of hoC hns
  exact ⟨m, hm, fun h' hs' => ⟨fz4, _, k1.trans (k2.trans (k3.trans k4)), H6.sameBut hs', q6⟩⟩
/-! ### iter -/
theorem entry_iterB : entryFor table "iter" = some Builtin.«iter» := entryFor_of_fast (by kernel_rfl)
theorem args_iterB (a : Value) : argsOk "iter" ⟨[a], []⟩ := by unfold argsOk; kernel_rfl
theorem call_iter {l : List PyData} {Q : V → Own → Prop} (h : ∀ it, Q (.ref it) ((it, .prop (LItP (l.map V.dat))) :: own)) : SL W A RV (fun vs => call (.builtin "iter") vs) [.lst l] own Q := SL1 fun fz s v H ht r => by
  obtain ⟨a, vs, rfl, hl, rs⟩ := r.lst_inv
  refine PySem.Calls.call_function_entry (by decide +kernel) (by decide +kernel) entry_iterB (args_iterB _) ?_
  unfold Builtin.«iter»
  refine wpAny_bind (m := someArgs "iter" 1 2 _) (wpAny_of_eq (a := [Value.ref a]) (by first | rfl | kernel_rfl!) ?_)
  dsimp only
  refine wpAny_bind (wpAny_pyIter_list (IsList_keep hl H.has) (wpAny_pure ⟨_, rfl, ?_⟩))
  exact ⟨fz, _, _, .refl _, H.new (ob := .prop (LItP (l.map V.dat))) (k := s.toks) (Keep.push _ _) (get?_ge (Nat.le_refl _)) (Heap.get?_push_size _ rfl) ⟨fz, .refl _, rfl, .inl ⟨a, vs, 0, hl, by simpa using rs, rfl⟩⟩, .val _, h _⟩
end
section
variable {W : Wd} {A : Around} {env : Env} {own : Own}
/-! ### list(generator) -/
/-- the loop that fills a list from an iterator -/
noncomputable def XL (W : Wd) (A : Around) (S I : Addr) (res : Value) (own : Own) (l : List V) (Q : Own → Prop) : Prop :=
  ∀ fz s, Hold W fz ((S, .list l) :: own) s → W.tk ≤ s.toks → codeAny (model W.prog W.w) A (.builtin "list.extend.loop" ⟨[.ref S, .ref I, res], []⟩)
    (fun r s' => match r with | .ok f => f = .ret res ∧ ∃ fz' own', Keep fz fz' ∧ Hold W fz' own' s' ∧ W.tk ≤ s'.toks ∧ Q own' | .error _ => False) s
/-- what the iterator gives, or that it ends -/
noncomputable abbrev XLN (W : Wd) (A : Around) (S I : Addr) (res : Value) (fz : Heap) (l : List V) (Q : Own → Prop) : Option Value → Shared → Prop
  | some v, s' => ∃ fz' a o', Keep fz fz' ∧ Hold W fz' ((S, .list l) :: o') s' ∧ W.tk ≤ s'.toks ∧ RV fz' a v ∧ XL W A S I res o' (l ++ [a]) Q
  | none, s' => ∃ fz' o', Keep fz fz' ∧ Hold W fz' o' s' ∧ W.tk ≤ s'.toks ∧ Q o'
theorem XL_turn {S I : Addr} {res : Value} {l : List V} {Q : Own → Prop} (hz : l.length + 1 ≤ sizeLine)
    (h : ∀ fz s, Hold W fz ((S, .list l) :: own) s → W.tk ≤ s.toks → wpAny (model W.prog W.w) A.in1 (pyNext (.ref I)) (XLN W A S I res fz l Q) NoX s) : XL W A S I res own l Q := fun fz s H ht => by
  refine codeAny_builtin F.entry_extend_loop ?_
  rw [Around.under_plainId F.plain_extend_loop _]
  show wpAny _ A.in1 (pyNext (.ref I) >>= _) _ _ s
  refine wpAny_bind (wpAny_mono (E := NoX) (h fz s H ht) (fun r s' x => ?_) fun _ _ x => x.elim)
  cases r with
  | none =>
    obtain ⟨fz', o', k, H', t', q⟩ := x
    exact wpAny_pure ⟨rfl, fz', o', k, H', t', q⟩
  | some v =>
    obtain ⟨fz', a, o', k, H', t', rv, cl⟩ := x
    obtain ⟨ob, ho, vs, n, rfl, rs⟩ := H'.get List.mem_cons_self
    have hlen := rs.length
    show wpAny _ A.in1 (updateSeq S (·.push v) >>= _) _ _ _
    refine wpAny_bind ?_
    have hx := Heap.get?_update_self (Obj.mapSeq (·.push v)) ho rfl
    have H2 : Hold W fz' ((S, .list (l ++ [a])) :: o') { s' with heap := s'.heap.update S (Obj.mapSeq (·.push v)), toks := s'.toks } :=
      H'.set (k := s'.toks) (.here) (Heap.SameBut.update _ _ _) hx ⟨vs ++ [v], _, by simp [listObj, Obj.mapSeq]; rfl, rs.append (.cons rv .nil)⟩
    refine wpAny_updateSeq ho rfl (wpAny_pure ⟨plainId_quiet F.plain_extend_loop _, codeAny_mono (cl fz' _ H2 t') fun r s2 x => ?_⟩) ?_ ?_
    · cases r with
      | ok f => obtain ⟨e, fz2, o2, k2, rest⟩ := x; exact ⟨e, fz2, o2, k.trans k2, rest⟩
      | error e => exact x.elim
    · simp; (first | decide | exact Nat.le_trans (by assumption) (by decide) | lia | omega)
    · simp; (first | decide | exact Nat.le_trans (by assumption) (by decide) | lia | omega)
/-- list(generator): the loop does the work -/
theorem call_listG {ga : Addr} {g : Nat} {P : GenState → Prop} {Q : V → Own → Prop} (hm : (ga, Ob.gen g P) ∈ own)
    (h : ∀ S, XL W A.in1 S ga .none own [] fun o => Q (.ref S) o) : SL W A RV (fun vs => call (.type "list") vs) [.ref ga] own Q := SL1 fun fz s v H ht r => by
  cases r.val_inv
  refine callType_codes (Q₁ := fun obj s₁ => obj = .ref s.heap.objs.size ∧ s₁ = { s with heap := s.heap.push { cls := .type "list", data := .seq #[] } }) F.called_list (F.typeCall_list_1 _) F.entry_list_init
    (code_list_new _ ⟨rfl, rfl⟩) fun obj s₁ h₁ => ?_
  obtain ⟨rfl, rfl⟩ := h₁
  have hS : (s.heap.push { cls := .type "list", data := .seq #[] }).get? s.heap.objs.size = some { cls := .type "list", data := .seq #[] } := Heap.get?_push_size _ rfl
  have H₁ : Hold W fz ((s.heap.objs.size, .list []) :: own) { s with heap := s.heap.push { cls := .type "list", data := .seq #[] }, toks := s.toks } := H.new (Keep.push _ _) (get?_ge (Nat.le_refl _)) hS ⟨[], 0, rfl, .nil⟩
  refine ⟨⟨_, hS, rfl⟩, F.args_list_init_2 _ _, ?_⟩
  generalize hsz : s.heap.objs.size = S at *
  have hg := H₁.isGen (List.mem_cons_of_mem _ hm)
  have hSI : S ≠ ga := fun e => by
    have nd := H₁.nd
    rw [List.map_cons, List.nodup_cons] at nd
    exact nd.1 (List.mem_map.mpr ⟨_, hm, e.symm⟩)
  show wpAny _ _ (do let old ← Builtin.List.listItems (.ref S); Builtin.List.listUpdate (.ref S) (fun _ => #[]); letGo old.toList.reverse; Builtin.List.listExtendWith (.ref S) (.ref ga) .none) _ _ _
  refine wpAny_bind ?_
  unfold Builtin.List.listItems
  refine wpAny_bind (wpAny_seqItems hS rfl (wpAny_pure ?_))
  show wpAny _ _ (updateSeq S (fun _ => #[]) >>= fun _ => letGo (#[] : Array Value).toList.reverse >>= fun _ => Builtin.List.listExtendWith (.ref S) (.ref ga) .none) _ _ _
  refine wpAny_bind (wpAny_updateSeq hS rfl ?_)
  have hS₂ := Heap.get?_update_self (Obj.mapSeq (fun _ => (#[] : Array Value))) hS rfl
  have H₂ := H₁.set (k := s.toks) (ob' := .list []) .here (Heap.SameBut.update _ _ _) hS₂ ⟨[], _, rfl, .nil⟩
  have hg₂ := H₂.isGen (List.mem_cons_of_mem _ hm)
  refine wpAny_bind (wpAny_letGo ?_)
  unfold Builtin.List.listExtendWith
  refine wpAny_bind (wpAny_typeOf hg₂.typeIs ?_)
  have h1 : Builtin.List.listSameRef (.ref S) (.ref ga) = false := by simp [Builtin.List.listSameRef, hSI]
  have h2 : (Value.type "generator" == Value.type "list") = false := by decide
  have h3 : (Value.type "generator" == Value.type "tuple") = false := by decide
  simp only [h1, h2, h3, Bool.or_false, Bool.false_eq_true, if_false]
  refine wpAny_bind (wpAny_pyIter_gen hg₂ ?_)
  refine wpAny_bind (wpAny_holding ?_)
  unfold Builtin.List.listLengthHint
  refine wpAny_bind (wpAny_specialOf hg₂.typeIs F.gen_no_len ?_)
  show wpAny _ _ (specialOf (Value.ref ga) (Str.ofString "__length_hint__") >>= _) _ _ _
  refine wpAny_bind (wpAny_specialOf hg₂.typeIs F.gen_no_hint ?_)
  refine wpAny_pure ?_
  show wpAny _ _ (rule "list.extend.makes-room" >>= fun _ => Builtin.List.listTouch (.ref S) >>= fun _ =>
    again (.builtin "list.extend.loop" ⟨[.ref S, .ref ga, .none], []⟩)) _ _ _
  refine wpAny_bind (wpAny_rule ?_)
  refine wpAny_bind ?_
  show wpAny _ _ (updateSeq S (·.push .none) >>= fun _ => updateSeq S (·.pop)) _ _ _
  refine wpAny_bind (wpAny_updateSeq hS₂ rfl ?_)
  have hS₃ := Heap.get?_update_self (Obj.mapSeq (·.push Value.none)) hS₂ rfl
  have H₃ := H₂.set (k := s.toks) (ob' := .list [.none]) .here (Heap.SameBut.update _ _ _) hS₃ ⟨[.none], _, rfl, .cons (.dat .none) .nil⟩
  refine wpAny_updateSeq (hz := by seq_fits) hS₃ rfl ?_
  have hS₄ := Heap.get?_update_self (Obj.mapSeq (·.pop)) hS₃ rfl
  have H₄ := H₃.set (k := s.toks) (ob' := .list []) .here (Heap.SameBut.update _ _ _) hS₄ ⟨[], _, rfl, .nil⟩
  refine wpAny_pure ⟨plainId_quiet F.plain_extend_loop _, codeAny_mono (h S fz _ H₄ ht) fun r s2 x => ?_⟩
  cases r with
  | ok f =>
    obtain ⟨rfl, fz2, o2, k2, H5, t5, q⟩ := x
    exact ⟨rfl, fz2, _, o2, k2, H5, .val _, q⟩
  | error e => exact x.elim
/-- a list of data, read off a source, one's own -/
theorem SE_CompMapO {α : Type} {elt target iter : Expr} {ifs : List Expr} {scope : Scope} {pos : Pos} {cl : List (Str × Addr)} {Q : V → Own → Prop}
    (hh : A.handled = none) (hclos : closureFor scope env = pure cl) (hcell : ∀ y ∈ scope.names, y.2 ≠ .cell) (hkind : scope.kind = .function) (hnames : ∀ y ∈ scope.names, y.2 = .local → scope.names.lookup y.1 = some .local)
    (h : SE W A env iter own fun a o1 => S1 W A RV pyIter a o1 fun b o2 => ∃ it l o3, b = .ref it ∧ o2 = (it, .it l) :: o3 ∧ ∃ (g : α → V) (p : α → Bool) (out : α → PyData) (xs : List α), l = xs.map g ∧ xs.length ≤ sizeLine ∧
      (∀ C D, MapTurn W A (cEnv scope cl C env) target elt ifs g p out xs o3 C D) ∧ ∀ D, Q (.ref D) ((D, .list (((xs.filter p).map out).map V.dat)) :: o3))
    (hs : ∀ x, foldedSetIterable iter env x = pure x := by intro _; rfl) : SE W A env (.ListComp elt [⟨target, iter, ifs, 0⟩] scope pos) own Q := by
  refine SE_Comp hclos hcell hkind hnames (SG.mono h fun a o1 h1 => S1.mono h1 fun b o2 h2 => ?_) hs
  obtain ⟨it, l, o3, rfl, rfl, g, p, out, xs, rfl, hz, turn, q⟩ := h2
  exact ⟨it, _, o3, rfl, rfl, fun C D => CL_map hh hz (turn C D) ⟨_, _, .refl, q D⟩⟩
end
section
/-! ### a function's text, taken apart without its names -/
noncomputable def txtO : Option Obj → Option (Str × Scope × Value × List Stmt)
  | some o => match o.data with
    | .func f => match f.body with
      | .stmts b => some (f.qualname, f.scope, f.code, b)
      | _ => none
    | _ => none
  | none => none
noncomputable def nthS : List Stmt → Nat → Stmt
  | [], _ => .Pass default
  | s :: _, 0 => s
  | _ :: l, n + 1 => nthS l n
noncomputable def forT : Stmt → Expr | .For t _ _ _ _ => t | _ => .Name (Str.ofString "") default
noncomputable def forI : Stmt → Expr | .For _ i _ _ _ => i | _ => .Name (Str.ofString "") default
noncomputable def forB : Stmt → List Stmt | .For _ _ b _ _ => b | _ => []
noncomputable def forP : Stmt → Pos | .For _ _ _ _ p => p | _ => default
noncomputable def ifT : Stmt → Expr | .If t _ _ _ => t | _ => .Name (Str.ofString "") default
noncomputable def ifB : Stmt → List Stmt | .If _ b _ _ => b | _ => []
noncomputable def ifE : Stmt → List Stmt | .If _ _ e _ => e | _ => []
noncomputable def ifP : Stmt → Pos | .If _ _ _ p => p | _ => default
noncomputable def whT : Stmt → Expr | .While t _ _ _ => t | _ => .Name (Str.ofString "") default
noncomputable def whB : Stmt → List Stmt | .While _ b _ _ => b | _ => []
noncomputable def whP : Stmt → Pos | .While _ _ _ p => p | _ => default
noncomputable def clB : Stmt → List Stmt | .ClassDef _ _ _ b _ _ _ _ _ _ _ => b | _ => []
noncomputable def fdA : Stmt → Arguments | .FunctionDef _ a _ _ _ _ _ _ _ _ => a | _ => default
noncomputable def fdB : Stmt → List Stmt | .FunctionDef _ _ b _ _ _ _ _ _ _ => b | _ => []
noncomputable def fdS : Stmt → Scope | .FunctionDef _ _ _ _ _ _ s _ _ _ => s | _ => default
noncomputable def fdN : Stmt → Str | .FunctionDef n _ _ _ _ _ _ _ _ _ => n | _ => default
noncomputable def exS : Expr → Str | .Constant (.str s) _ _ => s | _ => default
noncomputable def asS : Stmt → Str | .Assign _ v _ => exS v | _ => default
/-- a function that stands in the program's text -/
noncomputable abbrev fnO (s : Stmt) (qual : Str) (dV kV doc pm : Value) (an : Option Addr) (cdv ct : Value) : Obj := { cls := .type "function", data := .func (fnOf (fdN s) qual (fdA s) (fdB s) (fdS s) dV kV doc pm an cdv ct) }
theorem len_1 {α β : Type} {l : List α} {a : β} (h : l.length = [a].length) : ∃ x, l = [x] := match l, h with | [x], _ => ⟨x, rfl⟩
theorem len_2 {α β : Type} {l : List α} {a b : β} (h : l.length = [a, b].length) : ∃ x y, l = [x, y] := match l, h with | [x, y], _ => ⟨x, y, rfl⟩
theorem len_3 {α β : Type} {l : List α} {a b c : β} (h : l.length = [a, b, c].length) : ∃ x y z, l = [x, y, z] := match l, h with | [x, y, z], _ => ⟨x, y, z, rfl⟩
theorem len_4 {α β : Type} {l : List α} {a b c d : β} (h : l.length = [a, b, c, d].length) : ∃ x y z u, l = [x, y, z, u] := match l, h with | [x, y, z, u], _ => ⟨x, y, z, u, rfl⟩
end
section
/-- the law's call, from the layer to the model -/
theorem join_law {prog : Program} {w : World} {s₁ : Shared} {K : Frag} {p : Program} {loose : List Str} {mean : ExcName → Option Value} {mg mb : Str → Option Value} {fa f a : Addr} {ns : List Int} {as : List Addr}
    (T : Top p loose mean mg mb s₁.heap) (KX : K.In s₁.heap) (hmg : mg (Str.ofString "law") = some (.ref fa)) (hg : s₁.gens = #[]) (hns : nsIn K mainGlobals (Str.ofString "law") = some (some (.ref f)))
    (r0 : Reads s₁.heap (.ref a) (.list (ns.map .int)) as)
    (h : ∀ W : Wd, W.w = w → W.K = K → SLC W callerA (.ref f) [.lst (ns.map .int)] [] (fun r _ => r = .bool true)) :
    codeAny (model prog w) callerA (.call (.ref fa) ⟨[.ref a], []⟩) (fun r s' => r = .ok (.ret (.bool true)) ∧ OldK s₁.heap s'.heap ∧ s'.os = s₁.os ∧ AllBare s'.gens) s₁ := by
  have e := mg_of KX T.g hns
  rw [hmg] at e
  cases e
  let W : Wd := { prog := prog, w := w, base := s₁.heap, os := s₁.os, K := K, p := p, loose := loose, mg := mg, mb := mb, kin := KX, top := topRead_of T, bm := T.bmain, tk := 0 }
  have H : Hold W s₁.heap [] s₁ := ⟨.refl _, .refl _, fun p hp => (nomatch hp), fun p hp => (nomatch hp), List.nodup_nil, .nil (.of_eq hg), rfl⟩
  refine codeAny_mono (h W rfl rfl s₁.heap s₁ [.ref a] H (Nat.zero_le _) (.cons (.dat r0) .nil)) fun r s' x => ?_
  rcases r with e | (v | _ | _ | _) <;> first | exact x.elim | skip
  obtain ⟨fz', b, own', k, H', rb, rfl⟩ := x
  rw [rb.bool_inv]
  exact ⟨rfl, .of_keep (k.trans H'.has), H'.os, H'.gens.bare⟩
end
noncomputable def lawS (i : Nat) : Stmt := nthS PySem.Challenge.pw_dm0066_01.main.body i
def nthQ : List Stmt → Nat → Stmt
  | [], _ => .Pass default
  | st :: _, 0 => st
  | _ :: l, n + 1 => nthQ l n
def lawQ (i : Nat) : Stmt := nthQ PySem.Challenge.pw_dm0066_01.main.body i
/-- the same program, its statements by their place -/
def pwP : Program := { PySem.Challenge.pw_dm0066_01 with main := { PySem.Challenge.pw_dm0066_01.main with body := [lawQ 0, lawQ 1, lawQ 2, lawQ 3, lawQ 4, lawQ 5, lawQ 6, lawQ 7, lawQ 8, lawQ 9, lawQ 10, lawQ 11, lawQ 12] } }
def rwP : OpenLaw := { prog := pwP, name := Str.ofString "law", about := [Str.ofString "HtmlDiff", Str.ofString "_line_wrapper"], foot := 4, most := some 63, bound := none, writes := false }
noncomputable def K1 (P : Params) : Frag := [(3, { cls := Value.type "dict", data := Data.dict #[{ hash := PyData.keyHash P (Str.ofString "__name__"), key := Value.str (Str.ofString "__name__") 165, val := Value.str (Str.ofString "law_dm0066_01") 371 }, { hash := PyData.keyHash P (Str.ofString "__doc__"), key := Value.str (Str.ofString "__doc__") 166, val := Value.none }, { hash := PyData.keyHash P (Str.ofString "__package__"), key := Value.str (Str.ofString "__package__") 167, val := Value.none }, { hash := PyData.keyHash P (Str.ofString "__loader__"), key := Value.str (Str.ofString "__loader__") 168, val := Value.builtin "__main__.__loader__#opaque" }, { hash := PyData.keyHash P (Str.ofString "__spec__"), key := Value.str (Str.ofString "__spec__") 169, val := Value.none }, { hash := PyData.keyHash P (Str.ofString "__annotations__"), key := Value.str (Str.ofString "__annotations__") 170, val := Value.ref 6 }, { hash := PyData.keyHash P (Str.ofString "__builtins__"), key := Value.str (Str.ofString "__builtins__") 171, val := Value.ref 4 }, { hash := PyData.keyHash P (Str.ofString "__file__"), key := Value.str (Str.ofString "__file__") 173, val := Value.str (Str.ofString "/claim/cut.py") 172 }, { hash := PyData.keyHash P (Str.ofString "__cached__"), key := Value.str (Str.ofString "__cached__") 174, val := Value.none }, { hash := PyData.keyHash P (Str.ofString "_wall"), key := Value.str (Str.ofString "_wall") 193, val := Value.ref 21 }, { hash := PyData.keyHash P (Str.ofString "IS_CHARACTER_JUNK"), key := Value.str (Str.ofString "IS_CHARACTER_JUNK") 204, val := Value.ref 29 }, { hash := PyData.keyHash P (Str.ofString "file_template_difflib"), key := Value.str (Str.ofString "file_template_difflib") 206, val := Value.str (asS (lawS 3)) 205 }, { hash := PyData.keyHash P (Str.ofString "styles_difflib"), key := Value.str (Str.ofString "styles_difflib") 208, val := Value.str (asS (lawS 4)) 207 }, { hash := PyData.keyHash P (Str.ofString "table_template_difflib"), key := Value.str (Str.ofString "table_template_difflib") 210, val := Value.str (asS (lawS 5)) 209 }, { hash := PyData.keyHash P (Str.ofString "legend_difflib"), key := Value.str (Str.ofString "legend_difflib") 212, val := Value.str (asS (lawS 6)) 211 }, { hash := PyData.keyHash P (Str.ofString "HtmlDiff"), key := Value.str (Str.ofString "HtmlDiff") 370, val := Value.ref 113 }, { hash := PyData.keyHash P (Str.ofString "_law_pieces"), key := Value.str (Str.ofString "_law_pieces") 386, val := Value.ref 124 }, { hash := PyData.keyHash P (Str.ofString "_law_due"), key := Value.str (Str.ofString "_law_due") 392, val := Value.ref 129 }, { hash := PyData.keyHash P (Str.ofString "_law_rows"), key := Value.str (Str.ofString "_law_rows") 398, val := Value.ref 134 }, { hash := PyData.keyHash P (Str.ofString "law"), key := Value.str (Str.ofString "law") 404, val := Value.ref 139 }] 20 }),
  (37, { cls := Value.type "tuple", data := Data.seq #[Value.int 8 231, Value.none, Value.none, Value.ref 29] }),
  (43, { cls := Value.type "code", data := Data.fields #[Value.str (Str.ofString "__init__") 232, Value.str (Str.ofString "HtmlDiff.__init__") 233, Value.str (Str.ofString "/claim/cut.py") 234, Value.int 18 0, Value.int 5 0, Value.int 0 0, Value.int 0 0, Value.int 3 0, Value.ref 38, Value.bool Bool.true, Value.int 181 0, Value.ref 39, Value.none, Value.ref 40, Value.ref 41, Value.ref 42, Value.int 240 0, Value.int 18 0, Value.str (Str.ofString "/claim/cut.py") 241] }),
  (44, fnO (nthS (clB (lawS 7)) 5) (Str.ofString "HtmlDiff.__init__") (Value.ref 37) (Value.none) (Value.none) (Value.str (Str.ofString "cpy313.difflib") 194) (none) (Value.ref 43) (Value.none)),
  (66, { cls := Value.type "code", data := Data.fields #[Value.str (Str.ofString "_split_line") 271, Value.str (Str.ofString "HtmlDiff._split_line") 272, Value.str (Str.ofString "/claim/cut.py") 273, Value.int 30 0, Value.int 4 0, Value.int 0 0, Value.int 0 0, Value.int 3 0, Value.ref 61, Value.bool Bool.true, Value.int 181 0, Value.ref 62, Value.none, Value.ref 63, Value.ref 64, Value.ref 65, Value.int 285 0, Value.int 30 0, Value.str (Str.ofString "/claim/cut.py") 286] }),
  (67, fnO (nthS (clB (lawS 7)) 8) (Str.ofString "HtmlDiff._split_line") (Value.none) (Value.none) (Value.none) (Value.str (Str.ofString "cpy313.difflib") 194) (none) (Value.ref 66) (Value.none)),
  (73, { cls := Value.type "code", data := Data.fields #[Value.str (Str.ofString "_line_wrapper") 288, Value.str (Str.ofString "HtmlDiff._line_wrapper") 289, Value.str (Str.ofString "/claim/cut.py") 290, Value.int 61 0, Value.int 2 0, Value.int 0 0, Value.int 0 0, Value.int 35 0, Value.ref 68, Value.bool Bool.true, Value.int 181 0, Value.ref 69, Value.none, Value.ref 70, Value.ref 71, Value.ref 72, Value.int 302 0, Value.int 61 0, Value.str (Str.ofString "/claim/cut.py") 303] }),
  (74, fnO (nthS (clB (lawS 7)) 9) (Str.ofString "HtmlDiff._line_wrapper") (Value.none) (Value.none) (Value.none) (Value.str (Str.ofString "cpy313.difflib") 194) (none) (Value.ref 73) (Value.none)),
  (112, { cls := Value.type "dict", data := Data.dict #[{ hash := PyData.keyHash P (Str.ofString "__module__"), key := Value.str (Str.ofString "__module__") 220, val := Value.str (Str.ofString "cpy313.difflib") 194 }, { hash := PyData.keyHash P (Str.ofString "__firstlineno__"), key := Value.str (Str.ofString "__firstlineno__") 224, val := Value.int 11 223 }, { hash := PyData.keyHash P (Str.ofString "_file_template"), key := Value.str (Str.ofString "_file_template") 225, val := Value.str (asS (lawS 3)) 205 }, { hash := PyData.keyHash P (Str.ofString "_styles"), key := Value.str (Str.ofString "_styles") 226, val := Value.str (asS (lawS 4)) 207 }, { hash := PyData.keyHash P (Str.ofString "_table_template"), key := Value.str (Str.ofString "_table_template") 227, val := Value.str (asS (lawS 5)) 209 }, { hash := PyData.keyHash P (Str.ofString "_legend"), key := Value.str (Str.ofString "_legend") 228, val := Value.str (asS (lawS 6)) 211 }, { hash := PyData.keyHash P (Str.ofString "_default_prefix"), key := Value.str (Str.ofString "_default_prefix") 230, val := Value.int 0 229 }, { hash := PyData.keyHash P (Str.ofString "__init__"), key := Value.str (Str.ofString "__init__") 242, val := Value.ref 44 }, { hash := PyData.keyHash P (Str.ofString "make_file"), key := Value.str (Str.ofString "make_file") 261, val := Value.ref 53 }, { hash := PyData.keyHash P (Str.ofString "_tab_newline_replace"), key := Value.str (Str.ofString "_tab_newline_replace") 270, val := Value.ref 60 }, { hash := PyData.keyHash P (Str.ofString "_split_line"), key := Value.str (Str.ofString "_split_line") 287, val := Value.ref 67 }, { hash := PyData.keyHash P (Str.ofString "_line_wrapper"), key := Value.str (Str.ofString "_line_wrapper") 304, val := Value.ref 74 }, { hash := PyData.keyHash P (Str.ofString "_collect_lines"), key := Value.str (Str.ofString "_collect_lines") 312, val := Value.ref 81 }, { hash := PyData.keyHash P (Str.ofString "_format_line"), key := Value.str (Str.ofString "_format_line") 323, val := Value.ref 88 }, { hash := PyData.keyHash P (Str.ofString "_make_prefix"), key := Value.str (Str.ofString "_make_prefix") 330, val := Value.ref 95 }, { hash := PyData.keyHash P (Str.ofString "_convert_flags"), key := Value.str (Str.ofString "_convert_flags") 342, val := Value.ref 102 }, { hash := PyData.keyHash P (Str.ofString "make_table"), key := Value.str (Str.ofString "make_table") 358, val := Value.ref 110 }, { hash := PyData.keyHash P (Str.ofString "__static_attributes__"), key := Value.str (Str.ofString "__static_attributes__") 363, val := Value.ref 111 }, { hash := PyData.keyHash P (Str.ofString "__dict__"), key := Value.str (Str.ofString "__dict__") 365, val := Value.ref 114 }, { hash := PyData.keyHash P (Str.ofString "__weakref__"), key := Value.str (Str.ofString "__weakref__") 367, val := Value.ref 115 }, { hash := PyData.keyHash P (Str.ofString "__doc__"), key := Value.str (Str.ofString "__doc__") 368, val := Value.none }] 4 }),
  (113, { cls := Value.type "type", data := Data.cls { name := Str.ofString "HtmlDiff", bases := [Value.type "object"], mro := [Value.ref 113, Value.type "object"], ns := 112, qualname := Str.ofString "HtmlDiff" }, slots := #[Option.some (Value.ref 30), none, Option.some (Value.str (Str.ofString "HtmlDiff") 213), Option.some (Value.str (Str.ofString "HtmlDiff") 221), Option.some (Value.builtin "object.__new__"), Option.some (Value.bool Bool.true)] }),
  (123, { cls := Value.type "code", data := Data.fields #[Value.str (Str.ofString "_law_pieces") 373, Value.str (Str.ofString "_law_pieces") 374, Value.str (Str.ofString "/claim/cut.py") 375, Value.int 96 0, Value.int 2 0, Value.int 0 0, Value.int 0 0, Value.int 3 0, Value.ref 118, Value.bool Bool.true, Value.int 181 0, Value.ref 119, Value.none, Value.ref 120, Value.ref 121, Value.ref 122, Value.int 384 0, Value.int 96 0, Value.str (Str.ofString "/claim/cut.py") 385] }),
  (124, fnO (lawS 9) (Str.ofString "_law_pieces") (Value.none) (Value.none) (Value.none) (Value.str (Str.ofString "law_dm0066_01") 371) (none) (Value.ref 123) (Value.none)),
  (128, { cls := Value.type "code", data := Data.fields #[Value.str (Str.ofString "_law_due") 387, Value.str (Str.ofString "_law_due") 388, Value.str (Str.ofString "/claim/cut.py") 389, Value.int 107 0, Value.int 2 0, Value.int 0 0, Value.int 0 0, Value.int 3 0, Value.ref 125, Value.bool Bool.true, Value.int 181 0, Value.ref 126, Value.none, Value.none, Value.none, Value.ref 127, Value.int 390 0, Value.int 107 0, Value.str (Str.ofString "/claim/cut.py") 391] }),
  (129, fnO (lawS 10) (Str.ofString "_law_due") (Value.none) (Value.none) (Value.none) (Value.str (Str.ofString "law_dm0066_01") 371) (none) (Value.ref 128) (Value.none)),
  (133, { cls := Value.type "code", data := Data.fields #[Value.str (Str.ofString "_law_rows") 393, Value.str (Str.ofString "_law_rows") 394, Value.str (Str.ofString "/claim/cut.py") 395, Value.int 117 0, Value.int 1 0, Value.int 0 0, Value.int 0 0, Value.int 3 0, Value.ref 130, Value.bool Bool.true, Value.int 181 0, Value.ref 131, Value.none, Value.none, Value.none, Value.ref 132, Value.int 396 0, Value.int 117 0, Value.str (Str.ofString "/claim/cut.py") 397] }),
  (134, fnO (lawS 11) (Str.ofString "_law_rows") (Value.none) (Value.none) (Value.none) (Value.str (Str.ofString "law_dm0066_01") 371) (none) (Value.ref 133) (Value.none)),
  (138, { cls := Value.type "code", data := Data.fields #[Value.str (Str.ofString "law") 399, Value.str (Str.ofString "law") 400, Value.str (Str.ofString "/claim/cut.py") 401, Value.int 126 0, Value.int 1 0, Value.int 0 0, Value.int 0 0, Value.int 3 0, Value.ref 135, Value.bool Bool.true, Value.int 181 0, Value.ref 136, Value.none, Value.none, Value.none, Value.ref 137, Value.int 402 0, Value.int 126 0, Value.str (Str.ofString "/claim/cut.py") 403] }),
  (139, fnO (lawS 12) (Str.ofString "law") (Value.none) (Value.none) (Value.none) (Value.str (Str.ofString "law_dm0066_01") 371) (none) (Value.ref 138) (Value.none))]
section
variable {W : Wd} {A : Around} {env : Env} {own : Own}
theorem l01_0 : lit (Str.ofString "") = [] := by decide +kernel
theorem l01_1 : lit (Str.ofString "\x00") = [0] := by decide +kernel
theorem l01_2 : lit (Str.ofString "\x01") = [1] := by decide +kernel
theorem l01_3 : lit (Str.ofString ">") = [62] := by decide +kernel
theorem l01_4 : lit (Str.ofString "\n") = [10] := by decide +kernel
theorem l01_5 : lit (Str.ofString " ") = [32] := by decide +kernel
theorem l01_6 : lit (Str.ofString "+") = [43] := by decide +kernel
theorem l01_7 : lit (Str.ofString "-") = [45] := by decide +kernel
theorem l01_8 : lit (Str.ofString "^") = [94] := by decide +kernel
theorem l01_9 : lit (Str.ofString "on") = [111, 110] := by decide +kernel
noncomputable abbrev K01 (W : Wd) : Prop := W.K = K1 W.w.params

theorem cls01 (hK : K01 W) : ClsOk W.K 113 := by
  refine ⟨?_, ?_, ?_, ?_, ?_, ?_⟩ <;> rw [hK] <;> rfl
/-! ### the splitter -/
/-- the scan up to the column: signs taken, the rest, the mark -/
noncomputable def sgo : List Nat → Nat → List Nat → List Nat → List Nat × List Nat × List Nat
  | rest, 0, pre, mark => (pre, rest, mark)
  | [], _ + 1, pre, mark => (pre, [], mark)
  | [c], k + 1, pre, mark => if [c] = [0] then (pre, [c], mark) else if [c] = [1] then sgo [] (k + 1) (pre ++ [1]) [] else sgo [] k (pre ++ [c]) mark
  | c :: m :: r, k + 1, pre, mark => if [c] = [0] then sgo r (k + 1) (pre ++ [c, m]) [m] else if [c] = [1] then sgo (m :: r) (k + 1) (pre ++ [c]) [] else sgo (m :: r) k (pre ++ [c]) mark
/-- no mark's sign is left without what it says -/
noncomputable def sok : List Nat → Nat → Bool
  | _, 0 => true
  | [], _ + 1 => true
  | [c], _ + 1 => !decide ([c] = [0])
  | c :: m :: r, k + 1 => if [c] = [0] then sok r (k + 1) else if [c] = [1] then sok (m :: r) (k + 1) else sok (m :: r) k
noncomputable def fits (max : Nat) (text : List Nat) : Prop := (text.length : Int) ≤ max ∨ (text.length : Int) - (text.count 0 : Int) * 3 ≤ max
noncomputable def line1 (x : List Nat × List Nat × List Nat) : List Nat := if x.2.2 = [] then x.1 else x.1 ++ [1]
noncomputable def line2 (x : List Nat × List Nat × List Nat) : List Nat := if x.2.2 = [] then x.2.1 else [0] ++ x.2.2 ++ x.2.1
inductive Splits (max : Nat) : List Nat → List (List Nat) → Prop
  | last {text : List Nat} : fits max text → Splits max text [text]
  | cut {text : List Nat} {ps : List (List Nat)} : ¬ fits max text → sok text max = true → Splits max (line2 (sgo text max [] [])) ps → Splits max text (line1 (sgo text max [] []) :: ps)

noncomputable def rowsD (num : PyData) : List (List Nat) → List PyData
  | [] => []
  | p :: r => .tuple [num, .str (S p)] :: r.map fun q => .tuple [.str (S [62]), .str (S q)]
theorem rows_cons (num : PyData) (p : List Nat) (ps : List (List Nat)) (l : List V) : l ++ [V.tup [num, .str (S p)]] ++ (rowsD (.str (S [62])) ps).map V.dat = l ++ (rowsD num (p :: ps)).map V.dat := by
  have e : rowsD (.str (S [62])) ps = ps.map fun q => .tuple [.str (S [62]), .str (S q)] := by cases ps <;> rfl
  rw [e, List.append_assoc]; rfl

theorem cutL_pre (a b : List Nat) : cutL (a ++ b) none (some (a.length : Int)) = a := by
  unfold cutL
  simp only [Option.elim, clipAt_nat, List.drop_zero, Nat.sub_zero]
  rw [Nat.min_eq_left (by simp)]
  simp
theorem cutL_post (a b : List Nat) : cutL (a ++ b) (some (a.length : Int)) none = b := by
  unfold cutL
  simp only [Option.elim, clipAt_nat]
  rw [Nat.min_eq_left (by simp)]
  simp
theorem at_mid (a b : List Nat) (c : Nat) : (a ++ c :: b)[place (a.length : Int) (a ++ c :: b).length]? = some c := by
  unfold place
  rw [if_neg (by (first | decide | exact Nat.le_trans (by assumption) (by decide) | lia | omega))]
  simp
theorem at_mid2 (a b : List Nat) (c m : Nat) : (a ++ c :: m :: b)[place ((a.length : Int) + 1) (a ++ c :: m :: b).length]? = some m := by
  unfold place
  rw [if_neg (by (first | decide | exact Nat.le_trans (by assumption) (by decide) | lia | omega)), show ((a.length : Int) + 1).toNat = a.length + 1 by (first | decide | exact Nat.le_trans (by assumption) (by decide) | lia | omega), List.getElem?_append_right (by (first | decide | exact Nat.le_trans (by assumption) (by decide) | lia | omega))]
  simp
theorem sgo_zero (rest pr mark : List Nat) : sgo rest 0 pr mark = (pr, rest, mark) := by cases rest with | nil => rfl | cons c r => cases r <;> rfl
theorem c_split (hK : K01 W) {max : Nat} {text : List Nat} {ps : List (List Nat)} (sp : Splits max text ps) (hmax : 0 < max) : ∀ {A : Around} {pre post : Own} {D x dx : Addr} {l : List V} {loc : List (Str × V)} {num : PyData}
    (hnum : ∀ (W : Wd) (A : Around) (own : Own) (Q : Bool → Own → Prop), Q true own → S1 W A RB truthy (.dat num) own Q)
    (hh : A.handled = none) (hd : A.depth + ps.length < recursionLimit) (h1 : (x, Ob.obj (instObj 113 dx)) ∈ pre ++ post) (h2 : (dx, Ob.att loc) ∈ pre ++ post) (h3 : (Str.ofString "_wrapcolumn", V.int max) ∈ loc)
    (h4 : Str.ofString "_split_line" ∉ loc.map (·.1)) (hz : text.length + 4 * ps.length ≤ 100000) (hl : l.length + ps.length ≤ 100000),
    SLC W A (.ref 67) [.ref x, .ref D, .dat num, .str (S text)] (pre ++ (D, .list l) :: post) (fun r o => r = .none ∧ o = pre ++ (D, .list (l ++ (rowsD num ps).map V.dat)) :: post) := by
  induction sp with
  | last hf =>
    intro A pre post D x dx l loc num hnum hh hd h1 h2 h3 h4 hz hl
    refine' do_callC [Str.ofString "self", Str.ofString "data_list", Str.ofString "line_num", Str.ofString "text"] ?ho ?hcd (by omega) ?hb ?hloc ?nd ?hh1 ?c1 ?c2 ?c3 ?c4
    case ho => exact K_of hK rfl
    case hcd => rw [hK]; rfl
    case hb => intro s vs _ hl; obtain ⟨_, _, _, _, rfl⟩ := len_4 hl; exact BindsTo.of_eq rfl
    case hloc => decide +kernel
    case nd => decide +kernel
    case c1 => rfl
    case c2 => rfl
    case c3 => rfl
    case c4 => decide +kernel
    intro L
    dsimp only [lawS, nthS, fdB, fdS, clB, PySem.Challenge.pw_dm0066_01]
    simp only [List.zip_cons_cons, List.zip_nil_right]
    simp only [List.length_cons, List.length_nil] at hz hd hl
    refine SXs_cons ?_
    refine SX_If ?_
    refine ST_not ?_
    refine ST_plain ?_
    refine SE_Name ?_ (by decide +kernel)
    refine SN_loc rfl rfl (by (with_reducible repeat first | exact List.mem_cons_self | refine List.mem_cons_of_mem _ ?_ | assumption | exact mem_mid' | exact mem_mid (by assumption))) (by with_reducible rfl) (by (with_reducible repeat first | exact List.mem_cons_self | refine List.mem_cons_of_mem _ ?_ | assumption | exact mem_mid' | exact mem_mid (by assumption))) ?_
    refine hnum _ _ _ _ ?_
    with_reducible refine ite_nt ?_
    refine SXs_nil ?_
    refine SXs_cons ?_
    refine SX_Assign ?_
    refine SE_Call ?_
    refine SE_Name ?_ (by decide +kernel)
    refine SN_builtin rfl rfl rfl rfl (nsIn_of (by assumption) rfl) rfl (by decide +kernel) ?_
    with_reducible refine ⟨_, rfl, ?_⟩
    refine SEs_cons ?_
    refine SE_Name ?_ (by decide +kernel)
    refine SN_loc rfl rfl (by (with_reducible repeat first | exact List.mem_cons_self | refine List.mem_cons_of_mem _ ?_ | assumption | exact mem_mid' | exact mem_mid (by assumption))) (by with_reducible rfl) (by (with_reducible repeat first | exact List.mem_cons_self | refine List.mem_cons_of_mem _ ?_ | assumption | exact mem_mid' | exact mem_mid (by assumption))) ?_
    refine SEs_nil ?_
    with_reducible refine ⟨kp_builtin, ?_⟩
    refine call_lenS (by ((rw [sizeLine_eq]; (try simp only [List.length_append, List.length_cons, List.length_nil, List.length_map]); (first | decide | exact Nat.le_trans (by assumption) (by decide) | lia | omega)))) ?_
    refine SS_loc rfl rfl (by (with_reducible repeat first | exact List.mem_cons_self | refine List.mem_cons_of_mem _ ?_ | assumption | exact mem_mid' | exact mem_mid (by assumption))) (by with_reducible rfl) (by (with_reducible repeat first | exact Put.here | exact Put.new | apply Put.there)) (by (((first | dsimp only [List.map_cons, List.map_nil] | simp only [List.map_cons, List.map_nil]); decide +kernel))) (by (with_reducible repeat first | exact Upd.here | exact Upd.mid | apply Upd.there)) ?_
    refine SXs_cons ?_
    refine SX_Assign ?_
    refine SE_Attribute ?_
    refine SE_Name ?_ (by decide +kernel)
    refine SN_loc rfl rfl (by (with_reducible repeat first | exact List.mem_cons_self | refine List.mem_cons_of_mem _ ?_ | assumption | exact mem_mid' | exact mem_mid (by assumption))) (by with_reducible rfl) (by (with_reducible repeat first | exact List.mem_cons_self | refine List.mem_cons_of_mem _ ?_ | assumption | exact mem_mid' | exact mem_mid (by assumption))) ?_
    refine get_att (cls01 hK) (by (with_reducible repeat first | exact List.mem_cons_self | refine List.mem_cons_of_mem _ ?_ | assumption | exact mem_mid' | exact mem_mid (by assumption))) (by (with_reducible repeat first | exact List.mem_cons_self | refine List.mem_cons_of_mem _ ?_ | assumption | exact mem_mid' | exact mem_mid (by assumption))) h3 (by rw [hK]; rfl) handed_int ?_
    refine SS_loc rfl rfl (by (with_reducible repeat first | exact List.mem_cons_self | refine List.mem_cons_of_mem _ ?_ | assumption | exact mem_mid' | exact mem_mid (by assumption))) (by with_reducible rfl) (by (with_reducible repeat first | exact Put.here | exact Put.new | apply Put.there)) (by (((first | dsimp only [List.map_cons, List.map_nil] | simp only [List.map_cons, List.map_nil]); decide +kernel))) (by (with_reducible repeat first | exact Upd.here | exact Upd.mid | apply Upd.there)) ?_
    refine SXs_cons ?_
    refine SX_If ?_
    refine SG_or ?_
    refine ST_Compare ?_
    refine SE_Name ?_ (by decide +kernel)
    refine SN_loc rfl rfl (by (with_reducible repeat first | exact List.mem_cons_self | refine List.mem_cons_of_mem _ ?_ | assumption | exact mem_mid' | exact mem_mid (by assumption))) (by with_reducible rfl) (by (with_reducible repeat first | exact List.mem_cons_self | refine List.mem_cons_of_mem _ ?_ | assumption | exact mem_mid' | exact mem_mid (by assumption))) ?_
    refine SE_Name ?_ (by decide +kernel)
    refine SN_loc rfl rfl (by (with_reducible repeat first | exact List.mem_cons_self | refine List.mem_cons_of_mem _ ?_ | assumption | exact mem_mid' | exact mem_mid (by assumption))) (by with_reducible rfl) (by (with_reducible repeat first | exact List.mem_cons_self | refine List.mem_cons_of_mem _ ?_ | assumption | exact mem_mid' | exact mem_mid (by assumption))) ?_
    with_reducible refine cmp_le ?_
    with_reducible refine tr_bool ?_
    refine ite_dec (fun h5 => ?_) (fun h5 => ?_)
    · with_reducible refine ite_tt' ?_
      refine SXs_cons ?_
      refine SX_Expr ?_
      refine SE_Meth ?_
      refine SE_Name ?_ (by decide +kernel)
      refine SN_loc rfl rfl (by (with_reducible repeat first | exact List.mem_cons_self | refine List.mem_cons_of_mem _ ?_ | assumption | exact mem_mid' | exact mem_mid (by assumption))) (by with_reducible rfl) (by (with_reducible repeat first | exact List.mem_cons_self | refine List.mem_cons_of_mem _ ?_ | assumption | exact mem_mid' | exact mem_mid (by assumption))) ?_
      refine mth_list (by (with_reducible repeat first | exact List.mem_cons_self | refine List.mem_cons_of_mem _ ?_ | assumption | exact mem_mid' | exact mem_mid (by assumption))) PySem.F.slot_list_append PySem.F.type_list_append ?_
      refine SEs_cons ?_
      refine SE_TupleF ?_
      refine SEs_cons ?_
      refine SE_Name ?_ (by decide +kernel)
      refine SN_loc rfl rfl (by (with_reducible repeat first | exact List.mem_cons_self | refine List.mem_cons_of_mem _ ?_ | assumption | exact mem_mid' | exact mem_mid (by assumption))) (by with_reducible rfl) (by (with_reducible repeat first | exact List.mem_cons_self | refine List.mem_cons_of_mem _ ?_ | assumption | exact mem_mid' | exact mem_mid (by assumption))) ?_
      refine SEs_cons ?_
      refine SE_Name ?_ (by decide +kernel)
      refine SN_loc rfl rfl (by (with_reducible repeat first | exact List.mem_cons_self | refine List.mem_cons_of_mem _ ?_ | assumption | exact mem_mid' | exact mem_mid (by assumption))) (by with_reducible rfl) (by (with_reducible repeat first | exact List.mem_cons_self | refine List.mem_cons_of_mem _ ?_ | assumption | exact mem_mid' | exact mem_mid (by assumption))) ?_
      refine SEs_nil ?_
      with_reducible refine ⟨_, by with_reducible ((first | exact AllDat.map _ | repeat first | exact AllDat.nil | with_reducible apply AllDat.cons)), by ((rw [sizeLine_eq]; simp)), ?_⟩
      refine SEs_nil ?_
      with_reducible refine ⟨kp_builtin, ?_⟩
      refine call_append (by (with_reducible repeat first | exact Upd.here | exact Upd.mid | apply Upd.there)) (by ((rw [sizeLine_eq]; (try simp only [List.length_append, List.length_cons, List.length_nil, List.length_map]); (first | decide | exact Nat.le_trans (by assumption) (by decide) | lia | omega)))) ?_
      refine SXs_cons ?_
      refine SX_Return0 ?_
      exact ⟨_, .drop .refl, rfl, rfl⟩
    · refine SG_or ?_
      refine ST_Compare ?_
      refine SE_BinOp ?_
      refine SE_Name ?_ (by decide +kernel)
      refine SN_loc rfl rfl (by (with_reducible repeat first | exact List.mem_cons_self | refine List.mem_cons_of_mem _ ?_ | assumption | exact mem_mid' | exact mem_mid (by assumption))) (by with_reducible rfl) (by (with_reducible repeat first | exact List.mem_cons_self | refine List.mem_cons_of_mem _ ?_ | assumption | exact mem_mid' | exact mem_mid (by assumption))) ?_
      refine SE_BinOp ?_
      refine SE_Meth ?_
      refine SE_Name ?_ (by decide +kernel)
      refine SN_loc rfl rfl (by (with_reducible repeat first | exact List.mem_cons_self | refine List.mem_cons_of_mem _ ?_ | assumption | exact mem_mid' | exact mem_mid (by assumption))) (by with_reducible rfl) (by (with_reducible repeat first | exact List.mem_cons_self | refine List.mem_cons_of_mem _ ?_ | assumption | exact mem_mid' | exact mem_mid (by assumption))) ?_
      refine mth_str (fun t s P h => GM.count h) ?_
      refine SEs_cons ?_
      refine SE_strL (by (first | exact l01_0 | exact l01_1 | exact l01_2 | exact l01_3 | exact l01_4 | exact l01_5 | exact l01_6 | exact l01_7 | exact l01_8 | exact l01_9)) ?_
      refine SEs_nil ?_
      with_reducible refine ⟨kp_builtin, ?_⟩
      refine call_countS ?_
      refine SE_int ?_
      with_reducible refine op_mulR (by decide) ?_
      with_reducible refine op_sub ?_
      refine SE_Name ?_ (by decide +kernel)
      refine SN_loc rfl rfl (by (with_reducible repeat first | exact List.mem_cons_self | refine List.mem_cons_of_mem _ ?_ | assumption | exact mem_mid' | exact mem_mid (by assumption))) (by with_reducible rfl) (by (with_reducible repeat first | exact List.mem_cons_self | refine List.mem_cons_of_mem _ ?_ | assumption | exact mem_mid' | exact mem_mid (by assumption))) ?_
      with_reducible refine cmp_le ?_
      with_reducible refine tr_bool ?_
      refine ite_dec (fun h6 => ?_) (fun h6 => ?_)
      · with_reducible refine ite_tt' ?_
        refine SXs_cons ?_
        refine SX_Expr ?_
        refine SE_Meth ?_
        refine SE_Name ?_ (by decide +kernel)
        refine SN_loc rfl rfl (by (with_reducible repeat first | exact List.mem_cons_self | refine List.mem_cons_of_mem _ ?_ | assumption | exact mem_mid' | exact mem_mid (by assumption))) (by with_reducible rfl) (by (with_reducible repeat first | exact List.mem_cons_self | refine List.mem_cons_of_mem _ ?_ | assumption | exact mem_mid' | exact mem_mid (by assumption))) ?_
        refine mth_list (by (with_reducible repeat first | exact List.mem_cons_self | refine List.mem_cons_of_mem _ ?_ | assumption | exact mem_mid' | exact mem_mid (by assumption))) PySem.F.slot_list_append PySem.F.type_list_append ?_
        refine SEs_cons ?_
        refine SE_TupleF ?_
        refine SEs_cons ?_
        refine SE_Name ?_ (by decide +kernel)
        refine SN_loc rfl rfl (by (with_reducible repeat first | exact List.mem_cons_self | refine List.mem_cons_of_mem _ ?_ | assumption | exact mem_mid' | exact mem_mid (by assumption))) (by with_reducible rfl) (by (with_reducible repeat first | exact List.mem_cons_self | refine List.mem_cons_of_mem _ ?_ | assumption | exact mem_mid' | exact mem_mid (by assumption))) ?_
        refine SEs_cons ?_
        refine SE_Name ?_ (by decide +kernel)
        refine SN_loc rfl rfl (by (with_reducible repeat first | exact List.mem_cons_self | refine List.mem_cons_of_mem _ ?_ | assumption | exact mem_mid' | exact mem_mid (by assumption))) (by with_reducible rfl) (by (with_reducible repeat first | exact List.mem_cons_self | refine List.mem_cons_of_mem _ ?_ | assumption | exact mem_mid' | exact mem_mid (by assumption))) ?_
        refine SEs_nil ?_
        with_reducible refine ⟨_, by with_reducible ((first | exact AllDat.map _ | repeat first | exact AllDat.nil | with_reducible apply AllDat.cons)), by ((rw [sizeLine_eq]; simp)), ?_⟩
        refine SEs_nil ?_
        with_reducible refine ⟨kp_builtin, ?_⟩
        refine call_append (by (with_reducible repeat first | exact Upd.here | exact Upd.mid | apply Upd.there)) (by ((rw [sizeLine_eq]; (try simp only [List.length_append, List.length_cons, List.length_nil, List.length_map]); (first | decide | exact Nat.le_trans (by assumption) (by decide) | lia | omega)))) ?_
        refine SXs_cons ?_
        refine SX_Return0 ?_
        exact ⟨_, .drop .refl, rfl, rfl⟩
      · rcases hf with hf | hf
        · exact absurd hf h5
        · exact absurd hf h6
  | @cut text ps hnf hok _ ih =>
    intro A pre post D x dx l loc num hnum hh hd h1 h2 h3 h4 hz hl
    refine' do_callC [Str.ofString "self", Str.ofString "data_list", Str.ofString "line_num", Str.ofString "text"] ?ho ?hcd (by omega) ?hb ?hloc ?nd ?hh2 ?c1 ?c2 ?c3 ?c4
    case ho => exact K_of hK rfl
    case hcd => rw [hK]; rfl
    case hb => intro s vs _ hl; obtain ⟨_, _, _, _, rfl⟩ := len_4 hl; exact BindsTo.of_eq rfl
    case hloc => decide +kernel
    case nd => decide +kernel
    case c1 => rfl
    case c2 => rfl
    case c3 => rfl
    case c4 => decide +kernel
    intro L
    dsimp only [lawS, nthS, fdB, fdS, clB, PySem.Challenge.pw_dm0066_01]
    simp only [List.zip_cons_cons, List.zip_nil_right]
    simp only [List.length_cons] at hz hd hl
    refine SXs_cons ?_
    refine SX_If ?_
    refine ST_not ?_
    refine ST_plain ?_
    refine SE_Name ?_ (by decide +kernel)
    refine SN_loc rfl rfl (by (with_reducible repeat first | exact List.mem_cons_self | refine List.mem_cons_of_mem _ ?_ | assumption | exact mem_mid' | exact mem_mid (by assumption))) (by with_reducible rfl) (by (with_reducible repeat first | exact List.mem_cons_self | refine List.mem_cons_of_mem _ ?_ | assumption | exact mem_mid' | exact mem_mid (by assumption))) ?_
    refine hnum _ _ _ _ ?_
    with_reducible refine ite_nt ?_
    refine SXs_nil ?_
    refine SXs_cons ?_
    refine SX_Assign ?_
    refine SE_Call ?_
    refine SE_Name ?_ (by decide +kernel)
    refine SN_builtin rfl rfl rfl rfl (nsIn_of (by assumption) rfl) rfl (by decide +kernel) ?_
    with_reducible refine ⟨_, rfl, ?_⟩
    refine SEs_cons ?_
    refine SE_Name ?_ (by decide +kernel)
    refine SN_loc rfl rfl (by (with_reducible repeat first | exact List.mem_cons_self | refine List.mem_cons_of_mem _ ?_ | assumption | exact mem_mid' | exact mem_mid (by assumption))) (by with_reducible rfl) (by (with_reducible repeat first | exact List.mem_cons_self | refine List.mem_cons_of_mem _ ?_ | assumption | exact mem_mid' | exact mem_mid (by assumption))) ?_
    refine SEs_nil ?_
    with_reducible refine ⟨kp_builtin, ?_⟩
    refine call_lenS (by ((rw [sizeLine_eq]; (try simp only [List.length_append, List.length_cons, List.length_nil, List.length_map]); (first | decide | exact Nat.le_trans (by assumption) (by decide) | lia | omega)))) ?_
    refine SS_loc rfl rfl (by (with_reducible repeat first | exact List.mem_cons_self | refine List.mem_cons_of_mem _ ?_ | assumption | exact mem_mid' | exact mem_mid (by assumption))) (by with_reducible rfl) (by (with_reducible repeat first | exact Put.here | exact Put.new | apply Put.there)) (by (((first | dsimp only [List.map_cons, List.map_nil] | simp only [List.map_cons, List.map_nil]); decide +kernel))) (by (with_reducible repeat first | exact Upd.here | exact Upd.mid | apply Upd.there)) ?_
    refine SXs_cons ?_
    refine SX_Assign ?_
    refine SE_Attribute ?_
    refine SE_Name ?_ (by decide +kernel)
    refine SN_loc rfl rfl (by (with_reducible repeat first | exact List.mem_cons_self | refine List.mem_cons_of_mem _ ?_ | assumption | exact mem_mid' | exact mem_mid (by assumption))) (by with_reducible rfl) (by (with_reducible repeat first | exact List.mem_cons_self | refine List.mem_cons_of_mem _ ?_ | assumption | exact mem_mid' | exact mem_mid (by assumption))) ?_
    refine get_att (cls01 hK) (by (with_reducible repeat first | exact List.mem_cons_self | refine List.mem_cons_of_mem _ ?_ | assumption | exact mem_mid' | exact mem_mid (by assumption))) (by (with_reducible repeat first | exact List.mem_cons_self | refine List.mem_cons_of_mem _ ?_ | assumption | exact mem_mid' | exact mem_mid (by assumption))) h3 (by rw [hK]; rfl) handed_int ?_
    refine SS_loc rfl rfl (by (with_reducible repeat first | exact List.mem_cons_self | refine List.mem_cons_of_mem _ ?_ | assumption | exact mem_mid' | exact mem_mid (by assumption))) (by with_reducible rfl) (by (with_reducible repeat first | exact Put.here | exact Put.new | apply Put.there)) (by (((first | dsimp only [List.map_cons, List.map_nil] | simp only [List.map_cons, List.map_nil]); decide +kernel))) (by (with_reducible repeat first | exact Upd.here | exact Upd.mid | apply Upd.there)) ?_
    refine SXs_cons ?_
    refine SX_If ?_
    refine SG_or ?_
    refine ST_Compare ?_
    refine SE_Name ?_ (by decide +kernel)
    refine SN_loc rfl rfl (by (with_reducible repeat first | exact List.mem_cons_self | refine List.mem_cons_of_mem _ ?_ | assumption | exact mem_mid' | exact mem_mid (by assumption))) (by with_reducible rfl) (by (with_reducible repeat first | exact List.mem_cons_self | refine List.mem_cons_of_mem _ ?_ | assumption | exact mem_mid' | exact mem_mid (by assumption))) ?_
    refine SE_Name ?_ (by decide +kernel)
    refine SN_loc rfl rfl (by (with_reducible repeat first | exact List.mem_cons_self | refine List.mem_cons_of_mem _ ?_ | assumption | exact mem_mid' | exact mem_mid (by assumption))) (by with_reducible rfl) (by (with_reducible repeat first | exact List.mem_cons_self | refine List.mem_cons_of_mem _ ?_ | assumption | exact mem_mid' | exact mem_mid (by assumption))) ?_
    with_reducible refine cmp_le ?_
    with_reducible refine tr_bool ?_
    refine ite_dec (fun h5 => absurd (Or.inl h5) hnf) (fun h5 => ?_)
    refine SG_or ?_
    refine ST_Compare ?_
    refine SE_BinOp ?_
    refine SE_Name ?_ (by decide +kernel)
    refine SN_loc rfl rfl (by (with_reducible repeat first | exact List.mem_cons_self | refine List.mem_cons_of_mem _ ?_ | assumption | exact mem_mid' | exact mem_mid (by assumption))) (by with_reducible rfl) (by (with_reducible repeat first | exact List.mem_cons_self | refine List.mem_cons_of_mem _ ?_ | assumption | exact mem_mid' | exact mem_mid (by assumption))) ?_
    refine SE_BinOp ?_
    refine SE_Meth ?_
    refine SE_Name ?_ (by decide +kernel)
    refine SN_loc rfl rfl (by (with_reducible repeat first | exact List.mem_cons_self | refine List.mem_cons_of_mem _ ?_ | assumption | exact mem_mid' | exact mem_mid (by assumption))) (by with_reducible rfl) (by (with_reducible repeat first | exact List.mem_cons_self | refine List.mem_cons_of_mem _ ?_ | assumption | exact mem_mid' | exact mem_mid (by assumption))) ?_
    refine mth_str (fun t s P h => GM.count h) ?_
    refine SEs_cons ?_
    refine SE_strL (by (first | exact l01_0 | exact l01_1 | exact l01_2 | exact l01_3 | exact l01_4 | exact l01_5 | exact l01_6 | exact l01_7 | exact l01_8 | exact l01_9)) ?_
    refine SEs_nil ?_
    with_reducible refine ⟨kp_builtin, ?_⟩
    refine call_countS ?_
    refine SE_int ?_
    with_reducible refine op_mulR (by decide) ?_
    with_reducible refine op_sub ?_
    refine SE_Name ?_ (by decide +kernel)
    refine SN_loc rfl rfl (by (with_reducible repeat first | exact List.mem_cons_self | refine List.mem_cons_of_mem _ ?_ | assumption | exact mem_mid' | exact mem_mid (by assumption))) (by with_reducible rfl) (by (with_reducible repeat first | exact List.mem_cons_self | refine List.mem_cons_of_mem _ ?_ | assumption | exact mem_mid' | exact mem_mid (by assumption))) ?_
    with_reducible refine cmp_le ?_
    with_reducible refine tr_bool ?_
    refine ite_dec (fun h6 => absurd (Or.inr h6) hnf) (fun h6 => ?_)
    refine SG_or_nil ?_
    with_reducible refine ite_ff' ?_
    refine SXs_nil ?_
    refine SXs_cons ?_
    refine SX_Assign ?_
    refine SE_int ?_
    refine SS_loc rfl rfl (by (with_reducible repeat first | exact List.mem_cons_self | refine List.mem_cons_of_mem _ ?_ | assumption | exact mem_mid' | exact mem_mid (by assumption))) (by with_reducible rfl) (by (with_reducible repeat first | exact Put.here | exact Put.new | apply Put.there)) (by (((first | dsimp only [List.map_cons, List.map_nil] | simp only [List.map_cons, List.map_nil]); decide +kernel))) (by (with_reducible repeat first | exact Upd.here | exact Upd.mid | apply Upd.there)) ?_
    refine SXs_cons ?_
    refine SX_Assign ?_
    refine SE_int ?_
    refine SS_loc rfl rfl (by (with_reducible repeat first | exact List.mem_cons_self | refine List.mem_cons_of_mem _ ?_ | assumption | exact mem_mid' | exact mem_mid (by assumption))) (by with_reducible rfl) (by (with_reducible repeat first | exact Put.here | exact Put.new | apply Put.there)) (by (((first | dsimp only [List.map_cons, List.map_nil] | simp only [List.map_cons, List.map_nil]); decide +kernel))) (by (with_reducible repeat first | exact Upd.here | exact Upd.mid | apply Upd.there)) ?_
    refine SXs_cons ?_
    refine SX_Assign ?_
    refine SE_strL (by (first | exact l01_0 | exact l01_1 | exact l01_2 | exact l01_3 | exact l01_4 | exact l01_5 | exact l01_6 | exact l01_7 | exact l01_8 | exact l01_9)) ?_
    refine SS_loc rfl rfl (by (with_reducible repeat first | exact List.mem_cons_self | refine List.mem_cons_of_mem _ ?_ | assumption | exact mem_mid' | exact mem_mid (by assumption))) (by with_reducible rfl) (by (with_reducible repeat first | exact Put.here | exact Put.new | apply Put.there)) (by (((first | dsimp only [List.map_cons, List.map_nil] | simp only [List.map_cons, List.map_nil]); decide +kernel))) (by (with_reducible repeat first | exact Upd.here | exact Upd.mid | apply Upd.there)) ?_
    refine SXs_cons ?_
    refine SG.mono (Q := fun fl o => ∃ (pr rest mark : List Nat) (k : Nat), fl = Fl.next ∧ text = pr ++ rest ∧ sgo text max [] [] = (pr, rest, mark) ∧ mark.length ≤ 1 ∧
      o = (L, Ob.ns [(Str.ofString "self", V.ref x), (Str.ofString "data_list", V.ref D), (Str.ofString "line_num", V.dat num), (Str.ofString "text", V.str (S text)), (Str.ofString "size", V.int text.length), (Str.ofString "max", V.int max),
        (Str.ofString "i", V.int pr.length), (Str.ofString "n", V.int ((max : Int) - k)), (Str.ofString "mark", V.str (S mark))]) :: (pre ++ (D, Ob.list l) :: post))
      (SX_While (fun m o => ∃ (pr rest mark : List Nat) (k : Nat), text = pr ++ rest ∧ k ≤ max ∧ sgo rest k pr mark = sgo text max [] [] ∧ sok rest k = true ∧ mark.length ≤ 1 ∧ m = rest.length ∧
      o = (L, Ob.ns [(Str.ofString "self", V.ref x), (Str.ofString "data_list", V.ref D), (Str.ofString "line_num", V.dat num), (Str.ofString "text", V.str (S text)), (Str.ofString "size", V.int text.length), (Str.ofString "max", V.int max),
        (Str.ofString "i", V.int pr.length), (Str.ofString "n", V.int ((max : Int) - k)), (Str.ofString "mark", V.str (S mark))]) :: (pre ++ (D, Ob.list l) :: post)) text.length ?_ ?_) ?_
    · refine ⟨[], text, [], max, rfl, Nat.le_refl _, rfl, hok, by decide, rfl, ?_⟩
      rw [show (max : Int) - max = 0 by (first | decide | exact Nat.le_trans (by assumption) (by decide) | lia | omega)]; rfl
    · rintro m o ⟨pr, rest, mark, k, e, hk, inv, ok, hml, rfl, rfl⟩
      have he := congrArg List.length e
      rw [List.length_append] at he
      refine SG_and ?_
      refine ST_Compare ?_
      refine SE_Name ?_ (by decide +kernel)
      refine SN_loc rfl rfl (by (with_reducible repeat first | exact List.mem_cons_self | refine List.mem_cons_of_mem _ ?_ | assumption | exact mem_mid' | exact mem_mid (by assumption))) (by with_reducible rfl) (by (with_reducible repeat first | exact List.mem_cons_self | refine List.mem_cons_of_mem _ ?_ | assumption | exact mem_mid' | exact mem_mid (by assumption))) ?_
      refine SE_Name ?_ (by decide +kernel)
      refine SN_loc rfl rfl (by (with_reducible repeat first | exact List.mem_cons_self | refine List.mem_cons_of_mem _ ?_ | assumption | exact mem_mid' | exact mem_mid (by assumption))) (by with_reducible rfl) (by (with_reducible repeat first | exact List.mem_cons_self | refine List.mem_cons_of_mem _ ?_ | assumption | exact mem_mid' | exact mem_mid (by assumption))) ?_
      with_reducible refine cmp_lt ?_
      with_reducible refine tr_bool ?_
      refine ite_dec (fun h7 => ?_) (fun h7 => ?_)
      · refine SG_and ?_
        refine ST_Compare ?_
        refine SE_Name ?_ (by decide +kernel)
        refine SN_loc rfl rfl (by (with_reducible repeat first | exact List.mem_cons_self | refine List.mem_cons_of_mem _ ?_ | assumption | exact mem_mid' | exact mem_mid (by assumption))) (by with_reducible rfl) (by (with_reducible repeat first | exact List.mem_cons_self | refine List.mem_cons_of_mem _ ?_ | assumption | exact mem_mid' | exact mem_mid (by assumption))) ?_
        refine SE_Name ?_ (by decide +kernel)
        refine SN_loc rfl rfl (by (with_reducible repeat first | exact List.mem_cons_self | refine List.mem_cons_of_mem _ ?_ | assumption | exact mem_mid' | exact mem_mid (by assumption))) (by with_reducible rfl) (by (with_reducible repeat first | exact List.mem_cons_self | refine List.mem_cons_of_mem _ ?_ | assumption | exact mem_mid' | exact mem_mid (by assumption))) ?_
        with_reducible refine cmp_lt ?_
        with_reducible refine tr_bool ?_
        refine ite_dec (fun h8 => ?_) (fun h8 => ?_)
        · cases rest with
          | nil => simp only [List.length_nil] at he; (first | decide | exact Nat.le_trans (by assumption) (by decide) | lia | omega)
          | cons c r =>
            simp only [List.length_cons] at he
            have hx := at_mid pr r c
            rw [← e] at hx
            refine SG_and_nil ?_
            with_reducible refine ite_tt' ?_
            refine SXs_cons ?_
            refine SX_If ?_
            refine ST_Compare ?_
            refine SE_Subscript ?_
            refine SE_Name ?_ (by decide +kernel)
            refine SN_loc rfl rfl (by (with_reducible repeat first | exact List.mem_cons_self | refine List.mem_cons_of_mem _ ?_ | assumption | exact mem_mid' | exact mem_mid (by assumption))) (by with_reducible rfl) (by (with_reducible repeat first | exact List.mem_cons_self | refine List.mem_cons_of_mem _ ?_ | assumption | exact mem_mid' | exact mem_mid (by assumption))) ?_
            refine SE_Name ?_ (by decide +kernel)
            refine SN_loc rfl rfl (by (with_reducible repeat first | exact List.mem_cons_self | refine List.mem_cons_of_mem _ ?_ | assumption | exact mem_mid' | exact mem_mid (by assumption))) (by with_reducible rfl) (by (with_reducible repeat first | exact List.mem_cons_self | refine List.mem_cons_of_mem _ ?_ | assumption | exact mem_mid' | exact mem_mid (by assumption))) ?_
            refine sub_strS (by (first | decide | exact Nat.le_trans (by assumption) (by decide) | lia | omega)) (by (first | decide | exact Nat.le_trans (by assumption) (by decide) | lia | omega)) (by ((rw [sizeLine_eq]; (try simp only [List.length_append, List.length_cons, List.length_nil, List.length_map]); (first | decide | exact Nat.le_trans (by assumption) (by decide) | lia | omega)))) hx ?_
            refine SE_strL (by (first | exact l01_0 | exact l01_1 | exact l01_2 | exact l01_3 | exact l01_4 | exact l01_5 | exact l01_6 | exact l01_7 | exact l01_8 | exact l01_9)) ?_
            with_reducible refine cmp_eqSS ?_
            with_reducible refine tr_bool ?_
            obtain ⟨k, rfl⟩ : ∃ j, k = j + 1 := ⟨k - 1, by (first | decide | exact Nat.le_trans (by assumption) (by decide) | lia | omega)⟩
            refine ite_dec (fun h9 => ?_) (fun h9 => ?_)
            · cases r with
              | nil => simp [sok, h9] at ok
              | cons m r =>
                simp only [List.length_cons] at he
                have hx2 := at_mid2 pr r c m
                rw [← e] at hx2
                refine SXs_cons ?_
                refine SX_Aug ?_
                refine SN_loc rfl rfl (by (with_reducible repeat first | exact List.mem_cons_self | refine List.mem_cons_of_mem _ ?_ | assumption | exact mem_mid' | exact mem_mid (by assumption))) (by with_reducible rfl) (by (with_reducible repeat first | exact List.mem_cons_self | refine List.mem_cons_of_mem _ ?_ | assumption | exact mem_mid' | exact mem_mid (by assumption))) ?_
                refine SE_int ?_
                with_reducible refine op_iadd ?_
                refine SS_loc rfl rfl (by (with_reducible repeat first | exact List.mem_cons_self | refine List.mem_cons_of_mem _ ?_ | assumption | exact mem_mid' | exact mem_mid (by assumption))) (by with_reducible rfl) (by (with_reducible repeat first | exact Put.here | exact Put.new | apply Put.there)) (by (((first | dsimp only [List.map_cons, List.map_nil] | simp only [List.map_cons, List.map_nil]); decide +kernel))) (by (with_reducible repeat first | exact Upd.here | exact Upd.mid | apply Upd.there)) ?_
                refine SXs_cons ?_
                refine SX_Assign ?_
                refine SE_Subscript ?_
                refine SE_Name ?_ (by decide +kernel)
                refine SN_loc rfl rfl (by (with_reducible repeat first | exact List.mem_cons_self | refine List.mem_cons_of_mem _ ?_ | assumption | exact mem_mid' | exact mem_mid (by assumption))) (by with_reducible rfl) (by (with_reducible repeat first | exact List.mem_cons_self | refine List.mem_cons_of_mem _ ?_ | assumption | exact mem_mid' | exact mem_mid (by assumption))) ?_
                refine SE_Name ?_ (by decide +kernel)
                refine SN_loc rfl rfl (by (with_reducible repeat first | exact List.mem_cons_self | refine List.mem_cons_of_mem _ ?_ | assumption | exact mem_mid' | exact mem_mid (by assumption))) (by with_reducible rfl) (by (with_reducible repeat first | exact List.mem_cons_self | refine List.mem_cons_of_mem _ ?_ | assumption | exact mem_mid' | exact mem_mid (by assumption))) ?_
                refine sub_strS (by (first | decide | exact Nat.le_trans (by assumption) (by decide) | lia | omega)) (by (first | decide | exact Nat.le_trans (by assumption) (by decide) | lia | omega)) (by ((rw [sizeLine_eq]; (try simp only [List.length_append, List.length_cons, List.length_nil, List.length_map]); (first | decide | exact Nat.le_trans (by assumption) (by decide) | lia | omega)))) hx2 ?_
                refine SS_loc rfl rfl (by (with_reducible repeat first | exact List.mem_cons_self | refine List.mem_cons_of_mem _ ?_ | assumption | exact mem_mid' | exact mem_mid (by assumption))) (by with_reducible rfl) (by (with_reducible repeat first | exact Put.here | exact Put.new | apply Put.there)) (by (((first | dsimp only [List.map_cons, List.map_nil] | simp only [List.map_cons, List.map_nil]); decide +kernel))) (by (with_reducible repeat first | exact Upd.here | exact Upd.mid | apply Upd.there)) ?_
                refine SXs_cons ?_
                refine SX_Aug ?_
                refine SN_loc rfl rfl (by (with_reducible repeat first | exact List.mem_cons_self | refine List.mem_cons_of_mem _ ?_ | assumption | exact mem_mid' | exact mem_mid (by assumption))) (by with_reducible rfl) (by (with_reducible repeat first | exact List.mem_cons_self | refine List.mem_cons_of_mem _ ?_ | assumption | exact mem_mid' | exact mem_mid (by assumption))) ?_
                refine SE_int ?_
                with_reducible refine op_iadd ?_
                refine SS_loc rfl rfl (by (with_reducible repeat first | exact List.mem_cons_self | refine List.mem_cons_of_mem _ ?_ | assumption | exact mem_mid' | exact mem_mid (by assumption))) (by with_reducible rfl) (by (with_reducible repeat first | exact Put.here | exact Put.new | apply Put.there)) (by (((first | dsimp only [List.map_cons, List.map_nil] | simp only [List.map_cons, List.map_nil]); decide +kernel))) (by (with_reducible repeat first | exact Upd.here | exact Upd.mid | apply Upd.there)) ?_
                refine SXs_nil ?_
                refine SXs_nil ?_
                rw [show (pr.length : Int) + 1 + 1 = ((pr ++ [c, m]).length : Nat) by simp; (first | decide | exact Nat.le_trans (by assumption) (by decide) | lia | omega)]
                rw [sgo, if_pos h9] at inv
                rw [sok, if_pos h9] at ok
                exact ⟨_, r.length, by (with_reducible repeat first | exact Wk.refl | exact Wk.nil | refine Wk.keep ObW.refl ?_ | refine Wk.keep (ObW.ns (by (with_reducible repeat first | exact List.Sublist.refl _ | exact List.nil_sublist _ | apply List.Sublist.cons_cons | apply List.Sublist.cons))) ?_ | apply Wk.drop), by simp; (first | decide | exact Nat.le_trans (by assumption) (by decide) | lia | omega), pr ++ [c, m], r, [m], k + 1, by simp [e], hk, inv, ok, by simp, rfl, rfl⟩
            · refine SXs_cons ?_
              refine SX_If ?_
              refine ST_Compare ?_
              refine SE_Subscript ?_
              refine SE_Name ?_ (by decide +kernel)
              refine SN_loc rfl rfl (by (with_reducible repeat first | exact List.mem_cons_self | refine List.mem_cons_of_mem _ ?_ | assumption | exact mem_mid' | exact mem_mid (by assumption))) (by with_reducible rfl) (by (with_reducible repeat first | exact List.mem_cons_self | refine List.mem_cons_of_mem _ ?_ | assumption | exact mem_mid' | exact mem_mid (by assumption))) ?_
              refine SE_Name ?_ (by decide +kernel)
              refine SN_loc rfl rfl (by (with_reducible repeat first | exact List.mem_cons_self | refine List.mem_cons_of_mem _ ?_ | assumption | exact mem_mid' | exact mem_mid (by assumption))) (by with_reducible rfl) (by (with_reducible repeat first | exact List.mem_cons_self | refine List.mem_cons_of_mem _ ?_ | assumption | exact mem_mid' | exact mem_mid (by assumption))) ?_
              refine sub_strS (by (first | decide | exact Nat.le_trans (by assumption) (by decide) | lia | omega)) (by (first | decide | exact Nat.le_trans (by assumption) (by decide) | lia | omega)) (by ((rw [sizeLine_eq]; (try simp only [List.length_append, List.length_cons, List.length_nil, List.length_map]); (first | decide | exact Nat.le_trans (by assumption) (by decide) | lia | omega)))) hx ?_
              refine SE_strL (by (first | exact l01_0 | exact l01_1 | exact l01_2 | exact l01_3 | exact l01_4 | exact l01_5 | exact l01_6 | exact l01_7 | exact l01_8 | exact l01_9)) ?_
              with_reducible refine cmp_eqSS ?_
              with_reducible refine tr_bool ?_
              refine ite_dec (fun h10 => ?_) (fun h10 => ?_)
              · refine SXs_cons ?_
                refine SX_Aug ?_
                refine SN_loc rfl rfl (by (with_reducible repeat first | exact List.mem_cons_self | refine List.mem_cons_of_mem _ ?_ | assumption | exact mem_mid' | exact mem_mid (by assumption))) (by with_reducible rfl) (by (with_reducible repeat first | exact List.mem_cons_self | refine List.mem_cons_of_mem _ ?_ | assumption | exact mem_mid' | exact mem_mid (by assumption))) ?_
                refine SE_int ?_
                with_reducible refine op_iadd ?_
                refine SS_loc rfl rfl (by (with_reducible repeat first | exact List.mem_cons_self | refine List.mem_cons_of_mem _ ?_ | assumption | exact mem_mid' | exact mem_mid (by assumption))) (by with_reducible rfl) (by (with_reducible repeat first | exact Put.here | exact Put.new | apply Put.there)) (by (((first | dsimp only [List.map_cons, List.map_nil] | simp only [List.map_cons, List.map_nil]); decide +kernel))) (by (with_reducible repeat first | exact Upd.here | exact Upd.mid | apply Upd.there)) ?_
                refine SXs_cons ?_
                refine SX_Assign ?_
                refine SE_strL (by (first | exact l01_0 | exact l01_1 | exact l01_2 | exact l01_3 | exact l01_4 | exact l01_5 | exact l01_6 | exact l01_7 | exact l01_8 | exact l01_9)) ?_
                refine SS_loc rfl rfl (by (with_reducible repeat first | exact List.mem_cons_self | refine List.mem_cons_of_mem _ ?_ | assumption | exact mem_mid' | exact mem_mid (by assumption))) (by with_reducible rfl) (by (with_reducible repeat first | exact Put.here | exact Put.new | apply Put.there)) (by (((first | dsimp only [List.map_cons, List.map_nil] | simp only [List.map_cons, List.map_nil]); decide +kernel))) (by (with_reducible repeat first | exact Upd.here | exact Upd.mid | apply Upd.there)) ?_
                refine SXs_nil ?_
                refine SXs_nil ?_
                refine SXs_nil ?_
                rw [show (pr.length : Int) + 1 = ((pr ++ [c]).length : Nat) by simp]
                have inv' : sgo r (k + 1) (pr ++ [c]) [] = sgo text max [] [] := by
                  rw [← inv]
                  have hc : c = 1 := by simpa using h10
                  cases r with
                  | nil => rw [sgo.eq_3, if_neg h9, if_pos h10, hc]
                  | cons m r => rw [sgo.eq_4, if_neg h9, if_pos h10]
                have ok' : sok r (k + 1) = true := by
                  cases r with
                  | nil => rfl
                  | cons m r => rw [sok, if_neg h9, if_pos h10] at ok; exact ok
                exact ⟨_, r.length, by (with_reducible repeat first | exact Wk.refl | exact Wk.nil | refine Wk.keep ObW.refl ?_ | refine Wk.keep (ObW.ns (by (with_reducible repeat first | exact List.Sublist.refl _ | exact List.nil_sublist _ | apply List.Sublist.cons_cons | apply List.Sublist.cons))) ?_ | apply Wk.drop), by simp, pr ++ [c], r, [], k + 1, by simp [e], hk, inv', ok', by simp, rfl, rfl⟩
              · refine SXs_cons ?_
                refine SX_Aug ?_
                refine SN_loc rfl rfl (by (with_reducible repeat first | exact List.mem_cons_self | refine List.mem_cons_of_mem _ ?_ | assumption | exact mem_mid' | exact mem_mid (by assumption))) (by with_reducible rfl) (by (with_reducible repeat first | exact List.mem_cons_self | refine List.mem_cons_of_mem _ ?_ | assumption | exact mem_mid' | exact mem_mid (by assumption))) ?_
                refine SE_int ?_
                with_reducible refine op_iadd ?_
                refine SS_loc rfl rfl (by (with_reducible repeat first | exact List.mem_cons_self | refine List.mem_cons_of_mem _ ?_ | assumption | exact mem_mid' | exact mem_mid (by assumption))) (by with_reducible rfl) (by (with_reducible repeat first | exact Put.here | exact Put.new | apply Put.there)) (by (((first | dsimp only [List.map_cons, List.map_nil] | simp only [List.map_cons, List.map_nil]); decide +kernel))) (by (with_reducible repeat first | exact Upd.here | exact Upd.mid | apply Upd.there)) ?_
                refine SXs_cons ?_
                refine SX_Aug ?_
                refine SN_loc rfl rfl (by (with_reducible repeat first | exact List.mem_cons_self | refine List.mem_cons_of_mem _ ?_ | assumption | exact mem_mid' | exact mem_mid (by assumption))) (by with_reducible rfl) (by (with_reducible repeat first | exact List.mem_cons_self | refine List.mem_cons_of_mem _ ?_ | assumption | exact mem_mid' | exact mem_mid (by assumption))) ?_
                refine SE_int ?_
                with_reducible refine op_iadd ?_
                refine SS_loc rfl rfl (by (with_reducible repeat first | exact List.mem_cons_self | refine List.mem_cons_of_mem _ ?_ | assumption | exact mem_mid' | exact mem_mid (by assumption))) (by with_reducible rfl) (by (with_reducible repeat first | exact Put.here | exact Put.new | apply Put.there)) (by (((first | dsimp only [List.map_cons, List.map_nil] | simp only [List.map_cons, List.map_nil]); decide +kernel))) (by (with_reducible repeat first | exact Upd.here | exact Upd.mid | apply Upd.there)) ?_
                refine SXs_nil ?_
                refine SXs_nil ?_
                refine SXs_nil ?_
                rw [show (pr.length : Int) + 1 = ((pr ++ [c]).length : Nat) by simp, show (max : Int) - ((k + 1 : Nat) : Int) + 1 = (max : Int) - (k : Nat) by push_cast; (first | decide | exact Nat.le_trans (by assumption) (by decide) | lia | omega)]
                have inv' : sgo r k (pr ++ [c]) mark = sgo text max [] [] := by
                  rw [← inv]
                  cases r with
                  | nil => rw [sgo.eq_3, if_neg h9, if_neg h10]
                  | cons m r => rw [sgo.eq_4, if_neg h9, if_neg h10]
                have ok' : sok r k = true := by
                  cases r with
                  | nil => cases k <;> rfl
                  | cons m r => rw [sok, if_neg h9, if_neg h10] at ok; exact ok
                exact ⟨_, r.length, by (with_reducible repeat first | exact Wk.refl | exact Wk.nil | refine Wk.keep ObW.refl ?_ | refine Wk.keep (ObW.ns (by (with_reducible repeat first | exact List.Sublist.refl _ | exact List.nil_sublist _ | apply List.Sublist.cons_cons | apply List.Sublist.cons))) ?_ | apply Wk.drop), by simp, pr ++ [c], r, mark, k, by simp [e], by (first | decide | exact Nat.le_trans (by assumption) (by decide) | lia | omega), inv', ok', hml, rfl, rfl⟩
        · with_reducible refine ite_ff' ?_
          have hr : rest = [] := by cases rest with | nil => rfl | cons c r => simp only [List.length_cons] at he; (first | decide | exact Nat.le_trans (by assumption) (by decide) | lia | omega)
          subst hr
          exact ⟨pr, [], mark, k, rfl, e, by rw [← inv]; cases k <;> rfl, hml, rfl⟩
      · with_reducible refine ite_ff' ?_
        have hk0 : k = 0 := by (first | decide | exact Nat.le_trans (by assumption) (by decide) | lia | omega)
        subst hk0
        exact ⟨pr, rest, mark, 0, rfl, e, by rw [← inv, sgo_zero], hml, rfl⟩
    · rintro _ o ⟨pr, rest, mark, k, rfl, e, hs, hml, rfl⟩
      have he := congrArg List.length e
      rw [List.length_append] at he
      have c1 : cutL text none (some (pr.length : Int)) = pr := by rw [e]; exact cutL_pre _ _
      have c2 : cutL text (some (pr.length : Int)) none = rest := by rw [e]; exact cutL_post _ _
      refine SXs_cons ?_
      refine SX_Assign ?_
      refine SE_SliceSS ?_
      refine SE_Name ?_ (by decide +kernel)
      refine SN_loc rfl rfl (by (with_reducible repeat first | exact List.mem_cons_self | refine List.mem_cons_of_mem _ ?_ | assumption | exact mem_mid' | exact mem_mid (by assumption))) (by with_reducible rfl) (by (with_reducible repeat first | exact List.mem_cons_self | refine List.mem_cons_of_mem _ ?_ | assumption | exact mem_mid' | exact mem_mid (by assumption))) ?_
      refine SPt_none ?_
      refine SPt_some ?_
      refine SE_Name ?_ (by decide +kernel)
      refine SN_loc rfl rfl (by (with_reducible repeat first | exact List.mem_cons_self | refine List.mem_cons_of_mem _ ?_ | assumption | exact mem_mid' | exact mem_mid (by assumption))) (by with_reducible rfl) (by (with_reducible repeat first | exact List.mem_cons_self | refine List.mem_cons_of_mem _ ?_ | assumption | exact mem_mid' | exact mem_mid (by assumption))) ?_
      with_reducible refine ⟨_, rfl, ?_⟩
      with_reducible refine ⟨_, rfl, ?_⟩
      refine ⟨by ((rw [sizeLine_eq]; (try simp only [List.length_append, List.length_cons, List.length_nil, List.length_map]); (first | decide | exact Nat.le_trans (by assumption) (by decide) | lia | omega))), ?_⟩
      rw [c1]
      refine SS_loc rfl rfl (by (with_reducible repeat first | exact List.mem_cons_self | refine List.mem_cons_of_mem _ ?_ | assumption | exact mem_mid' | exact mem_mid (by assumption))) (by with_reducible rfl) (by (with_reducible repeat first | exact Put.here | exact Put.new | apply Put.there)) (by (((first | dsimp only [List.map_cons, List.map_nil] | simp only [List.map_cons, List.map_nil]); decide +kernel))) (by (with_reducible repeat first | exact Upd.here | exact Upd.mid | apply Upd.there)) ?_
      refine SXs_cons ?_
      refine SX_Assign ?_
      refine SE_SliceSS ?_
      refine SE_Name ?_ (by decide +kernel)
      refine SN_loc rfl rfl (by (with_reducible repeat first | exact List.mem_cons_self | refine List.mem_cons_of_mem _ ?_ | assumption | exact mem_mid' | exact mem_mid (by assumption))) (by with_reducible rfl) (by (with_reducible repeat first | exact List.mem_cons_self | refine List.mem_cons_of_mem _ ?_ | assumption | exact mem_mid' | exact mem_mid (by assumption))) ?_
      refine SPt_some ?_
      refine SE_Name ?_ (by decide +kernel)
      refine SN_loc rfl rfl (by (with_reducible repeat first | exact List.mem_cons_self | refine List.mem_cons_of_mem _ ?_ | assumption | exact mem_mid' | exact mem_mid (by assumption))) (by with_reducible rfl) (by (with_reducible repeat first | exact List.mem_cons_self | refine List.mem_cons_of_mem _ ?_ | assumption | exact mem_mid' | exact mem_mid (by assumption))) ?_
      with_reducible refine ⟨_, rfl, ?_⟩
      refine SPt_none ?_
      with_reducible refine ⟨_, rfl, ?_⟩
      refine ⟨by ((rw [sizeLine_eq]; (try simp only [List.length_append, List.length_cons, List.length_nil, List.length_map]); (first | decide | exact Nat.le_trans (by assumption) (by decide) | lia | omega))), ?_⟩
      rw [c2]
      refine SS_loc rfl rfl (by (with_reducible repeat first | exact List.mem_cons_self | refine List.mem_cons_of_mem _ ?_ | assumption | exact mem_mid' | exact mem_mid (by assumption))) (by with_reducible rfl) (by (with_reducible repeat first | exact Put.here | exact Put.new | apply Put.there)) (by (((first | dsimp only [List.map_cons, List.map_nil] | simp only [List.map_cons, List.map_nil]); decide +kernel))) (by (with_reducible repeat first | exact Upd.here | exact Upd.mid | apply Upd.there)) ?_
      refine SXs_cons ?_
      refine SX_If ?_
      refine ST_plain ?_
      refine SE_Name ?_ (by decide +kernel)
      refine SN_loc rfl rfl (by (with_reducible repeat first | exact List.mem_cons_self | refine List.mem_cons_of_mem _ ?_ | assumption | exact mem_mid' | exact mem_mid (by assumption))) (by with_reducible rfl) (by (with_reducible repeat first | exact List.mem_cons_self | refine List.mem_cons_of_mem _ ?_ | assumption | exact mem_mid' | exact mem_mid (by assumption))) ?_
      refine tr_strS (by ((rw [sizeLine_eq]; (try simp only [List.length_append, List.length_cons, List.length_nil, List.length_map]); (first | decide | exact Nat.le_trans (by assumption) (by decide) | lia | omega)))) ?_
      rw [hs] at ih ⊢
      refine ite_dec (fun h7 => ?_) (fun h7 => ?_)
      · rw [line2, if_neg h7] at ih
        rw [line1, if_neg h7]
        dsimp only at ih ⊢
        refine SXs_cons ?_
        refine SX_Assign ?_
        refine SE_BinOp ?_
        refine SE_Name ?_ (by decide +kernel)
        refine SN_loc rfl rfl (by (with_reducible repeat first | exact List.mem_cons_self | refine List.mem_cons_of_mem _ ?_ | assumption | exact mem_mid' | exact mem_mid (by assumption))) (by with_reducible rfl) (by (with_reducible repeat first | exact List.mem_cons_self | refine List.mem_cons_of_mem _ ?_ | assumption | exact mem_mid' | exact mem_mid (by assumption))) ?_
        refine SE_strL (by (first | exact l01_0 | exact l01_1 | exact l01_2 | exact l01_3 | exact l01_4 | exact l01_5 | exact l01_6 | exact l01_7 | exact l01_8 | exact l01_9)) ?_
        with_reducible refine op_catS (by ((rw [sizeLine_eq]; (try simp only [List.length_append, List.length_cons, List.length_nil, List.length_map]); (first | decide | exact Nat.le_trans (by assumption) (by decide) | lia | omega)))) ?_
        refine SS_loc rfl rfl (by (with_reducible repeat first | exact List.mem_cons_self | refine List.mem_cons_of_mem _ ?_ | assumption | exact mem_mid' | exact mem_mid (by assumption))) (by with_reducible rfl) (by (with_reducible repeat first | exact Put.here | exact Put.new | apply Put.there)) (by (((first | dsimp only [List.map_cons, List.map_nil] | simp only [List.map_cons, List.map_nil]); decide +kernel))) (by (with_reducible repeat first | exact Upd.here | exact Upd.mid | apply Upd.there)) ?_
        refine SXs_cons ?_
        refine SX_Assign ?_
        refine SE_BinOp ?_
        refine SE_BinOp ?_
        refine SE_strL (by (first | exact l01_0 | exact l01_1 | exact l01_2 | exact l01_3 | exact l01_4 | exact l01_5 | exact l01_6 | exact l01_7 | exact l01_8 | exact l01_9)) ?_
        refine SE_Name ?_ (by decide +kernel)
        refine SN_loc rfl rfl (by (with_reducible repeat first | exact List.mem_cons_self | refine List.mem_cons_of_mem _ ?_ | assumption | exact mem_mid' | exact mem_mid (by assumption))) (by with_reducible rfl) (by (with_reducible repeat first | exact List.mem_cons_self | refine List.mem_cons_of_mem _ ?_ | assumption | exact mem_mid' | exact mem_mid (by assumption))) ?_
        with_reducible refine op_catS (by ((rw [sizeLine_eq]; (try simp only [List.length_append, List.length_cons, List.length_nil, List.length_map]); (first | decide | exact Nat.le_trans (by assumption) (by decide) | lia | omega)))) ?_
        refine SE_Name ?_ (by decide +kernel)
        refine SN_loc rfl rfl (by (with_reducible repeat first | exact List.mem_cons_self | refine List.mem_cons_of_mem _ ?_ | assumption | exact mem_mid' | exact mem_mid (by assumption))) (by with_reducible rfl) (by (with_reducible repeat first | exact List.mem_cons_self | refine List.mem_cons_of_mem _ ?_ | assumption | exact mem_mid' | exact mem_mid (by assumption))) ?_
        with_reducible refine op_catS (by ((rw [sizeLine_eq]; (try simp only [List.length_append, List.length_cons, List.length_nil, List.length_map]); (first | decide | exact Nat.le_trans (by assumption) (by decide) | lia | omega)))) ?_
        refine SS_loc rfl rfl (by (with_reducible repeat first | exact List.mem_cons_self | refine List.mem_cons_of_mem _ ?_ | assumption | exact mem_mid' | exact mem_mid (by assumption))) (by with_reducible rfl) (by (with_reducible repeat first | exact Put.here | exact Put.new | apply Put.there)) (by (((first | dsimp only [List.map_cons, List.map_nil] | simp only [List.map_cons, List.map_nil]); decide +kernel))) (by (with_reducible repeat first | exact Upd.here | exact Upd.mid | apply Upd.there)) ?_
        refine SXs_nil ?_
        refine SXs_cons ?_
        refine SX_Expr ?_
        refine SE_Meth ?_
        refine SE_Name ?_ (by decide +kernel)
        refine SN_loc rfl rfl (by (with_reducible repeat first | exact List.mem_cons_self | refine List.mem_cons_of_mem _ ?_ | assumption | exact mem_mid' | exact mem_mid (by assumption))) (by with_reducible rfl) (by (with_reducible repeat first | exact List.mem_cons_self | refine List.mem_cons_of_mem _ ?_ | assumption | exact mem_mid' | exact mem_mid (by assumption))) ?_
        refine mth_list (by (with_reducible repeat first | exact List.mem_cons_self | refine List.mem_cons_of_mem _ ?_ | assumption | exact mem_mid' | exact mem_mid (by assumption))) PySem.F.slot_list_append PySem.F.type_list_append ?_
        refine SEs_cons ?_
        refine SE_TupleF ?_
        refine SEs_cons ?_
        refine SE_Name ?_ (by decide +kernel)
        refine SN_loc rfl rfl (by (with_reducible repeat first | exact List.mem_cons_self | refine List.mem_cons_of_mem _ ?_ | assumption | exact mem_mid' | exact mem_mid (by assumption))) (by with_reducible rfl) (by (with_reducible repeat first | exact List.mem_cons_self | refine List.mem_cons_of_mem _ ?_ | assumption | exact mem_mid' | exact mem_mid (by assumption))) ?_
        refine SEs_cons ?_
        refine SE_Name ?_ (by decide +kernel)
        refine SN_loc rfl rfl (by (with_reducible repeat first | exact List.mem_cons_self | refine List.mem_cons_of_mem _ ?_ | assumption | exact mem_mid' | exact mem_mid (by assumption))) (by with_reducible rfl) (by (with_reducible repeat first | exact List.mem_cons_self | refine List.mem_cons_of_mem _ ?_ | assumption | exact mem_mid' | exact mem_mid (by assumption))) ?_
        refine SEs_nil ?_
        with_reducible refine ⟨_, by with_reducible ((first | exact AllDat.map _ | repeat first | exact AllDat.nil | with_reducible apply AllDat.cons)), by ((rw [sizeLine_eq]; simp)), ?_⟩
        refine SEs_nil ?_
        with_reducible refine ⟨kp_builtin, ?_⟩
        refine call_append (by (with_reducible repeat first | exact Upd.here | exact Upd.mid | apply Upd.there)) (by ((rw [sizeLine_eq]; (try simp only [List.length_append, List.length_cons, List.length_nil, List.length_map]); (first | decide | exact Nat.le_trans (by assumption) (by decide) | lia | omega)))) ?_
        refine SXs_cons ?_
        refine SX_Expr ?_
        refine SE_Meth ?_
        refine SE_Name ?_ (by decide +kernel)
        refine SN_loc rfl rfl (by (with_reducible repeat first | exact List.mem_cons_self | refine List.mem_cons_of_mem _ ?_ | assumption | exact mem_mid' | exact mem_mid (by assumption))) (by with_reducible rfl) (by (with_reducible repeat first | exact List.mem_cons_self | refine List.mem_cons_of_mem _ ?_ | assumption | exact mem_mid' | exact mem_mid (by assumption))) ?_
        refine mth_inst (cls01 hK) (by (with_reducible repeat first | exact List.mem_cons_self | refine List.mem_cons_of_mem _ ?_ | assumption | exact mem_mid' | exact mem_mid (by assumption))) (by (with_reducible repeat first | exact List.mem_cons_self | refine List.mem_cons_of_mem _ ?_ | assumption | exact mem_mid' | exact mem_mid (by assumption))) (by rw [hK]; rfl) (by rw [hK]; rfl) h4 ?_
        refine SEs_cons ?_
        refine SE_Name ?_ (by decide +kernel)
        refine SN_loc rfl rfl (by (with_reducible repeat first | exact List.mem_cons_self | refine List.mem_cons_of_mem _ ?_ | assumption | exact mem_mid' | exact mem_mid (by assumption))) (by with_reducible rfl) (by (with_reducible repeat first | exact List.mem_cons_self | refine List.mem_cons_of_mem _ ?_ | assumption | exact mem_mid' | exact mem_mid (by assumption))) ?_
        refine SEs_cons ?_
        refine SE_strL (by (first | exact l01_0 | exact l01_1 | exact l01_2 | exact l01_3 | exact l01_4 | exact l01_5 | exact l01_6 | exact l01_7 | exact l01_8 | exact l01_9)) ?_
        refine SEs_cons ?_
        refine SE_Name ?_ (by decide +kernel)
        refine SN_loc rfl rfl (by (with_reducible repeat first | exact List.mem_cons_self | refine List.mem_cons_of_mem _ ?_ | assumption | exact mem_mid' | exact mem_mid (by assumption))) (by with_reducible rfl) (by (with_reducible repeat first | exact List.mem_cons_self | refine List.mem_cons_of_mem _ ?_ | assumption | exact mem_mid' | exact mem_mid (by assumption))) ?_
        refine SEs_nil ?_
        refine ⟨kp_K (by rw [hK]; rfl), SLC.call (SLC.mono (ih (pre := (L, _) :: pre) (post := post) (A := A.deeper _) (fun W A own Q q => tr_strS (by ((rw [sizeLine_eq]; simp))) q) hh ?_ (by exact List.mem_cons_of_mem _ h1) (by exact List.mem_cons_of_mem _ h2) h3 h4 ?_ ?_) ?_)⟩
        · rw [depth_deeper]; (first | decide | exact Nat.le_trans (by assumption) (by decide) | lia | omega)
        · simp only [List.length_append, List.length_cons, List.length_nil]; (first | decide | exact Nat.le_trans (by assumption) (by decide) | lia | omega)
        · simp only [List.length_append, List.length_cons, List.length_nil]; (first | decide | exact Nat.le_trans (by assumption) (by decide) | lia | omega)
        · rintro r o ⟨rfl, rfl⟩
          refine SXs_nil ?_
          refine ⟨_, .drop .refl, rfl, ?_⟩
          show pre ++ _ = _
          rw [rows_cons]
      · have h7' : mark = [] := by simpa using h7
        rw [line2, if_pos h7'] at ih
        rw [line1, if_pos h7']
        dsimp only at ih ⊢
        refine SXs_nil ?_
        refine SXs_cons ?_
        refine SX_Expr ?_
        refine SE_Meth ?_
        refine SE_Name ?_ (by decide +kernel)
        refine SN_loc rfl rfl (by (with_reducible repeat first | exact List.mem_cons_self | refine List.mem_cons_of_mem _ ?_ | assumption | exact mem_mid' | exact mem_mid (by assumption))) (by with_reducible rfl) (by (with_reducible repeat first | exact List.mem_cons_self | refine List.mem_cons_of_mem _ ?_ | assumption | exact mem_mid' | exact mem_mid (by assumption))) ?_
        refine mth_list (by (with_reducible repeat first | exact List.mem_cons_self | refine List.mem_cons_of_mem _ ?_ | assumption | exact mem_mid' | exact mem_mid (by assumption))) PySem.F.slot_list_append PySem.F.type_list_append ?_
        refine SEs_cons ?_
        refine SE_TupleF ?_
        refine SEs_cons ?_
        refine SE_Name ?_ (by decide +kernel)
        refine SN_loc rfl rfl (by (with_reducible repeat first | exact List.mem_cons_self | refine List.mem_cons_of_mem _ ?_ | assumption | exact mem_mid' | exact mem_mid (by assumption))) (by with_reducible rfl) (by (with_reducible repeat first | exact List.mem_cons_self | refine List.mem_cons_of_mem _ ?_ | assumption | exact mem_mid' | exact mem_mid (by assumption))) ?_
        refine SEs_cons ?_
        refine SE_Name ?_ (by decide +kernel)
        refine SN_loc rfl rfl (by (with_reducible repeat first | exact List.mem_cons_self | refine List.mem_cons_of_mem _ ?_ | assumption | exact mem_mid' | exact mem_mid (by assumption))) (by with_reducible rfl) (by (with_reducible repeat first | exact List.mem_cons_self | refine List.mem_cons_of_mem _ ?_ | assumption | exact mem_mid' | exact mem_mid (by assumption))) ?_
        refine SEs_nil ?_
        with_reducible refine ⟨_, by with_reducible ((first | exact AllDat.map _ | repeat first | exact AllDat.nil | with_reducible apply AllDat.cons)), by ((rw [sizeLine_eq]; simp)), ?_⟩
        refine SEs_nil ?_
        with_reducible refine ⟨kp_builtin, ?_⟩
        refine call_append (by (with_reducible repeat first | exact Upd.here | exact Upd.mid | apply Upd.there)) (by ((rw [sizeLine_eq]; (try simp only [List.length_append, List.length_cons, List.length_nil, List.length_map]); (first | decide | exact Nat.le_trans (by assumption) (by decide) | lia | omega)))) ?_
        refine SXs_cons ?_
        refine SX_Expr ?_
        refine SE_Meth ?_
        refine SE_Name ?_ (by decide +kernel)
        refine SN_loc rfl rfl (by (with_reducible repeat first | exact List.mem_cons_self | refine List.mem_cons_of_mem _ ?_ | assumption | exact mem_mid' | exact mem_mid (by assumption))) (by with_reducible rfl) (by (with_reducible repeat first | exact List.mem_cons_self | refine List.mem_cons_of_mem _ ?_ | assumption | exact mem_mid' | exact mem_mid (by assumption))) ?_
        refine mth_inst (cls01 hK) (by (with_reducible repeat first | exact List.mem_cons_self | refine List.mem_cons_of_mem _ ?_ | assumption | exact mem_mid' | exact mem_mid (by assumption))) (by (with_reducible repeat first | exact List.mem_cons_self | refine List.mem_cons_of_mem _ ?_ | assumption | exact mem_mid' | exact mem_mid (by assumption))) (by rw [hK]; rfl) (by rw [hK]; rfl) h4 ?_
        refine SEs_cons ?_
        refine SE_Name ?_ (by decide +kernel)
        refine SN_loc rfl rfl (by (with_reducible repeat first | exact List.mem_cons_self | refine List.mem_cons_of_mem _ ?_ | assumption | exact mem_mid' | exact mem_mid (by assumption))) (by with_reducible rfl) (by (with_reducible repeat first | exact List.mem_cons_self | refine List.mem_cons_of_mem _ ?_ | assumption | exact mem_mid' | exact mem_mid (by assumption))) ?_
        refine SEs_cons ?_
        refine SE_strL (by (first | exact l01_0 | exact l01_1 | exact l01_2 | exact l01_3 | exact l01_4 | exact l01_5 | exact l01_6 | exact l01_7 | exact l01_8 | exact l01_9)) ?_
        refine SEs_cons ?_
        refine SE_Name ?_ (by decide +kernel)
        refine SN_loc rfl rfl (by (with_reducible repeat first | exact List.mem_cons_self | refine List.mem_cons_of_mem _ ?_ | assumption | exact mem_mid' | exact mem_mid (by assumption))) (by with_reducible rfl) (by (with_reducible repeat first | exact List.mem_cons_self | refine List.mem_cons_of_mem _ ?_ | assumption | exact mem_mid' | exact mem_mid (by assumption))) ?_
        refine SEs_nil ?_
        refine ⟨kp_K (by rw [hK]; rfl), SLC.call (SLC.mono (ih (pre := (L, _) :: pre) (post := post) (A := A.deeper _) (fun W A own Q q => tr_strS (by ((rw [sizeLine_eq]; simp))) q) hh ?_ (by exact List.mem_cons_of_mem _ h1) (by exact List.mem_cons_of_mem _ h2) h3 h4 ?_ ?_) ?_)⟩
        · rw [depth_deeper]; (first | decide | exact Nat.le_trans (by assumption) (by decide) | lia | omega)
        · (try simp only [List.length_append, List.length_cons, List.length_nil]); (first | decide | exact Nat.le_trans (by assumption) (by decide) | lia | omega)
        · (try simp only [List.length_append, List.length_cons, List.length_nil]); (first | decide | exact Nat.le_trans (by assumption) (by decide) | lia | omega)
        · rintro r o ⟨rfl, rfl⟩
          refine SXs_nil ?_
          refine ⟨_, .drop .refl, rfl, ?_⟩
          show pre ++ _ = _
          rw [rows_cons]
/-- a side without a number -/
theorem c_split0 (hK : K01 W) {A : Around} {pre post : Own} {D x : Addr} {l : List V} {text : List Nat} (hd : A.depth < recursionLimit) (hl : l.length ≤ 100000) :
    SLC W A (.ref 67) [.ref x, .ref D, .str (S []), .str (S text)] (pre ++ (D, .list l) :: post) (fun r o => r = .none ∧ o = pre ++ (D, .list (l ++ [V.tup [.str (S []), .str (S text)]])) :: post) := by
  refine' do_callC [Str.ofString "self", Str.ofString "data_list", Str.ofString "line_num", Str.ofString "text"] ?ho ?hcd (by omega) ?hb ?hloc ?nd ?hh3 ?c1 ?c2 ?c3 ?c4
  case ho => exact K_of hK rfl
  case hcd => rw [hK]; rfl
  case hb => intro s vs _ hl; obtain ⟨_, _, _, _, rfl⟩ := len_4 hl; exact BindsTo.of_eq rfl
  case hloc => decide +kernel
  case nd => decide +kernel
  case c1 => rfl
  case c2 => rfl
  case c3 => rfl
  case c4 => decide +kernel
  intro L
  dsimp only [lawS, nthS, fdB, fdS, clB, PySem.Challenge.pw_dm0066_01]
  simp only [List.zip_cons_cons, List.zip_nil_right]
  refine SXs_cons ?_
  refine SX_If ?_
  refine ST_not ?_
  refine ST_plain ?_
  refine SE_Name ?_ (by decide +kernel)
  refine SN_loc rfl rfl (by (with_reducible repeat first | exact List.mem_cons_self | refine List.mem_cons_of_mem _ ?_ | assumption | exact mem_mid' | exact mem_mid (by assumption))) (by with_reducible rfl) (by (with_reducible repeat first | exact List.mem_cons_self | refine List.mem_cons_of_mem _ ?_ | assumption | exact mem_mid' | exact mem_mid (by assumption))) ?_
  refine tr_strS (by ((rw [sizeLine_eq]; simp))) ?_
  rw [show decide (([] : List Nat) ≠ []) = false from rfl]
  with_reducible refine ite_nf ?_
  refine SXs_cons ?_
  refine SX_Expr ?_
  refine SE_Meth ?_
  refine SE_Name ?_ (by decide +kernel)
  refine SN_loc rfl rfl (by (with_reducible repeat first | exact List.mem_cons_self | refine List.mem_cons_of_mem _ ?_ | assumption | exact mem_mid' | exact mem_mid (by assumption))) (by with_reducible rfl) (by (with_reducible repeat first | exact List.mem_cons_self | refine List.mem_cons_of_mem _ ?_ | assumption | exact mem_mid' | exact mem_mid (by assumption))) ?_
  refine mth_list (by (with_reducible repeat first | exact List.mem_cons_self | refine List.mem_cons_of_mem _ ?_ | assumption | exact mem_mid' | exact mem_mid (by assumption))) PySem.F.slot_list_append PySem.F.type_list_append ?_
  refine SEs_cons ?_
  refine SE_TupleF ?_
  refine SEs_cons ?_
  refine SE_Name ?_ (by decide +kernel)
  refine SN_loc rfl rfl (by (with_reducible repeat first | exact List.mem_cons_self | refine List.mem_cons_of_mem _ ?_ | assumption | exact mem_mid' | exact mem_mid (by assumption))) (by with_reducible rfl) (by (with_reducible repeat first | exact List.mem_cons_self | refine List.mem_cons_of_mem _ ?_ | assumption | exact mem_mid' | exact mem_mid (by assumption))) ?_
  refine SEs_cons ?_
  refine SE_Name ?_ (by decide +kernel)
  refine SN_loc rfl rfl (by (with_reducible repeat first | exact List.mem_cons_self | refine List.mem_cons_of_mem _ ?_ | assumption | exact mem_mid' | exact mem_mid (by assumption))) (by with_reducible rfl) (by (with_reducible repeat first | exact List.mem_cons_self | refine List.mem_cons_of_mem _ ?_ | assumption | exact mem_mid' | exact mem_mid (by assumption))) ?_
  refine SEs_nil ?_
  with_reducible refine ⟨_, by with_reducible ((first | exact AllDat.map _ | repeat first | exact AllDat.nil | with_reducible apply AllDat.cons)), by ((rw [sizeLine_eq]; simp)), ?_⟩
  refine SEs_nil ?_
  with_reducible refine ⟨kp_builtin, ?_⟩
  refine call_append (by (with_reducible repeat first | exact Upd.here | exact Upd.mid | apply Upd.there)) (by ((rw [sizeLine_eq]; (try simp only [List.length_append, List.length_cons, List.length_nil, List.length_map]); (first | decide | exact Nat.le_trans (by assumption) (by decide) | lia | omega)))) ?_
  refine SXs_cons ?_
  refine SX_Return0 ?_
  exact ⟨_, .drop .refl, rfl, rfl⟩
/-! ### the wrapper: what it gives -/
noncomputable abbrev padD : PyData := .tuple [.str (S []), .str (S [32])]
noncomputable def zipT (flag : PyData) : List PyData → List PyData → List PyData
  | [], l => l.map fun b => .tuple [padD, b, flag]
  | a :: r, [] => .tuple [a, padD, flag] :: zipT flag r []
  | a :: r, b :: r' => .tuple [a, b, flag] :: zipT flag r r'
theorem zT0 {flag : PyData} : zipT flag [] [] = [] := rfl
theorem zT1 {flag a : PyData} {r : List PyData} : zipT flag (a :: r) [] = .tuple [a, padD, flag] :: zipT flag r [] := rfl
theorem zT2 {flag b : PyData} {r : List PyData} : zipT flag [] (b :: r) = .tuple [padD, b, flag] :: zipT flag [] r := rfl
theorem zT3 {flag a b : PyData} {r r' : List PyData} : zipT flag (a :: r) (b :: r') = .tuple [a, b, flag] :: zipT flag r r' := rfl
/-- what the splitter lays for a side -/
noncomputable def SplitsTo (col : Nat) (num : PyData) (text : List Nat) (out : List PyData) : Prop :=
  (num = .str (S []) ∧ out = [.tuple [num, .str (S text)]]) ∨
  ((∀ (W : Wd) (A : Around) (own : Own) (Q : Bool → Own → Prop), Q true own → S1 W A RB truthy (.dat num) own Q) ∧ ∃ ps, Splits col text ps ∧ out = rowsD num ps ∧ ps.length ≤ 50 ∧ text.length ≤ 1000)
theorem SplitsTo.len {col : Nat} {num : PyData} {text : List Nat} {out : List PyData} (h : SplitsTo col num text out) : 1 ≤ out.length ∧ out.length ≤ 50 := by
  rcases h with ⟨_, rfl⟩ | ⟨_, ps, sp, rfl, hl, _⟩
  · simp
  · have : ∀ ps, (rowsD num ps).length = ps.length := fun ps => by cases ps <;> simp [rowsD]
    rw [this]
    refine ⟨?_, hl⟩
    cases sp <;> simp
/-- the rows that come of one row of the source -/
noncomputable def DueR (col : Nat) (r : PyData) (out : List PyData) : Prop := ∃ a b flag, r = .tuple [a, b, flag] ∧
  ((flag = .none ∧ out = [r]) ∨ (isNoneD flag = false ∧ ∃ na ta nb tb pa pb, a = .tuple [na, .str (S ta)] ∧ b = .tuple [nb, .str (S tb)] ∧ SplitsTo col na ta pa ∧ SplitsTo col nb tb pb ∧ out = zipT flag pa pb))
noncomputable abbrev attC (col : Int) : List (Str × V) := [(Str.ofString "_tabsize", V.int 8), (Str.ofString "_wrapcolumn", V.int col), (Str.ofString "_linejunk", V.none), (Str.ofString "_charjunk", V.ref 29)]
/-- a generator of the wrapper: its own things, what it has still to give, n steps on -/
noncomputable def GP (W : Wd) (it x dx : Addr) : Nat → Own → List PyData → GenState → Prop
  | 0, _, _, _ => True
  | n + 1, go, pend, gs => ∀ (A : Around) (fz : Heap) (s : Shared) (ga : Addr) (g : Nat) (o : Own) (rows : List PyData) (col : Nat) (out : List PyData), A.handled = none → A.depth < 500 → 0 < col →
      Hold W fz ((ga, .gen g (· = .running)) :: (go ++ o)) s → W.tk ≤ s.toks → (it, Ob.prop (LItP (rows.map V.dat))) ∈ o → (x, Ob.obj (instObj 113 dx)) ∈ o → (dx, Ob.att (attC col)) ∈ o →
      (∀ r rs, rows = r :: rs → DueR col r out) →
      Wake (model W.prog W.w) A (OutG W fz ga g (fun b P o1 => ∃ go' pend' rows' row o', b = .dat row ∧ o1 = go' ++ o' ∧ Upd it (.prop (LItP (rows.map V.dat))) (.prop (LItP (rows'.map V.dat))) o o' ∧
          ((pend = row :: pend' ∧ rows' = rows) ∨ (pend = [] ∧ ∃ r, rows = r :: rows' ∧ out = row :: pend')) ∧ P = GP W it x dx n go' pend')
        (fun o1 => pend = [] ∧ rows = [] ∧ o1 = o)) gs s
theorem Upd.of_mem {a : Addr} {ob : Ob} (ob' : Ob) : ∀ {l : Own}, (a, ob) ∈ l → ∃ l', Upd a ob ob' l l'
  | p :: l, h => by
    by_cases e : p = (a, ob)
    · subst e; exact ⟨_, .here⟩
    · obtain ⟨l', u⟩ := Upd.of_mem ob' (l := l) (by rcases List.mem_cons.mp h with h | h; exact absurd h.symm e; exact h)
      exact ⟨_, .there u⟩
theorem Upd.mem_other {a : Addr} {ob ob' : Ob} {l l' : Own} (u : Upd a ob ob' l l') {p : Addr × Ob} (hp : p ∈ l) (hne : p.1 ≠ a) : p ∈ l' := by
  induction u with
  | here => rcases List.mem_cons.mp hp with h | h; exact absurd (by rw [h]) hne; exact List.mem_cons_of_mem _ h
  | there _ ih => rcases List.mem_cons.mp hp with h | h; exact h ▸ List.mem_cons_self; exact List.mem_cons_of_mem _ (ih h)
theorem Upd.split {a : Addr} {ob ob' : Ob} {l l' : Own} (u : Upd a ob ob' l l') : ∃ pre post, l = pre ++ (a, ob) :: post ∧ l' = pre ++ (a, ob') :: post := by
  induction u with
  | here => exact ⟨[], _, rfl, rfl⟩
  | @there p _ _ _ ih => obtain ⟨pre, post, rfl, rfl⟩ := ih; exact ⟨p :: pre, post, rfl, rfl⟩
theorem c_splitTo (hK : K01 W) {col : Nat} {num : PyData} {text : List Nat} {out : List PyData} (sp : SplitsTo col num text out) (hcol : 0 < col) (hh : A.handled = none) (hd : A.depth + 60 < recursionLimit) {own' : Own} {D x dx : Addr} {l : List V}
    (u : Upd D (.list l) (.list (l ++ out.map V.dat)) own own') (h1 : (x, Ob.obj (instObj 113 dx)) ∈ own) (h2 : (dx, Ob.att (attC col)) ∈ own) (hl : l.length ≤ 1000) :
    SLC W A (.ref 67) [.ref x, .ref D, .dat num, .str (S text)] own (fun r o => r = .none ∧ o = own') := by
  obtain ⟨pre, post, rfl, rfl⟩ := u.split
  have mem : ∀ {p : Addr × Ob}, p ∈ pre ++ (D, Ob.list l) :: post → p.2 ≠ Ob.list l → p ∈ pre ++ post := fun {p} hp hne => by
    rcases List.mem_append.mp hp with h | h
    · exact List.mem_append_left _ h
    · rcases List.mem_cons.mp h with h | h
      · exact absurd (by rw [h]) hne
      · exact List.mem_append_right _ h
  rcases sp with ⟨rfl, rfl⟩ | ⟨hnum, ps, sp, rfl, hps, htx⟩
  · exact c_split0 hK (by (first | decide | exact Nat.le_trans (by assumption) (by decide) | lia | omega)) (by (first | decide | exact Nat.le_trans (by assumption) (by decide) | lia | omega))
  · exact c_split hK sp hcol hnum hh (by (first | decide | exact Nat.le_trans (by assumption) (by decide) | lia | omega)) (mem h1 (fun e => nomatch e)) (mem h2 (fun e => nomatch e)) (by (with_reducible repeat first | exact List.mem_cons_self | refine List.mem_cons_of_mem _ ?_ | assumption | exact mem_mid' | exact mem_mid (by assumption))) (by (((first | dsimp only [List.map_cons, List.map_nil] | simp only [List.map_cons, List.map_nil]); decide +kernel))) (by (first | decide | exact Nat.le_trans (by assumption) (by decide) | lia | omega)) (by (first | decide | exact Nat.le_trans (by assumption) (by decide) | lia | omega))
section
variable {it x dx ga L : Addr} {g : Nat} {tq : Str} {ts : Scope} {tc : Value} {tb : List Stmt} {name qual : Str} {params : Arguments} {scope : Scope} {dV kV doc pm cdv ct oc : Value} {an od : Option Addr} {osl : Array (Option Value)} {target iter btest test : Expr} {ys cs s2 s3 s4 s5 : Stmt} {wbody : List Stmt} {pos p1 wpos : Pos}
noncomputable abbrev KU : Flow → Sem Fin := fun f => .pure (.done (.ret (match f with | .ret v => v | _ => .none)))
noncomputable abbrev HU (env : Env) : Value → Sem Fin := fun e => (leaving env e).wrap (fun _ => .raise e) .raise id id
noncomputable abbrev fF (env : Env) (cU : Code) (p : Pos) : Frame := .ret (kBack env (kNext env [] KU (HU env) id id) (HU env) id id) none false [] cU p []
noncomputable abbrev fW (env : Env) (cF : Code) (p : Pos) : Frame := .ret (kBack env (kNext env [] (kTurn cF) (hTurn env) id id) (hTurn env) id id) none false [] cF p []
noncomputable abbrev locF (x it : Addr) : List (Str × V) := [(Str.ofString "self", .ref x), (Str.ofString "diffs", .ref it)]
noncomputable abbrev locW (x it F T : Addr) (flag : PyData) : List (Str × V) := [(Str.ofString "self", .ref x), (Str.ofString "diffs", .ref it), (Str.ofString "flag", .dat flag), (Str.ofString "tolist", .ref T), (Str.ofString "fromlist", .ref F)]


theorem seg_whileA (hK : K01 W) (hT : txtO (W.K.lookup 74) = some (tq, ts, tc, tb))
    {Φ : End → Shared → Prop} {fz₀ : Heap} {o : Own} {flag : PyData} {F T : Addr} {fl tl : List PyData} {pp p2 : Pos} (hA : A.handled = none) (hfl : fl.length ≤ 60) (htl : tl.length ≤ 60)
    (hy : ∀ row pend', zipT flag fl tl = row :: pend' → ∀ fz s v l k p fl' tl', Keep fz₀ fz → Hold W fz ((ga, .gen g (· = .running)) :: (L, .ns (locW x it F T flag)) :: (F, .list (fl'.map V.dat)) :: (T, .list (tl'.map V.dat)) :: o) s → W.tk ≤ s.toks → RV fz (.dat row) v → zipT flag fl' tl' = pend' → fl'.length ≤ 60 → tl'.length ≤ 60 →
      k (.send .none) = .pure (.again (.whileLoop (whT (nthS (forB (nthS tb 0)) 5)) (whB (nthS (forB (nthS tb 0)) 5)) [] (envX tq ts L 74 tc []))) → Φ (.susp v false l k (.whileLoop (whT (nthS (forB (nthS tb 0)) 5)) (whB (nthS (forB (nthS tb 0)) 5)) [] (envX tq ts L 74 tc [])) p [fW (envX tq ts L 74 tc []) (.forLoop (forT (nthS tb 0)) (.ref it) (forB (nthS tb 0)) [] (envX tq ts L 74 tc [])) pp, fF (envX tq ts L 74 tc []) (.func tb (envX tq ts L 74 tc [])) p2]) s)
    (hend : fl = [] → tl = [] → Gk W A Φ fz₀ (.forLoop (forT (nthS tb 0)) (.ref it) (forB (nthS tb 0)) [] (envX tq ts L 74 tc [])) [fF (envX tq ts L 74 tc []) (.func tb (envX tq ts L 74 tc [])) p2]
      ((model W.prog W.w).den (.forLoop (forT (nthS tb 0)) (.ref it) (forB (nthS tb 0)) [] (envX tq ts L 74 tc []))) ((ga, .gen g (· = .running)) :: (L, .ns (locF x it)) :: o)) :
    Gk W A Φ fz₀ (.whileLoop (whT (nthS (forB (nthS tb 0)) 5)) (whB (nthS (forB (nthS tb 0)) 5)) [] (envX tq ts L 74 tc [])) [fW (envX tq ts L 74 tc []) (.forLoop (forT (nthS tb 0)) (.ref it) (forB (nthS tb 0)) [] (envX tq ts L 74 tc [])) pp, fF (envX tq ts L 74 tc []) (.func tb (envX tq ts L 74 tc [])) p2]
      ((model W.prog W.w).den (.whileLoop (whT (nthS (forB (nthS tb 0)) 5)) (whB (nthS (forB (nthS tb 0)) 5)) [] (envX tq ts L 74 tc []))) ((ga, .gen g (· = .running)) :: (L, .ns (locW x it F T flag)) :: (F, .list (fl.map V.dat)) :: (T, .list (tl.map V.dat)) :: o) := by
  rw [K_of (a := 74) hK rfl] at hT
  change some (_, _, _, _) = _ at hT
  cases hT
  dsimp only [lawS, fdB, fdS, clB, PySem.Challenge.pw_dm0066_01, nthS, forT, forB, whT, whB, ifB, List.tail_cons] at *
  have hh : ∀ c fs, (∀ f ∈ fs, ∃ k g l c p kp, f = Frame.ret k none g l c p kp) → (A.over c fs).handled = none := fun c fs hfs => by
    show (marksOver fs (A.handled, A.handled)).1 = none
    rw [hA]
    have key : ∀ fs : List Frame, (∀ f ∈ fs, ∃ k g l c p kp, f = Frame.ret k none g l c p kp) → marksOver fs (none, none) = (none, none) := by
      intro fs
      induction fs with
      | nil => intro _; rfl
      | cons f r ih =>
        intro h
        obtain ⟨k, g, l, c, p, kp, rfl⟩ := h f List.mem_cons_self
        have e := ih fun f hf => h f (List.mem_cons_of_mem _ hf)
        unfold marksOver at e ⊢
        rw [List.foldr_cons, e]; rfl
    rw [key fs hfs]
  rcases fl with _ | ⟨a, fl⟩ <;> rcases tl with _ | ⟨b, tl⟩ <;> simp only [List.map_cons, List.map_nil, List.length_cons, List.length_nil] at hfl htl ⊢
  · refine gk_whileTurn ?_
    refine SG_or ?_
    refine ST_plain ?_
    refine SE_Name ?_ (by decide +kernel)
    refine SN_loc rfl rfl (by (with_reducible repeat first | exact List.mem_cons_self | refine List.mem_cons_of_mem _ ?_ | assumption | exact mem_mid' | exact mem_mid (by assumption))) (by with_reducible rfl) (by (with_reducible repeat first | exact List.mem_cons_self | refine List.mem_cons_of_mem _ ?_ | assumption | exact mem_mid' | exact mem_mid (by assumption))) ?_
    refine tr_own (by (with_reducible repeat first | exact List.mem_cons_self | refine List.mem_cons_of_mem _ ?_ | assumption | exact mem_mid' | exact mem_mid (by assumption))) (by ((rw [sizeLine_eq]; (try simp only [List.length_append, List.length_cons, List.length_nil, List.length_map]); (first | decide | exact Nat.le_trans (by assumption) (by decide) | lia | omega)))) ?_
    rw [show decide (([] : List V) ≠ []) = false from decide_eq_false (by simp)]
    with_reducible refine ite_ff' ?_
    refine SG_or ?_
    refine ST_plain ?_
    refine SE_Name ?_ (by decide +kernel)
    refine SN_loc rfl rfl (by (with_reducible repeat first | exact List.mem_cons_self | refine List.mem_cons_of_mem _ ?_ | assumption | exact mem_mid' | exact mem_mid (by assumption))) (by with_reducible rfl) (by (with_reducible repeat first | exact List.mem_cons_self | refine List.mem_cons_of_mem _ ?_ | assumption | exact mem_mid' | exact mem_mid (by assumption))) ?_
    refine tr_own (by (with_reducible repeat first | exact List.mem_cons_self | refine List.mem_cons_of_mem _ ?_ | assumption | exact mem_mid' | exact mem_mid (by assumption))) (by ((rw [sizeLine_eq]; (try simp only [List.length_append, List.length_cons, List.length_nil, List.length_map]); (first | decide | exact Nat.le_trans (by assumption) (by decide) | lia | omega)))) ?_
    rw [show decide (([] : List V) ≠ []) = false from decide_eq_false (by simp)]
    with_reducible refine ite_ff' ?_
    refine SG_or_nil ?_
    with_reducible refine ite_ff' ?_
    refine gk_leaf (gk_back (gk_nil (gk_again rfl ?_)))
    exact Gk.wk (by (with_reducible repeat first | exact Wk.refl | exact Wk.nil | refine Wk.keep ObW.refl ?_ | refine Wk.keep (ObW.ns (by (with_reducible repeat first | exact List.Sublist.refl _ | exact List.nil_sublist _ | apply List.Sublist.cons_cons | apply List.Sublist.cons))) ?_ | apply Wk.drop)) (hend rfl rfl)
  · skip
    refine gk_whileTurn ?_
    refine SG_or ?_
    refine ST_plain ?_
    refine SE_Name ?_ (by decide +kernel)
    refine SN_loc rfl rfl (by (with_reducible repeat first | exact List.mem_cons_self | refine List.mem_cons_of_mem _ ?_ | assumption | exact mem_mid' | exact mem_mid (by assumption))) (by with_reducible rfl) (by (with_reducible repeat first | exact List.mem_cons_self | refine List.mem_cons_of_mem _ ?_ | assumption | exact mem_mid' | exact mem_mid (by assumption))) ?_
    refine tr_own (by (with_reducible repeat first | exact List.mem_cons_self | refine List.mem_cons_of_mem _ ?_ | assumption | exact mem_mid' | exact mem_mid (by assumption))) (by ((rw [sizeLine_eq]; (try simp only [List.length_append, List.length_cons, List.length_nil, List.length_map]); (first | decide | exact Nat.le_trans (by assumption) (by decide) | lia | omega)))) ?_
    rw [show decide (([] : List V) ≠ []) = false from decide_eq_false (by simp)]
    with_reducible refine ite_ff' ?_
    refine SG_or ?_
    refine ST_plain ?_
    refine SE_Name ?_ (by decide +kernel)
    refine SN_loc rfl rfl (by (with_reducible repeat first | exact List.mem_cons_self | refine List.mem_cons_of_mem _ ?_ | assumption | exact mem_mid' | exact mem_mid (by assumption))) (by with_reducible rfl) (by (with_reducible repeat first | exact List.mem_cons_self | refine List.mem_cons_of_mem _ ?_ | assumption | exact mem_mid' | exact mem_mid (by assumption))) ?_
    refine tr_own (by (with_reducible repeat first | exact List.mem_cons_self | refine List.mem_cons_of_mem _ ?_ | assumption | exact mem_mid' | exact mem_mid (by assumption))) (by ((rw [sizeLine_eq]; (try simp only [List.length_append, List.length_cons, List.length_nil, List.length_map]); (first | decide | exact Nat.le_trans (by assumption) (by decide) | lia | omega)))) ?_
    rw [show decide (V.dat b :: tl.map V.dat ≠ []) = true from decide_eq_true (by simp)]
    with_reducible refine ite_tt' ?_
    with_reducible refine ite_tt' ?_
    refine gk_cons (gk_plain ?_)
    refine SX_If ?_
    refine ST_plain ?_
    refine SE_Name ?_ (by decide +kernel)
    refine SN_loc rfl rfl (by (with_reducible repeat first | exact List.mem_cons_self | refine List.mem_cons_of_mem _ ?_ | assumption | exact mem_mid' | exact mem_mid (by assumption))) (by with_reducible rfl) (by (with_reducible repeat first | exact List.mem_cons_self | refine List.mem_cons_of_mem _ ?_ | assumption | exact mem_mid' | exact mem_mid (by assumption))) ?_
    refine tr_own (by (with_reducible repeat first | exact List.mem_cons_self | refine List.mem_cons_of_mem _ ?_ | assumption | exact mem_mid' | exact mem_mid (by assumption))) (by ((rw [sizeLine_eq]; (try simp only [List.length_append, List.length_cons, List.length_nil, List.length_map]); (first | decide | exact Nat.le_trans (by assumption) (by decide) | lia | omega)))) ?_
    rw [show decide (([] : List V) ≠ []) = false from decide_eq_false (by simp)]
    with_reducible refine ite_ff' ?_
    refine SXs_cons ?_
    refine SX_Assign ?_
    refine SE_TupleF ?_
    refine SEs_cons ?_
    refine SE_strL (by (first | exact l01_0 | exact l01_1 | exact l01_2 | exact l01_3 | exact l01_4 | exact l01_5 | exact l01_6 | exact l01_7 | exact l01_8 | exact l01_9)) ?_
    refine SEs_cons ?_
    refine SE_strL (by (first | exact l01_0 | exact l01_1 | exact l01_2 | exact l01_3 | exact l01_4 | exact l01_5 | exact l01_6 | exact l01_7 | exact l01_8 | exact l01_9)) ?_
    refine SEs_nil ?_
    with_reducible refine ⟨_, by with_reducible ((first | exact AllDat.map _ | repeat first | exact AllDat.nil | with_reducible apply AllDat.cons)), by ((rw [sizeLine_eq]; simp)), ?_⟩
    refine SS_loc rfl rfl (by (with_reducible repeat first | exact List.mem_cons_self | refine List.mem_cons_of_mem _ ?_ | assumption | exact mem_mid' | exact mem_mid (by assumption))) (by with_reducible rfl) (by (with_reducible repeat first | exact Put.here | exact Put.new | apply Put.there)) (by (((first | dsimp only [List.map_cons, List.map_nil] | simp only [List.map_cons, List.map_nil]); decide +kernel))) (by (with_reducible repeat first | exact Upd.here | exact Upd.mid | apply Upd.there)) ?_
    refine SXs_nil ?_
    refine ⟨rfl, gk_cons (gk_plain ?_)⟩
    refine SX_If ?_
    refine ST_plain ?_
    refine SE_Name ?_ (by decide +kernel)
    refine SN_loc rfl rfl (by (with_reducible repeat first | exact List.mem_cons_self | refine List.mem_cons_of_mem _ ?_ | assumption | exact mem_mid' | exact mem_mid (by assumption))) (by with_reducible rfl) (by (with_reducible repeat first | exact List.mem_cons_self | refine List.mem_cons_of_mem _ ?_ | assumption | exact mem_mid' | exact mem_mid (by assumption))) ?_
    refine tr_own (by (with_reducible repeat first | exact List.mem_cons_self | refine List.mem_cons_of_mem _ ?_ | assumption | exact mem_mid' | exact mem_mid (by assumption))) (by ((rw [sizeLine_eq]; (try simp only [List.length_append, List.length_cons, List.length_nil, List.length_map]); (first | decide | exact Nat.le_trans (by assumption) (by decide) | lia | omega)))) ?_
    rw [show decide (V.dat b :: tl.map V.dat ≠ []) = true from decide_eq_true (by simp)]
    with_reducible refine ite_tt' ?_
    refine SXs_cons ?_
    refine SX_Assign ?_
    refine SE_Meth ?_
    refine SE_Name ?_ (by decide +kernel)
    refine SN_loc rfl rfl (by (with_reducible repeat first | exact List.mem_cons_self | refine List.mem_cons_of_mem _ ?_ | assumption | exact mem_mid' | exact mem_mid (by assumption))) (by with_reducible rfl) (by (with_reducible repeat first | exact List.mem_cons_self | refine List.mem_cons_of_mem _ ?_ | assumption | exact mem_mid' | exact mem_mid (by assumption))) ?_
    refine mth_pop (by (with_reducible repeat first | exact List.mem_cons_self | refine List.mem_cons_of_mem _ ?_ | assumption | exact mem_mid' | exact mem_mid (by assumption))) ?_
    refine SEs_cons ?_
    refine SE_int ?_
    refine SEs_nil ?_
    with_reducible refine ⟨kp_builtin, ?_⟩
    refine call_pop0 (by (with_reducible repeat first | exact Upd.here | exact Upd.mid | apply Upd.there)) (by ((rw [sizeLine_eq]; (try simp only [List.length_append, List.length_cons, List.length_nil, List.length_map]); (first | decide | exact Nat.le_trans (by assumption) (by decide) | lia | omega)))) ?_
    refine SS_loc rfl rfl (by (with_reducible repeat first | exact List.mem_cons_self | refine List.mem_cons_of_mem _ ?_ | assumption | exact mem_mid' | exact mem_mid (by assumption))) (by with_reducible rfl) (by (with_reducible repeat first | exact Put.here | exact Put.new | apply Put.there)) (by (((first | dsimp only [List.map_cons, List.map_nil] | simp only [List.map_cons, List.map_nil]); decide +kernel))) (by (with_reducible repeat first | exact Upd.here | exact Upd.mid | apply Upd.there)) ?_
    refine SXs_nil ?_
    refine ⟨rfl, gk_cons (gk_yield rfl ?_)⟩
    refine SE_TupleF ?_
    refine SEs_cons ?_
    refine SE_Name ?_ (by decide +kernel)
    refine SN_loc rfl rfl (by (with_reducible repeat first | exact List.mem_cons_self | refine List.mem_cons_of_mem _ ?_ | assumption | exact mem_mid' | exact mem_mid (by assumption))) (by with_reducible rfl) (by (with_reducible repeat first | exact List.mem_cons_self | refine List.mem_cons_of_mem _ ?_ | assumption | exact mem_mid' | exact mem_mid (by assumption))) ?_
    refine SEs_cons ?_
    refine SE_Name ?_ (by decide +kernel)
    refine SN_loc rfl rfl (by (with_reducible repeat first | exact List.mem_cons_self | refine List.mem_cons_of_mem _ ?_ | assumption | exact mem_mid' | exact mem_mid (by assumption))) (by with_reducible rfl) (by (with_reducible repeat first | exact List.mem_cons_self | refine List.mem_cons_of_mem _ ?_ | assumption | exact mem_mid' | exact mem_mid (by assumption))) ?_
    refine SEs_cons ?_
    refine SE_Name ?_ (by decide +kernel)
    refine SN_loc rfl rfl (by (with_reducible repeat first | exact List.mem_cons_self | refine List.mem_cons_of_mem _ ?_ | assumption | exact mem_mid' | exact mem_mid (by assumption))) (by with_reducible rfl) (by (with_reducible repeat first | exact List.mem_cons_self | refine List.mem_cons_of_mem _ ?_ | assumption | exact mem_mid' | exact mem_mid (by assumption))) ?_
    refine SEs_nil ?_
    with_reducible refine ⟨_, by with_reducible ((first | exact AllDat.map _ | repeat first | exact AllDat.nil | with_reducible apply AllDat.cons)), by ((rw [sizeLine_eq]; simp)), ?_⟩
    intro fz s v l k p k0 Ho ht rv hk
    exact hy _ _ zT2 fz s v l k p [] tl k0 (Wk.hold (by (with_reducible repeat first | exact Wk.refl | exact Wk.nil | refine Wk.keep ObW.refl ?_ | refine Wk.keep (ObW.ns (by (with_reducible repeat first | exact List.Sublist.refl _ | exact List.nil_sublist _ | apply List.Sublist.cons_cons | apply List.Sublist.cons))) ?_ | apply Wk.drop)) Ho) ht rv (by rfl) (by simp_all; try (first | decide | exact Nat.le_trans (by assumption) (by decide) | lia | omega)) (by simp_all; try (first | decide | exact Nat.le_trans (by assumption) (by decide) | lia | omega)) hk
  · skip
    refine gk_whileTurn ?_
    refine SG_or ?_
    refine ST_plain ?_
    refine SE_Name ?_ (by decide +kernel)
    refine SN_loc rfl rfl (by (with_reducible repeat first | exact List.mem_cons_self | refine List.mem_cons_of_mem _ ?_ | assumption | exact mem_mid' | exact mem_mid (by assumption))) (by with_reducible rfl) (by (with_reducible repeat first | exact List.mem_cons_self | refine List.mem_cons_of_mem _ ?_ | assumption | exact mem_mid' | exact mem_mid (by assumption))) ?_
    refine tr_own (by (with_reducible repeat first | exact List.mem_cons_self | refine List.mem_cons_of_mem _ ?_ | assumption | exact mem_mid' | exact mem_mid (by assumption))) (by ((rw [sizeLine_eq]; (try simp only [List.length_append, List.length_cons, List.length_nil, List.length_map]); (first | decide | exact Nat.le_trans (by assumption) (by decide) | lia | omega)))) ?_
    rw [show decide (V.dat a :: fl.map V.dat ≠ []) = true from decide_eq_true (by simp)]
    with_reducible refine ite_tt' ?_
    with_reducible refine ite_tt' ?_
    refine gk_cons (gk_plain ?_)
    refine SX_If ?_
    refine ST_plain ?_
    refine SE_Name ?_ (by decide +kernel)
    refine SN_loc rfl rfl (by (with_reducible repeat first | exact List.mem_cons_self | refine List.mem_cons_of_mem _ ?_ | assumption | exact mem_mid' | exact mem_mid (by assumption))) (by with_reducible rfl) (by (with_reducible repeat first | exact List.mem_cons_self | refine List.mem_cons_of_mem _ ?_ | assumption | exact mem_mid' | exact mem_mid (by assumption))) ?_
    refine tr_own (by (with_reducible repeat first | exact List.mem_cons_self | refine List.mem_cons_of_mem _ ?_ | assumption | exact mem_mid' | exact mem_mid (by assumption))) (by ((rw [sizeLine_eq]; (try simp only [List.length_append, List.length_cons, List.length_nil, List.length_map]); (first | decide | exact Nat.le_trans (by assumption) (by decide) | lia | omega)))) ?_
    rw [show decide (V.dat a :: fl.map V.dat ≠ []) = true from decide_eq_true (by simp)]
    with_reducible refine ite_tt' ?_
    refine SXs_cons ?_
    refine SX_Assign ?_
    refine SE_Meth ?_
    refine SE_Name ?_ (by decide +kernel)
    refine SN_loc rfl rfl (by (with_reducible repeat first | exact List.mem_cons_self | refine List.mem_cons_of_mem _ ?_ | assumption | exact mem_mid' | exact mem_mid (by assumption))) (by with_reducible rfl) (by (with_reducible repeat first | exact List.mem_cons_self | refine List.mem_cons_of_mem _ ?_ | assumption | exact mem_mid' | exact mem_mid (by assumption))) ?_
    refine mth_pop (by (with_reducible repeat first | exact List.mem_cons_self | refine List.mem_cons_of_mem _ ?_ | assumption | exact mem_mid' | exact mem_mid (by assumption))) ?_
    refine SEs_cons ?_
    refine SE_int ?_
    refine SEs_nil ?_
    with_reducible refine ⟨kp_builtin, ?_⟩
    refine call_pop0 (by (with_reducible repeat first | exact Upd.here | exact Upd.mid | apply Upd.there)) (by ((rw [sizeLine_eq]; (try simp only [List.length_append, List.length_cons, List.length_nil, List.length_map]); (first | decide | exact Nat.le_trans (by assumption) (by decide) | lia | omega)))) ?_
    refine SS_loc rfl rfl (by (with_reducible repeat first | exact List.mem_cons_self | refine List.mem_cons_of_mem _ ?_ | assumption | exact mem_mid' | exact mem_mid (by assumption))) (by with_reducible rfl) (by (with_reducible repeat first | exact Put.here | exact Put.new | apply Put.there)) (by (((first | dsimp only [List.map_cons, List.map_nil] | simp only [List.map_cons, List.map_nil]); decide +kernel))) (by (with_reducible repeat first | exact Upd.here | exact Upd.mid | apply Upd.there)) ?_
    refine SXs_nil ?_
    refine ⟨rfl, gk_cons (gk_plain ?_)⟩
    refine SX_If ?_
    refine ST_plain ?_
    refine SE_Name ?_ (by decide +kernel)
    refine SN_loc rfl rfl (by (with_reducible repeat first | exact List.mem_cons_self | refine List.mem_cons_of_mem _ ?_ | assumption | exact mem_mid' | exact mem_mid (by assumption))) (by with_reducible rfl) (by (with_reducible repeat first | exact List.mem_cons_self | refine List.mem_cons_of_mem _ ?_ | assumption | exact mem_mid' | exact mem_mid (by assumption))) ?_
    refine tr_own (by (with_reducible repeat first | exact List.mem_cons_self | refine List.mem_cons_of_mem _ ?_ | assumption | exact mem_mid' | exact mem_mid (by assumption))) (by ((rw [sizeLine_eq]; (try simp only [List.length_append, List.length_cons, List.length_nil, List.length_map]); (first | decide | exact Nat.le_trans (by assumption) (by decide) | lia | omega)))) ?_
    rw [show decide (([] : List V) ≠ []) = false from decide_eq_false (by simp)]
    with_reducible refine ite_ff' ?_
    refine SXs_cons ?_
    refine SX_Assign ?_
    refine SE_TupleF ?_
    refine SEs_cons ?_
    refine SE_strL (by (first | exact l01_0 | exact l01_1 | exact l01_2 | exact l01_3 | exact l01_4 | exact l01_5 | exact l01_6 | exact l01_7 | exact l01_8 | exact l01_9)) ?_
    refine SEs_cons ?_
    refine SE_strL (by (first | exact l01_0 | exact l01_1 | exact l01_2 | exact l01_3 | exact l01_4 | exact l01_5 | exact l01_6 | exact l01_7 | exact l01_8 | exact l01_9)) ?_
    refine SEs_nil ?_
    with_reducible refine ⟨_, by with_reducible ((first | exact AllDat.map _ | repeat first | exact AllDat.nil | with_reducible apply AllDat.cons)), by ((rw [sizeLine_eq]; simp)), ?_⟩
    refine SS_loc rfl rfl (by (with_reducible repeat first | exact List.mem_cons_self | refine List.mem_cons_of_mem _ ?_ | assumption | exact mem_mid' | exact mem_mid (by assumption))) (by with_reducible rfl) (by (with_reducible repeat first | exact Put.here | exact Put.new | apply Put.there)) (by (((first | dsimp only [List.map_cons, List.map_nil] | simp only [List.map_cons, List.map_nil]); decide +kernel))) (by (with_reducible repeat first | exact Upd.here | exact Upd.mid | apply Upd.there)) ?_
    refine SXs_nil ?_
    refine ⟨rfl, gk_cons (gk_yield rfl ?_)⟩
    refine SE_TupleF ?_
    refine SEs_cons ?_
    refine SE_Name ?_ (by decide +kernel)
    refine SN_loc rfl rfl (by (with_reducible repeat first | exact List.mem_cons_self | refine List.mem_cons_of_mem _ ?_ | assumption | exact mem_mid' | exact mem_mid (by assumption))) (by with_reducible rfl) (by (with_reducible repeat first | exact List.mem_cons_self | refine List.mem_cons_of_mem _ ?_ | assumption | exact mem_mid' | exact mem_mid (by assumption))) ?_
    refine SEs_cons ?_
    refine SE_Name ?_ (by decide +kernel)
    refine SN_loc rfl rfl (by (with_reducible repeat first | exact List.mem_cons_self | refine List.mem_cons_of_mem _ ?_ | assumption | exact mem_mid' | exact mem_mid (by assumption))) (by with_reducible rfl) (by (with_reducible repeat first | exact List.mem_cons_self | refine List.mem_cons_of_mem _ ?_ | assumption | exact mem_mid' | exact mem_mid (by assumption))) ?_
    refine SEs_cons ?_
    refine SE_Name ?_ (by decide +kernel)
    refine SN_loc rfl rfl (by (with_reducible repeat first | exact List.mem_cons_self | refine List.mem_cons_of_mem _ ?_ | assumption | exact mem_mid' | exact mem_mid (by assumption))) (by with_reducible rfl) (by (with_reducible repeat first | exact List.mem_cons_self | refine List.mem_cons_of_mem _ ?_ | assumption | exact mem_mid' | exact mem_mid (by assumption))) ?_
    refine SEs_nil ?_
    with_reducible refine ⟨_, by with_reducible ((first | exact AllDat.map _ | repeat first | exact AllDat.nil | with_reducible apply AllDat.cons)), by ((rw [sizeLine_eq]; simp)), ?_⟩
    intro fz s v l k p k0 Ho ht rv hk
    exact hy _ _ zT1 fz s v l k p fl [] k0 (Wk.hold (by (with_reducible repeat first | exact Wk.refl | exact Wk.nil | refine Wk.keep ObW.refl ?_ | refine Wk.keep (ObW.ns (by (with_reducible repeat first | exact List.Sublist.refl _ | exact List.nil_sublist _ | apply List.Sublist.cons_cons | apply List.Sublist.cons))) ?_ | apply Wk.drop)) Ho) ht rv (by rfl) (by simp_all; try (first | decide | exact Nat.le_trans (by assumption) (by decide) | lia | omega)) (by simp_all; try (first | decide | exact Nat.le_trans (by assumption) (by decide) | lia | omega)) hk
  · skip
    refine gk_whileTurn ?_
    refine SG_or ?_
    refine ST_plain ?_
    refine SE_Name ?_ (by decide +kernel)
    refine SN_loc rfl rfl (by (with_reducible repeat first | exact List.mem_cons_self | refine List.mem_cons_of_mem _ ?_ | assumption | exact mem_mid' | exact mem_mid (by assumption))) (by with_reducible rfl) (by (with_reducible repeat first | exact List.mem_cons_self | refine List.mem_cons_of_mem _ ?_ | assumption | exact mem_mid' | exact mem_mid (by assumption))) ?_
    refine tr_own (by (with_reducible repeat first | exact List.mem_cons_self | refine List.mem_cons_of_mem _ ?_ | assumption | exact mem_mid' | exact mem_mid (by assumption))) (by ((rw [sizeLine_eq]; (try simp only [List.length_append, List.length_cons, List.length_nil, List.length_map]); (first | decide | exact Nat.le_trans (by assumption) (by decide) | lia | omega)))) ?_
    rw [show decide (V.dat a :: fl.map V.dat ≠ []) = true from decide_eq_true (by simp)]
    with_reducible refine ite_tt' ?_
    with_reducible refine ite_tt' ?_
    refine gk_cons (gk_plain ?_)
    refine SX_If ?_
    refine ST_plain ?_
    refine SE_Name ?_ (by decide +kernel)
    refine SN_loc rfl rfl (by (with_reducible repeat first | exact List.mem_cons_self | refine List.mem_cons_of_mem _ ?_ | assumption | exact mem_mid' | exact mem_mid (by assumption))) (by with_reducible rfl) (by (with_reducible repeat first | exact List.mem_cons_self | refine List.mem_cons_of_mem _ ?_ | assumption | exact mem_mid' | exact mem_mid (by assumption))) ?_
    refine tr_own (by (with_reducible repeat first | exact List.mem_cons_self | refine List.mem_cons_of_mem _ ?_ | assumption | exact mem_mid' | exact mem_mid (by assumption))) (by ((rw [sizeLine_eq]; (try simp only [List.length_append, List.length_cons, List.length_nil, List.length_map]); (first | decide | exact Nat.le_trans (by assumption) (by decide) | lia | omega)))) ?_
    rw [show decide (V.dat a :: fl.map V.dat ≠ []) = true from decide_eq_true (by simp)]
    with_reducible refine ite_tt' ?_
    refine SXs_cons ?_
    refine SX_Assign ?_
    refine SE_Meth ?_
    refine SE_Name ?_ (by decide +kernel)
    refine SN_loc rfl rfl (by (with_reducible repeat first | exact List.mem_cons_self | refine List.mem_cons_of_mem _ ?_ | assumption | exact mem_mid' | exact mem_mid (by assumption))) (by with_reducible rfl) (by (with_reducible repeat first | exact List.mem_cons_self | refine List.mem_cons_of_mem _ ?_ | assumption | exact mem_mid' | exact mem_mid (by assumption))) ?_
    refine mth_pop (by (with_reducible repeat first | exact List.mem_cons_self | refine List.mem_cons_of_mem _ ?_ | assumption | exact mem_mid' | exact mem_mid (by assumption))) ?_
    refine SEs_cons ?_
    refine SE_int ?_
    refine SEs_nil ?_
    with_reducible refine ⟨kp_builtin, ?_⟩
    refine call_pop0 (by (with_reducible repeat first | exact Upd.here | exact Upd.mid | apply Upd.there)) (by ((rw [sizeLine_eq]; (try simp only [List.length_append, List.length_cons, List.length_nil, List.length_map]); (first | decide | exact Nat.le_trans (by assumption) (by decide) | lia | omega)))) ?_
    refine SS_loc rfl rfl (by (with_reducible repeat first | exact List.mem_cons_self | refine List.mem_cons_of_mem _ ?_ | assumption | exact mem_mid' | exact mem_mid (by assumption))) (by with_reducible rfl) (by (with_reducible repeat first | exact Put.here | exact Put.new | apply Put.there)) (by (((first | dsimp only [List.map_cons, List.map_nil] | simp only [List.map_cons, List.map_nil]); decide +kernel))) (by (with_reducible repeat first | exact Upd.here | exact Upd.mid | apply Upd.there)) ?_
    refine SXs_nil ?_
    refine ⟨rfl, gk_cons (gk_plain ?_)⟩
    refine SX_If ?_
    refine ST_plain ?_
    refine SE_Name ?_ (by decide +kernel)
    refine SN_loc rfl rfl (by (with_reducible repeat first | exact List.mem_cons_self | refine List.mem_cons_of_mem _ ?_ | assumption | exact mem_mid' | exact mem_mid (by assumption))) (by with_reducible rfl) (by (with_reducible repeat first | exact List.mem_cons_self | refine List.mem_cons_of_mem _ ?_ | assumption | exact mem_mid' | exact mem_mid (by assumption))) ?_
    refine tr_own (by (with_reducible repeat first | exact List.mem_cons_self | refine List.mem_cons_of_mem _ ?_ | assumption | exact mem_mid' | exact mem_mid (by assumption))) (by ((rw [sizeLine_eq]; (try simp only [List.length_append, List.length_cons, List.length_nil, List.length_map]); (first | decide | exact Nat.le_trans (by assumption) (by decide) | lia | omega)))) ?_
    rw [show decide (V.dat b :: tl.map V.dat ≠ []) = true from decide_eq_true (by simp)]
    with_reducible refine ite_tt' ?_
    refine SXs_cons ?_
    refine SX_Assign ?_
    refine SE_Meth ?_
    refine SE_Name ?_ (by decide +kernel)
    refine SN_loc rfl rfl (by (with_reducible repeat first | exact List.mem_cons_self | refine List.mem_cons_of_mem _ ?_ | assumption | exact mem_mid' | exact mem_mid (by assumption))) (by with_reducible rfl) (by (with_reducible repeat first | exact List.mem_cons_self | refine List.mem_cons_of_mem _ ?_ | assumption | exact mem_mid' | exact mem_mid (by assumption))) ?_
    refine mth_pop (by (with_reducible repeat first | exact List.mem_cons_self | refine List.mem_cons_of_mem _ ?_ | assumption | exact mem_mid' | exact mem_mid (by assumption))) ?_
    refine SEs_cons ?_
    refine SE_int ?_
    refine SEs_nil ?_
    with_reducible refine ⟨kp_builtin, ?_⟩
    refine call_pop0 (by (with_reducible repeat first | exact Upd.here | exact Upd.mid | apply Upd.there)) (by ((rw [sizeLine_eq]; (try simp only [List.length_append, List.length_cons, List.length_nil, List.length_map]); (first | decide | exact Nat.le_trans (by assumption) (by decide) | lia | omega)))) ?_
    refine SS_loc rfl rfl (by (with_reducible repeat first | exact List.mem_cons_self | refine List.mem_cons_of_mem _ ?_ | assumption | exact mem_mid' | exact mem_mid (by assumption))) (by with_reducible rfl) (by (with_reducible repeat first | exact Put.here | exact Put.new | apply Put.there)) (by (((first | dsimp only [List.map_cons, List.map_nil] | simp only [List.map_cons, List.map_nil]); decide +kernel))) (by (with_reducible repeat first | exact Upd.here | exact Upd.mid | apply Upd.there)) ?_
    refine SXs_nil ?_
    refine ⟨rfl, gk_cons (gk_yield rfl ?_)⟩
    refine SE_TupleF ?_
    refine SEs_cons ?_
    refine SE_Name ?_ (by decide +kernel)
    refine SN_loc rfl rfl (by (with_reducible repeat first | exact List.mem_cons_self | refine List.mem_cons_of_mem _ ?_ | assumption | exact mem_mid' | exact mem_mid (by assumption))) (by with_reducible rfl) (by (with_reducible repeat first | exact List.mem_cons_self | refine List.mem_cons_of_mem _ ?_ | assumption | exact mem_mid' | exact mem_mid (by assumption))) ?_
    refine SEs_cons ?_
    refine SE_Name ?_ (by decide +kernel)
    refine SN_loc rfl rfl (by (with_reducible repeat first | exact List.mem_cons_self | refine List.mem_cons_of_mem _ ?_ | assumption | exact mem_mid' | exact mem_mid (by assumption))) (by with_reducible rfl) (by (with_reducible repeat first | exact List.mem_cons_self | refine List.mem_cons_of_mem _ ?_ | assumption | exact mem_mid' | exact mem_mid (by assumption))) ?_
    refine SEs_cons ?_
    refine SE_Name ?_ (by decide +kernel)
    refine SN_loc rfl rfl (by (with_reducible repeat first | exact List.mem_cons_self | refine List.mem_cons_of_mem _ ?_ | assumption | exact mem_mid' | exact mem_mid (by assumption))) (by with_reducible rfl) (by (with_reducible repeat first | exact List.mem_cons_self | refine List.mem_cons_of_mem _ ?_ | assumption | exact mem_mid' | exact mem_mid (by assumption))) ?_
    refine SEs_nil ?_
    with_reducible refine ⟨_, by with_reducible ((first | exact AllDat.map _ | repeat first | exact AllDat.nil | with_reducible apply AllDat.cons)), by ((rw [sizeLine_eq]; simp)), ?_⟩
    intro fz s v l k p k0 Ho ht rv hk
    exact hy _ _ zT3 fz s v l k p fl tl k0 (Wk.hold (by (with_reducible repeat first | exact Wk.refl | exact Wk.nil | refine Wk.keep ObW.refl ?_ | refine Wk.keep (ObW.ns (by (with_reducible repeat first | exact List.Sublist.refl _ | exact List.nil_sublist _ | apply List.Sublist.cons_cons | apply List.Sublist.cons))) ?_ | apply Wk.drop)) Ho) ht rv (by rfl) (by simp_all; try (first | decide | exact Nat.le_trans (by assumption) (by decide) | lia | omega)) (by simp_all; try (first | decide | exact Nat.le_trans (by assumption) (by decide) | lia | omega)) hk
theorem over_hh (hA : A.handled = none) : ∀ (fs : List Frame) (c : Code), (∀ f ∈ fs, ∃ k g l c p kp, f = Frame.ret k none g l c p kp) → (A.over c fs).handled = none := fun fs c hfs => by
  show (marksOver fs (A.handled, A.handled)).1 = none
  rw [hA]
  have key : ∀ fs : List Frame, (∀ f ∈ fs, ∃ k g l c p kp, f = Frame.ret k none g l c p kp) → marksOver fs (none, none) = (none, none) := by
    intro fs
    induction fs with
    | nil => intro _; rfl
    | cons f r ih =>
      intro h
      obtain ⟨k, g, l, c, p, kp, rfl⟩ := h f List.mem_cons_self
      have e := ih fun f hf => h f (List.mem_cons_of_mem _ hf)
      unfold marksOver at e ⊢
      rw [List.foldr_cons, e]; rfl
  rw [key fs hfs]
theorem over_d (target : Expr) (v : Value) (body : List Stmt) (env : Env) (e2 : Env) (b2 : List Stmt) (k : Result → Sem Fin) (p : Pos) (hd : A.depth < 500) : (A.over (.forLoop target v body [] env) [.ret k none false [] (.func b2 e2) p []]).depth + 60 < recursionLimit := by
  show A.depth + 1 + 60 < 1000
  (first | decide | exact Nat.le_trans (by assumption) (by decide) | lia | omega)
theorem perm4 (a b c d : Addr × Ob) (l : Own) : (a :: b :: c :: d :: l).Perm (c :: d :: b :: a :: l) := by
  have h1 : (a :: b :: c :: d :: l).Perm (c :: a :: b :: d :: l) := ((List.Perm.swap c b (d :: l)).cons a).trans (List.Perm.swap c a (b :: d :: l))
  have h2 : (c :: a :: b :: d :: l).Perm (c :: d :: a :: b :: l) := (((List.Perm.swap d b l).cons a).trans (List.Perm.swap d a (b :: l))).cons c
  exact (h1.trans h2).trans (((List.Perm.swap b a l).cons d).cons c)

theorem seg_forA (hK : K01 W) (hT : txtO (W.K.lookup 74) = some (tq, ts, tc, tb))
    {Φ : End → Shared → Prop} {fz₀ : Heap} {o : Own} {rows : List PyData} {col : Nat} {out : List PyData} {p2 : Pos} (hA : A.handled = none) (hd : A.depth < 500) (hcol : 0 < col)
    (hit : (it, Ob.prop (LItP (rows.map V.dat))) ∈ o) (hx : (x, Ob.obj (instObj 113 dx)) ∈ o) (hdx : (dx, Ob.att (attC col)) ∈ o) (hn1 : x ≠ it) (hn2 : dx ≠ it) (hdue : ∀ r rs, rows = r :: rs → DueR col r out)
    (hret : rows = [] → ∀ fz s, Keep fz₀ fz → Hold W fz ((ga, .gen g (· = .running)) :: o) s → W.tk ≤ s.toks → Φ (.ret (.ok (.ret .none))) s)
    (hyB : ∀ r rows' o', rows = r :: rows' → Upd it (.prop (LItP (rows.map V.dat))) (.prop (LItP (rows'.map V.dat))) o o' → out = [r] → ∀ fz s v l k p, Keep fz₀ fz → Hold W fz ((ga, .gen g (· = .running)) :: (L, .ns (locF x it)) :: o') s → W.tk ≤ s.toks → RV fz (.dat r) v →
      k (.send .none) = (execs (ifB (nthS (forB (nthS tb 0)) 0)).tail (envX tq ts L 74 tc [])).wrap (kNext (envX tq ts L 74 tc []) (forB (nthS tb 0)).tail (kTurn (.forLoop (forT (nthS tb 0)) (.ref it) (forB (nthS tb 0)) [] (envX tq ts L 74 tc []))) (hTurn (envX tq ts L 74 tc [])) id id) (hTurn (envX tq ts L 74 tc [])) id id → Φ (.susp v false l k (.forLoop (forT (nthS tb 0)) (.ref it) (forB (nthS tb 0)) [] (envX tq ts L 74 tc [])) p [fF (envX tq ts L 74 tc []) (.func tb (envX tq ts L 74 tc [])) p2]) s)
    (hyC : ∀ r rows' o' row pend', rows = r :: rows' → Upd it (.prop (LItP (rows.map V.dat))) (.prop (LItP (rows'.map V.dat))) o o' → out = row :: pend' → ∀ flag F T pp fz s v l k p fl' tl', Keep fz₀ fz →
      Hold W fz ((ga, .gen g (· = .running)) :: (L, .ns (locW x it F T flag)) :: (F, .list (fl'.map V.dat)) :: (T, .list (tl'.map V.dat)) :: o') s → W.tk ≤ s.toks → RV fz (.dat row) v → zipT flag fl' tl' = pend' → fl'.length ≤ 60 → tl'.length ≤ 60 →
      k (.send .none) = .pure (.again (.whileLoop (whT (nthS (forB (nthS tb 0)) 5)) (whB (nthS (forB (nthS tb 0)) 5)) [] (envX tq ts L 74 tc []))) → Φ (.susp v false l k (.whileLoop (whT (nthS (forB (nthS tb 0)) 5)) (whB (nthS (forB (nthS tb 0)) 5)) [] (envX tq ts L 74 tc [])) p [fW (envX tq ts L 74 tc []) (.forLoop (forT (nthS tb 0)) (.ref it) (forB (nthS tb 0)) [] (envX tq ts L 74 tc [])) pp, fF (envX tq ts L 74 tc []) (.func tb (envX tq ts L 74 tc [])) p2]) s) :
    Gk W A Φ fz₀ (.forLoop (forT (nthS tb 0)) (.ref it) (forB (nthS tb 0)) [] (envX tq ts L 74 tc [])) [fF (envX tq ts L 74 tc []) (.func tb (envX tq ts L 74 tc [])) p2] ((model W.prog W.w).den (.forLoop (forT (nthS tb 0)) (.ref it) (forB (nthS tb 0)) [] (envX tq ts L 74 tc []))) ((ga, .gen g (· = .running)) :: (L, .ns (locF x it)) :: o) := by
  rw [K_of (a := 74) hK rfl] at hT
  change some (_, _, _, _) = _ at hT
  cases hT
  dsimp only [lawS, fdB, fdS, clB, PySem.Challenge.pw_dm0066_01, nthS, forT, forB, whT, whB, ifB, List.tail_cons] at *
  have hT0 := (congrArg txtO (K_of (a := 74) hK rfl)).trans (show _ = some (_, _, _, _) from rfl)
  rcases rows with _ | ⟨r, rows⟩
  · refine gk_for_none (over_hh hA _ _ (by simp)) (List.mem_cons_of_mem _ (List.mem_cons_of_mem _ hit)) ?_
    refine gk_leaf (gk_back (gk_nil (gk_end fun fz s k0 Ho ht => ?_)))
    exact hret rfl fz s k0 (Wk.hold (by (with_reducible repeat first | exact Wk.refl | exact Wk.nil | refine Wk.keep ObW.refl ?_ | refine Wk.keep (ObW.ns (by (with_reducible repeat first | exact List.Sublist.refl _ | exact List.nil_sublist _ | apply List.Sublist.cons_cons | apply List.Sublist.cons))) ?_ | apply Wk.drop)) Ho) ht
  · obtain ⟨a, b, flag, rfl, hfl⟩ := hdue r rows rfl
    obtain ⟨o', u⟩ := Upd.of_mem (.prop (LItP (rows.map V.dat))) hit
    have hx' := u.mem_other hx hn1
    have hdx' := u.mem_other hdx hn2
    have hrec : recursionLimit = 1000 := rfl
    refine gk_for_some (.there (.there u)) ?_
    refine SA_Tuple (over_hh hA _ _ (by simp)) rfl ?_
    refine SAs_cons ?_
    refine SA_Name ?_
    refine SS_loc rfl rfl (by (with_reducible repeat first | exact List.mem_cons_self | refine List.mem_cons_of_mem _ ?_ | assumption | exact mem_mid' | exact mem_mid (by assumption))) (by with_reducible rfl) (by (with_reducible repeat first | exact Put.here | exact Put.new | apply Put.there)) (by (((first | dsimp only [List.map_cons, List.map_nil] | simp only [List.map_cons, List.map_nil]); decide +kernel))) (by (with_reducible repeat first | exact Upd.here | exact Upd.mid | apply Upd.there)) ?_
    refine SAs_cons ?_
    refine SA_Name ?_
    refine SS_loc rfl rfl (by (with_reducible repeat first | exact List.mem_cons_self | refine List.mem_cons_of_mem _ ?_ | assumption | exact mem_mid' | exact mem_mid (by assumption))) (by with_reducible rfl) (by (with_reducible repeat first | exact Put.here | exact Put.new | apply Put.there)) (by (((first | dsimp only [List.map_cons, List.map_nil] | simp only [List.map_cons, List.map_nil]); decide +kernel))) (by (with_reducible repeat first | exact Upd.here | exact Upd.mid | apply Upd.there)) ?_
    refine SAs_cons ?_
    refine SA_Name ?_
    refine SS_loc rfl rfl (by (with_reducible repeat first | exact List.mem_cons_self | refine List.mem_cons_of_mem _ ?_ | assumption | exact mem_mid' | exact mem_mid (by assumption))) (by with_reducible rfl) (by (with_reducible repeat first | exact Put.here | exact Put.new | apply Put.there)) (by (((first | dsimp only [List.map_cons, List.map_nil] | simp only [List.map_cons, List.map_nil]); decide +kernel))) (by (with_reducible repeat first | exact Upd.here | exact Upd.mid | apply Upd.there)) ?_
    refine SAs_nil ?_
    refine gk_cons (gk_if ?_)
    refine ST_Compare ?_
    refine SE_Name ?_ (by decide +kernel)
    refine SN_loc rfl rfl (by (with_reducible repeat first | exact List.mem_cons_self | refine List.mem_cons_of_mem _ ?_ | assumption | exact mem_mid' | exact mem_mid (by assumption))) (by with_reducible rfl) (by (with_reducible repeat first | exact List.mem_cons_self | refine List.mem_cons_of_mem _ ?_ | assumption | exact mem_mid' | exact mem_mid (by assumption))) ?_
    refine SE_none ?_
    with_reducible refine cmp_isNone ?_
    with_reducible refine tr_bool ?_
    rcases hfl with ⟨rfl, rfl⟩ | ⟨hfl, na, ta, nb, tb, pa, pb, rfl, rfl, spa, spb, rfl⟩
    · rw [show isNoneD .none = true from rfl]
      with_reducible refine ite_tt' ?_
      refine gk_cons (gk_yield rfl ?_)
      refine SE_TupleF ?_
      refine SEs_cons ?_
      refine SE_Name ?_ (by decide +kernel)
      refine SN_loc rfl rfl (by (with_reducible repeat first | exact List.mem_cons_self | refine List.mem_cons_of_mem _ ?_ | assumption | exact mem_mid' | exact mem_mid (by assumption))) (by with_reducible rfl) (by (with_reducible repeat first | exact List.mem_cons_self | refine List.mem_cons_of_mem _ ?_ | assumption | exact mem_mid' | exact mem_mid (by assumption))) ?_
      refine SEs_cons ?_
      refine SE_Name ?_ (by decide +kernel)
      refine SN_loc rfl rfl (by (with_reducible repeat first | exact List.mem_cons_self | refine List.mem_cons_of_mem _ ?_ | assumption | exact mem_mid' | exact mem_mid (by assumption))) (by with_reducible rfl) (by (with_reducible repeat first | exact List.mem_cons_self | refine List.mem_cons_of_mem _ ?_ | assumption | exact mem_mid' | exact mem_mid (by assumption))) ?_
      refine SEs_cons ?_
      refine SE_Name ?_ (by decide +kernel)
      refine SN_loc rfl rfl (by (with_reducible repeat first | exact List.mem_cons_self | refine List.mem_cons_of_mem _ ?_ | assumption | exact mem_mid' | exact mem_mid (by assumption))) (by with_reducible rfl) (by (with_reducible repeat first | exact List.mem_cons_self | refine List.mem_cons_of_mem _ ?_ | assumption | exact mem_mid' | exact mem_mid (by assumption))) ?_
      refine SEs_nil ?_
      with_reducible refine ⟨_, by with_reducible ((first | exact AllDat.map _ | repeat first | exact AllDat.nil | with_reducible apply AllDat.cons)), by ((rw [sizeLine_eq]; simp)), ?_⟩
      intro fz s v l k p k0 Ho ht rv hk
      exact hyB _ rows o' rfl u rfl fz s v l k p k0 (Wk.hold (by (with_reducible repeat first | exact Wk.refl | exact Wk.nil | refine Wk.keep ObW.refl ?_ | refine Wk.keep (ObW.ns (by (with_reducible repeat first | exact List.Sublist.refl _ | exact List.nil_sublist _ | apply List.Sublist.cons_cons | apply List.Sublist.cons))) ?_ | apply Wk.drop)) Ho) ht rv hk
    · rw [hfl]
      with_reducible refine ite_ff' ?_
      refine gk_nil (gk_cons (gk_plain (SX_AssignT ?_)))
      refine SE_TupleF ?_
      refine SEs_cons ?_
      refine SE_Name ?_ (by decide +kernel)
      refine SN_loc rfl rfl (by (with_reducible repeat first | exact List.mem_cons_self | refine List.mem_cons_of_mem _ ?_ | assumption | exact mem_mid' | exact mem_mid (by assumption))) (by with_reducible rfl) (by (with_reducible repeat first | exact List.mem_cons_self | refine List.mem_cons_of_mem _ ?_ | assumption | exact mem_mid' | exact mem_mid (by assumption))) ?_
      refine SEs_cons ?_
      refine SE_Name ?_ (by decide +kernel)
      refine SN_loc rfl rfl (by (with_reducible repeat first | exact List.mem_cons_self | refine List.mem_cons_of_mem _ ?_ | assumption | exact mem_mid' | exact mem_mid (by assumption))) (by with_reducible rfl) (by (with_reducible repeat first | exact List.mem_cons_self | refine List.mem_cons_of_mem _ ?_ | assumption | exact mem_mid' | exact mem_mid (by assumption))) ?_
      refine SEs_nil ?_
      with_reducible refine ⟨_, by with_reducible ((first | exact AllDat.map _ | repeat first | exact AllDat.nil | with_reducible apply AllDat.cons)), by ((rw [sizeLine_eq]; simp)), ?_⟩
      refine SA_Tuple (by assumption) rfl ?_
      refine SAs_cons ?_
      refine SA_Tuple (by assumption) rfl ?_
      refine SAs_cons ?_
      refine SA_Name ?_
      refine SS_loc rfl rfl (by (with_reducible repeat first | exact List.mem_cons_self | refine List.mem_cons_of_mem _ ?_ | assumption | exact mem_mid' | exact mem_mid (by assumption))) (by with_reducible rfl) (by (with_reducible repeat first | exact Put.here | exact Put.new | apply Put.there)) (by (((first | dsimp only [List.map_cons, List.map_nil] | simp only [List.map_cons, List.map_nil]); decide +kernel))) (by (with_reducible repeat first | exact Upd.here | exact Upd.mid | apply Upd.there)) ?_
      refine SAs_cons ?_
      refine SA_Name ?_
      refine SS_loc rfl rfl (by (with_reducible repeat first | exact List.mem_cons_self | refine List.mem_cons_of_mem _ ?_ | assumption | exact mem_mid' | exact mem_mid (by assumption))) (by with_reducible rfl) (by (with_reducible repeat first | exact Put.here | exact Put.new | apply Put.there)) (by (((first | dsimp only [List.map_cons, List.map_nil] | simp only [List.map_cons, List.map_nil]); decide +kernel))) (by (with_reducible repeat first | exact Upd.here | exact Upd.mid | apply Upd.there)) ?_
      refine SAs_nil ?_
      refine SAs_cons ?_
      refine SA_Tuple (by assumption) rfl ?_
      refine SAs_cons ?_
      refine SA_Name ?_
      refine SS_loc rfl rfl (by (with_reducible repeat first | exact List.mem_cons_self | refine List.mem_cons_of_mem _ ?_ | assumption | exact mem_mid' | exact mem_mid (by assumption))) (by with_reducible rfl) (by (with_reducible repeat first | exact Put.here | exact Put.new | apply Put.there)) (by (((first | dsimp only [List.map_cons, List.map_nil] | simp only [List.map_cons, List.map_nil]); decide +kernel))) (by (with_reducible repeat first | exact Upd.here | exact Upd.mid | apply Upd.there)) ?_
      refine SAs_cons ?_
      refine SA_Name ?_
      refine SS_loc rfl rfl (by (with_reducible repeat first | exact List.mem_cons_self | refine List.mem_cons_of_mem _ ?_ | assumption | exact mem_mid' | exact mem_mid (by assumption))) (by with_reducible rfl) (by (with_reducible repeat first | exact Put.here | exact Put.new | apply Put.there)) (by (((first | dsimp only [List.map_cons, List.map_nil] | simp only [List.map_cons, List.map_nil]); decide +kernel))) (by (with_reducible repeat first | exact Upd.here | exact Upd.mid | apply Upd.there)) ?_
      refine SAs_nil ?_
      refine SAs_nil ?_
      refine ⟨rfl, gk_cons (gk_plain (SX_AssignSw (names := [Str.ofString "fromlist", Str.ofString "tolist"]) (over_hh hA _ _ (by simp)) rfl ?_))⟩
      refine SE_Tuple ?_
      refine SEs_cons ?_
      refine SE_List (by ((rw [sizeLine_eq]; simp))) ?_
      refine SEs_nil ?_
      refine ⟨by ((rw [sizeLine_eq]; simp)), fun F => ?_⟩
      refine SEs_cons ?_
      refine SE_List (by ((rw [sizeLine_eq]; simp))) ?_
      refine SEs_nil ?_
      refine ⟨by ((rw [sizeLine_eq]; simp)), fun T => ?_⟩
      refine SEs_nil ?_
      refine ⟨by ((rw [sizeLine_eq]; simp)), fun tt => ⟨tt, _, rfl, by (with_reducible repeat first | exact List.mem_cons_self | refine List.mem_cons_of_mem _ ?_ | assumption | exact mem_mid' | exact mem_mid (by assumption)), rfl, ?_⟩⟩
      simp only [List.reverse_cons, List.reverse_nil, List.nil_append, List.cons_append]
      refine SSs_cons ?_
      refine SS_loc rfl rfl (by (with_reducible repeat first | exact List.mem_cons_self | refine List.mem_cons_of_mem _ ?_ | assumption | exact mem_mid' | exact mem_mid (by assumption))) (by with_reducible rfl) (by (with_reducible repeat first | exact Put.here | exact Put.new | apply Put.there)) (by (((first | dsimp only [List.map_cons, List.map_nil] | simp only [List.map_cons, List.map_nil]); decide +kernel))) (by (with_reducible repeat first | exact Upd.here | exact Upd.mid | apply Upd.there)) ?_
      refine SSs_cons ?_
      refine SS_loc rfl rfl (by (with_reducible repeat first | exact List.mem_cons_self | refine List.mem_cons_of_mem _ ?_ | assumption | exact mem_mid' | exact mem_mid (by assumption))) (by with_reducible rfl) (by (with_reducible repeat first | exact Put.here | exact Put.new | apply Put.there)) (by (((first | dsimp only [List.map_cons, List.map_nil] | simp only [List.map_cons, List.map_nil]); decide +kernel))) (by (with_reducible repeat first | exact Upd.here | exact Upd.mid | apply Upd.there)) ?_
      refine SSs_nil ⟨trivial, gk_cons (gk_plain ?_)⟩
      refine SX_Expr ?_
      refine SE_Meth ?_
      refine SE_Name ?_ (by decide +kernel)
      refine SN_loc rfl rfl (by (with_reducible repeat first | exact List.mem_cons_self | refine List.mem_cons_of_mem _ ?_ | assumption | exact mem_mid' | exact mem_mid (by assumption))) (by with_reducible rfl) (by (with_reducible repeat first | exact List.mem_cons_self | refine List.mem_cons_of_mem _ ?_ | assumption | exact mem_mid' | exact mem_mid (by assumption))) ?_
      refine mth_inst (cls01 hK) (by (with_reducible repeat first | exact List.mem_cons_self | refine List.mem_cons_of_mem _ ?_ | assumption | exact mem_mid' | exact mem_mid (by assumption))) (by (with_reducible repeat first | exact List.mem_cons_self | refine List.mem_cons_of_mem _ ?_ | assumption | exact mem_mid' | exact mem_mid (by assumption))) (by rw [hK]; rfl) (by rw [hK]; rfl) (by (((first | dsimp only [List.map_cons, List.map_nil] | simp only [List.map_cons, List.map_nil]); decide +kernel))) ?_
      refine SEs_cons ?_
      refine SE_Name ?_ (by decide +kernel)
      refine SN_loc rfl rfl (by (with_reducible repeat first | exact List.mem_cons_self | refine List.mem_cons_of_mem _ ?_ | assumption | exact mem_mid' | exact mem_mid (by assumption))) (by with_reducible rfl) (by (with_reducible repeat first | exact List.mem_cons_self | refine List.mem_cons_of_mem _ ?_ | assumption | exact mem_mid' | exact mem_mid (by assumption))) ?_
      refine SEs_cons ?_
      refine SE_Name ?_ (by decide +kernel)
      refine SN_loc rfl rfl (by (with_reducible repeat first | exact List.mem_cons_self | refine List.mem_cons_of_mem _ ?_ | assumption | exact mem_mid' | exact mem_mid (by assumption))) (by with_reducible rfl) (by (with_reducible repeat first | exact List.mem_cons_self | refine List.mem_cons_of_mem _ ?_ | assumption | exact mem_mid' | exact mem_mid (by assumption))) ?_
      refine SEs_cons ?_
      refine SE_Name ?_ (by decide +kernel)
      refine SN_loc rfl rfl (by (with_reducible repeat first | exact List.mem_cons_self | refine List.mem_cons_of_mem _ ?_ | assumption | exact mem_mid' | exact mem_mid (by assumption))) (by with_reducible rfl) (by (with_reducible repeat first | exact List.mem_cons_self | refine List.mem_cons_of_mem _ ?_ | assumption | exact mem_mid' | exact mem_mid (by assumption))) ?_
      refine SEs_nil ?_
      refine ⟨kp_K (by rw [hK]; rfl), SLC.call ((c_splitTo hK spa hcol (over_hh hA _ _ (by simp)) (over_d _ _ _ _ _ _ _ _ hd) (by (with_reducible repeat first | exact Upd.here | exact Upd.mid | apply Upd.there)) (by (with_reducible repeat first | exact List.mem_cons_self | refine List.mem_cons_of_mem _ ?_ | assumption | exact mem_mid' | exact mem_mid (by assumption))) (by (with_reducible repeat first | exact List.mem_cons_self | refine List.mem_cons_of_mem _ ?_ | assumption | exact mem_mid' | exact mem_mid (by assumption))) (by simp)).mono ?_)⟩
      rintro r o2 ⟨rfl, rfl⟩
      refine ⟨rfl, gk_cons (gk_plain ?_)⟩
      refine SX_Expr ?_
      refine SE_Meth ?_
      refine SE_Name ?_ (by decide +kernel)
      refine SN_loc rfl rfl (by (with_reducible repeat first | exact List.mem_cons_self | refine List.mem_cons_of_mem _ ?_ | assumption | exact mem_mid' | exact mem_mid (by assumption))) (by with_reducible rfl) (by (with_reducible repeat first | exact List.mem_cons_self | refine List.mem_cons_of_mem _ ?_ | assumption | exact mem_mid' | exact mem_mid (by assumption))) ?_
      refine mth_inst (cls01 hK) (by (with_reducible repeat first | exact List.mem_cons_self | refine List.mem_cons_of_mem _ ?_ | assumption | exact mem_mid' | exact mem_mid (by assumption))) (by (with_reducible repeat first | exact List.mem_cons_self | refine List.mem_cons_of_mem _ ?_ | assumption | exact mem_mid' | exact mem_mid (by assumption))) (by rw [hK]; rfl) (by rw [hK]; rfl) (by (((first | dsimp only [List.map_cons, List.map_nil] | simp only [List.map_cons, List.map_nil]); decide +kernel))) ?_
      refine SEs_cons ?_
      refine SE_Name ?_ (by decide +kernel)
      refine SN_loc rfl rfl (by (with_reducible repeat first | exact List.mem_cons_self | refine List.mem_cons_of_mem _ ?_ | assumption | exact mem_mid' | exact mem_mid (by assumption))) (by with_reducible rfl) (by (with_reducible repeat first | exact List.mem_cons_self | refine List.mem_cons_of_mem _ ?_ | assumption | exact mem_mid' | exact mem_mid (by assumption))) ?_
      refine SEs_cons ?_
      refine SE_Name ?_ (by decide +kernel)
      refine SN_loc rfl rfl (by (with_reducible repeat first | exact List.mem_cons_self | refine List.mem_cons_of_mem _ ?_ | assumption | exact mem_mid' | exact mem_mid (by assumption))) (by with_reducible rfl) (by (with_reducible repeat first | exact List.mem_cons_self | refine List.mem_cons_of_mem _ ?_ | assumption | exact mem_mid' | exact mem_mid (by assumption))) ?_
      refine SEs_cons ?_
      refine SE_Name ?_ (by decide +kernel)
      refine SN_loc rfl rfl (by (with_reducible repeat first | exact List.mem_cons_self | refine List.mem_cons_of_mem _ ?_ | assumption | exact mem_mid' | exact mem_mid (by assumption))) (by with_reducible rfl) (by (with_reducible repeat first | exact List.mem_cons_self | refine List.mem_cons_of_mem _ ?_ | assumption | exact mem_mid' | exact mem_mid (by assumption))) ?_
      refine SEs_nil ?_
      refine ⟨kp_K (by rw [hK]; rfl), SLC.call ((c_splitTo hK spb hcol (over_hh hA _ _ (by simp)) (over_d _ _ _ _ _ _ _ _ hd) (by (with_reducible repeat first | exact Upd.here | exact Upd.mid | apply Upd.there)) (by (with_reducible repeat first | exact List.mem_cons_self | refine List.mem_cons_of_mem _ ?_ | assumption | exact mem_mid' | exact mem_mid (by assumption))) (by (with_reducible repeat first | exact List.mem_cons_self | refine List.mem_cons_of_mem _ ?_ | assumption | exact mem_mid' | exact mem_mid (by assumption))) (by simp)).mono ?_)⟩
      rintro r o2 ⟨rfl, rfl⟩
      refine ⟨rfl, gk_cons (gk_while fun pp => ?_)⟩
      rw [List.nil_append, List.nil_append]
      refine Gk.wk (own' := (T, Ob.list (pb.map V.dat)) :: (F, Ob.list (pa.map V.dat)) :: (ga, Ob.gen g (· = .running)) :: (L, Ob.ns (locW x it F T flag)) :: o') (by (with_reducible repeat first | exact Wk.refl | exact Wk.nil | refine Wk.keep ObW.refl ?_ | refine Wk.keep (ObW.ns (by (with_reducible repeat first | exact List.Sublist.refl _ | exact List.nil_sublist _ | apply List.Sublist.cons_cons | apply List.Sublist.cons))) ?_ | apply Wk.drop)) ?_
      refine Gk.perm (perm4 _ _ _ _ _) ?_
      have lpa := spa.len
      have lpb := spb.len
      refine seg_whileA hK hT0 hA (by (first | decide | exact Nat.le_trans (by assumption) (by decide) | lia | omega)) (by (first | decide | exact Nat.le_trans (by assumption) (by decide) | lia | omega)) ?_ (fun e => by rw [e] at lpa; simp at lpa)
      intro row pend' hz fz s v l k p fl' tl' k0 Ho ht rv hz2 hl1 hl2 hk
      exact hyC _ rows o' row pend' rfl u hz flag F T pp fz s v l k p fl' tl' k0 Ho ht rv hz2 hl1 hl2 hk
theorem seg_while (hK : K01 W) (hf : W.K.lookup 74 = some ⟨oc, od, .func (fnOf name qual params [.For target iter [.If btest [ys, cs] [] p1, s2, s3, s4, s5, .While test wbody [] wpos] [] pos] scope dV kV doc pm an cdv ct), osl⟩)
    {Φ : End → Shared → Prop} {fz₀ : Heap} {o : Own} {flag : PyData} {F T : Addr} {fl tl : List PyData} {pp p2 : Pos} (hA : A.handled = none) (hfl : fl.length ≤ 60) (htl : tl.length ≤ 60)
    (hy : ∀ row pend', zipT flag fl tl = row :: pend' → ∀ fz s v l k p fl' tl', Keep fz₀ fz → Hold W fz ((ga, .gen g (· = .running)) :: (L, .ns (locW x it F T flag)) :: (F, .list (fl'.map V.dat)) :: (T, .list (tl'.map V.dat)) :: o) s → W.tk ≤ s.toks → RV fz (.dat row) v → zipT flag fl' tl' = pend' → fl'.length ≤ 60 → tl'.length ≤ 60 →
      k (.send .none) = .pure (.again (.whileLoop test wbody [] (envX qual scope L 74 cdv []))) → Φ (.susp v false l k (.whileLoop test wbody [] (envX qual scope L 74 cdv [])) p [fW (envX qual scope L 74 cdv []) (.forLoop target (.ref it) [.If btest [ys, cs] [] p1, s2, s3, s4, s5, .While test wbody [] wpos] [] (envX qual scope L 74 cdv [])) pp, fF (envX qual scope L 74 cdv []) (.func [.For target iter [.If btest [ys, cs] [] p1, s2, s3, s4, s5, .While test wbody [] wpos] [] pos] (envX qual scope L 74 cdv [])) p2]) s)
    (hend : fl = [] → tl = [] → Gk W A Φ fz₀ (.forLoop target (.ref it) [.If btest [ys, cs] [] p1, s2, s3, s4, s5, .While test wbody [] wpos] [] (envX qual scope L 74 cdv [])) [fF (envX qual scope L 74 cdv []) (.func [.For target iter [.If btest [ys, cs] [] p1, s2, s3, s4, s5, .While test wbody [] wpos] [] pos] (envX qual scope L 74 cdv [])) p2]
      ((model W.prog W.w).den (.forLoop target (.ref it) [.If btest [ys, cs] [] p1, s2, s3, s4, s5, .While test wbody [] wpos] [] (envX qual scope L 74 cdv []))) ((ga, .gen g (· = .running)) :: (L, .ns (locF x it)) :: o)) :
    Gk W A Φ fz₀ (.whileLoop test wbody [] (envX qual scope L 74 cdv [])) [fW (envX qual scope L 74 cdv []) (.forLoop target (.ref it) [.If btest [ys, cs] [] p1, s2, s3, s4, s5, .While test wbody [] wpos] [] (envX qual scope L 74 cdv [])) pp, fF (envX qual scope L 74 cdv []) (.func [.For target iter [.If btest [ys, cs] [] p1, s2, s3, s4, s5, .While test wbody [] wpos] [] pos] (envX qual scope L 74 cdv [])) p2]
      ((model W.prog W.w).den (.whileLoop test wbody [] (envX qual scope L 74 cdv []))) ((ga, .gen g (· = .running)) :: (L, .ns (locW x it F T flag)) :: (F, .list (fl.map V.dat)) :: (T, .list (tl.map V.dat)) :: o) :=
  seg_whileA (tb := [.For target iter [.If btest [ys, cs] [] p1, s2, s3, s4, s5, .While test wbody [] wpos] [] pos]) hK ((congrArg txtO hf).trans rfl) hA hfl htl hy hend
theorem seg_for (hK : K01 W) (hf : W.K.lookup 74 = some ⟨oc, od, .func (fnOf name qual params [.For target iter [.If btest [ys, cs] [] p1, s2, s3, s4, s5, .While test wbody [] wpos] [] pos] scope dV kV doc pm an cdv ct), osl⟩)
    {Φ : End → Shared → Prop} {fz₀ : Heap} {o : Own} {rows : List PyData} {col : Nat} {out : List PyData} {p2 : Pos} (hA : A.handled = none) (hd : A.depth < 500) (hcol : 0 < col)
    (hit : (it, Ob.prop (LItP (rows.map V.dat))) ∈ o) (hx : (x, Ob.obj (instObj 113 dx)) ∈ o) (hdx : (dx, Ob.att (attC col)) ∈ o) (hn1 : x ≠ it) (hn2 : dx ≠ it) (hdue : ∀ r rs, rows = r :: rs → DueR col r out)
    (hret : rows = [] → ∀ fz s, Keep fz₀ fz → Hold W fz ((ga, .gen g (· = .running)) :: o) s → W.tk ≤ s.toks → Φ (.ret (.ok (.ret .none))) s)
    (hyB : ∀ r rows' o', rows = r :: rows' → Upd it (.prop (LItP (rows.map V.dat))) (.prop (LItP (rows'.map V.dat))) o o' → out = [r] → ∀ fz s v l k p, Keep fz₀ fz → Hold W fz ((ga, .gen g (· = .running)) :: (L, .ns (locF x it)) :: o') s → W.tk ≤ s.toks → RV fz (.dat r) v →
      k (.send .none) = (execs [cs] (envX qual scope L 74 cdv [])).wrap (kNext (envX qual scope L 74 cdv []) [s2, s3, s4, s5, .While test wbody [] wpos] (kTurn (.forLoop target (.ref it) [.If btest [ys, cs] [] p1, s2, s3, s4, s5, .While test wbody [] wpos] [] (envX qual scope L 74 cdv []))) (hTurn (envX qual scope L 74 cdv [])) id id) (hTurn (envX qual scope L 74 cdv [])) id id → Φ (.susp v false l k (.forLoop target (.ref it) [.If btest [ys, cs] [] p1, s2, s3, s4, s5, .While test wbody [] wpos] [] (envX qual scope L 74 cdv [])) p [fF (envX qual scope L 74 cdv []) (.func [.For target iter [.If btest [ys, cs] [] p1, s2, s3, s4, s5, .While test wbody [] wpos] [] pos] (envX qual scope L 74 cdv [])) p2]) s)
    (hyC : ∀ r rows' o' row pend', rows = r :: rows' → Upd it (.prop (LItP (rows.map V.dat))) (.prop (LItP (rows'.map V.dat))) o o' → out = row :: pend' → ∀ flag F T pp fz s v l k p fl' tl', Keep fz₀ fz →
      Hold W fz ((ga, .gen g (· = .running)) :: (L, .ns (locW x it F T flag)) :: (F, .list (fl'.map V.dat)) :: (T, .list (tl'.map V.dat)) :: o') s → W.tk ≤ s.toks → RV fz (.dat row) v → zipT flag fl' tl' = pend' → fl'.length ≤ 60 → tl'.length ≤ 60 →
      k (.send .none) = .pure (.again (.whileLoop test wbody [] (envX qual scope L 74 cdv []))) → Φ (.susp v false l k (.whileLoop test wbody [] (envX qual scope L 74 cdv [])) p [fW (envX qual scope L 74 cdv []) (.forLoop target (.ref it) [.If btest [ys, cs] [] p1, s2, s3, s4, s5, .While test wbody [] wpos] [] (envX qual scope L 74 cdv [])) pp, fF (envX qual scope L 74 cdv []) (.func [.For target iter [.If btest [ys, cs] [] p1, s2, s3, s4, s5, .While test wbody [] wpos] [] pos] (envX qual scope L 74 cdv [])) p2]) s) :
    Gk W A Φ fz₀ (.forLoop target (.ref it) [.If btest [ys, cs] [] p1, s2, s3, s4, s5, .While test wbody [] wpos] [] (envX qual scope L 74 cdv [])) [fF (envX qual scope L 74 cdv []) (.func [.For target iter [.If btest [ys, cs] [] p1, s2, s3, s4, s5, .While test wbody [] wpos] [] pos] (envX qual scope L 74 cdv [])) p2] ((model W.prog W.w).den (.forLoop target (.ref it) [.If btest [ys, cs] [] p1, s2, s3, s4, s5, .While test wbody [] wpos] [] (envX qual scope L 74 cdv []))) ((ga, .gen g (· = .running)) :: (L, .ns (locF x it)) :: o) :=
  seg_forA (tb := [.For target iter [.If btest [ys, cs] [] p1, s2, s3, s4, s5, .While test wbody [] wpos] [] pos]) hK ((congrArg txtO hf).trans rfl) hA hd hcol hit hx hdx hn1 hn2 hdue hret hyB hyC
end
section
variable {it x dx ga L : Addr} {g : Nat} {name qual : Str} {params : Arguments} {scope : Scope} {dV kV doc pm cdv ct oc : Value} {an od : Option Addr} {osl : Array (Option Value)} {target iter btest test : Expr} {ys cs s2 s3 s4 s5 : Stmt} {wbody : List Stmt} {pos p1 wpos : Pos}
/-- what a wake of the wrapper has to tell -/
noncomputable abbrev OutW (W : Wd) (fz : Heap) (it x dx ga : Addr) (g n : Nat) (o : Own) (rows pend out : List PyData) : End → Shared → Prop :=
  OutG W fz ga g (fun b P o1 => ∃ go' pend' rows' row o', b = .dat row ∧ o1 = go' ++ o' ∧ Upd it (.prop (LItP (rows.map V.dat))) (.prop (LItP (rows'.map V.dat))) o o' ∧
          ((pend = row :: pend' ∧ rows' = rows) ∨ (pend = [] ∧ ∃ r, rows = r :: rows' ∧ out = row :: pend')) ∧ P = GP W it x dx n go' pend')
        (fun o1 => pend = [] ∧ rows = [] ∧ o1 = o)
noncomputable abbrev HypB (W : Wd) (it x dx L : Addr) (n : Nat) (CFv : Code) (FFv : Pos → Frame) (t : Sem Fin) : Prop := ∀ k l p p2 cl, k (.send .none) = t → GP W it x dx n [(L, .ns (locF x it))] [] (.suspended k l CFv p [FFv p2] cl)
noncomputable abbrev HypC (W : Wd) (it x dx L : Addr) (n : Nat) (CWv : Code) (FWv FFv : Pos → Frame) : Prop := ∀ k l p pp p2 cl flag F T fl tl, k (.send .none) = .pure (.again CWv) → fl.length ≤ 60 → tl.length ≤ 60 →
  GP W it x dx n [(L, .ns (locW x it F T flag)), (F, .list (fl.map V.dat)), (T, .list (tl.map V.dat))] (zipT flag fl tl) (.suspended k l CWv p [FWv pp, FFv p2] cl)
theorem seg_out (hK : K01 W) (hf : W.K.lookup 74 = some ⟨oc, od, .func (fnOf name qual params [.For target iter [.If btest [ys, cs] [] p1, s2, s3, s4, s5, .While test wbody [] wpos] [] pos] scope dV kV doc pm an cdv ct), osl⟩) {n : Nat}
    (hB : HypB W it x dx L n (.forLoop target (.ref it) [.If btest [ys, cs] [] p1, s2, s3, s4, s5, .While test wbody [] wpos] [] (envX qual scope L 74 cdv [])) (fun p2 => fF (envX qual scope L 74 cdv []) (.func [.For target iter [.If btest [ys, cs] [] p1, s2, s3, s4, s5, .While test wbody [] wpos] [] pos] (envX qual scope L 74 cdv [])) p2) ((execs [cs] (envX qual scope L 74 cdv [])).wrap (kNext (envX qual scope L 74 cdv []) [s2, s3, s4, s5, .While test wbody [] wpos] (kTurn (.forLoop target (.ref it) [.If btest [ys, cs] [] p1, s2, s3, s4, s5, .While test wbody [] wpos] [] (envX qual scope L 74 cdv []))) (hTurn (envX qual scope L 74 cdv [])) id id) (hTurn (envX qual scope L 74 cdv [])) id id))
    (hC : HypC W it x dx L n (.whileLoop test wbody [] (envX qual scope L 74 cdv [])) (fun pp => fW (envX qual scope L 74 cdv []) (.forLoop target (.ref it) [.If btest [ys, cs] [] p1, s2, s3, s4, s5, .While test wbody [] wpos] [] (envX qual scope L 74 cdv [])) pp) (fun p2 => fF (envX qual scope L 74 cdv []) (.func [.For target iter [.If btest [ys, cs] [] p1, s2, s3, s4, s5, .While test wbody [] wpos] [] pos] (envX qual scope L 74 cdv [])) p2))
    {fz₀ : Heap} {o : Own} {rows : List PyData} {col : Nat} {out : List PyData} {p2 : Pos} (hA : A.handled = none) (hd : A.depth < 500) (hcol : 0 < col)
    (hit : (it, Ob.prop (LItP (rows.map V.dat))) ∈ o) (hx : (x, Ob.obj (instObj 113 dx)) ∈ o) (hdx : (dx, Ob.att (attC col)) ∈ o) (hn1 : x ≠ it) (hn2 : dx ≠ it) (hdue : ∀ r rs, rows = r :: rs → DueR col r out) :
    Gk W A (OutW W fz₀ it x dx ga g n o rows [] out) fz₀ (.forLoop target (.ref it) [.If btest [ys, cs] [] p1, s2, s3, s4, s5, .While test wbody [] wpos] [] (envX qual scope L 74 cdv [])) [fF (envX qual scope L 74 cdv []) (.func [.For target iter [.If btest [ys, cs] [] p1, s2, s3, s4, s5, .While test wbody [] wpos] [] pos] (envX qual scope L 74 cdv [])) p2] ((model W.prog W.w).den (.forLoop target (.ref it) [.If btest [ys, cs] [] p1, s2, s3, s4, s5, .While test wbody [] wpos] [] (envX qual scope L 74 cdv []))) ((ga, .gen g (· = .running)) :: (L, .ns (locF x it)) :: o) := by
  refine seg_for hK hf hA hd hcol hit hx hdx hn1 hn2 hdue ?_ ?_ ?_
  · intro hr fz s k0 Ho ht
    exact ⟨rfl, rfl, fz, o, k0, Ho, ht, rfl, hr, rfl⟩
  · intro r rows' o' hr u hout fz s v l k p k0 Ho ht rv hk
    exact ⟨rfl, fz, .dat r, GP W it x dx n [(L, .ns (locF x it))] [], (L, .ns (locF x it)) :: o', k0, Ho, ht, rv, hB k l p p2 _ hk, [(L, .ns (locF x it))], [], rows', r, o', rfl, rfl, u, .inr ⟨rfl, r, hr, hout⟩, rfl⟩
  · intro r rows' o' row pend' hr u hout flag F T pp fz s v l k p fl' tl' k0 Ho ht rv hz hl1 hl2 hk
    subst hz
    exact ⟨rfl, fz, .dat row, GP W it x dx n [(L, .ns (locW x it F T flag)), (F, .list (fl'.map V.dat)), (T, .list (tl'.map V.dat))] (zipT flag fl' tl'), _, k0, Ho, ht, rv, hC k l p pp p2 _ flag F T fl' tl' hk hl1 hl2,
      [(L, .ns (locW x it F T flag)), (F, .list (fl'.map V.dat)), (T, .list (tl'.map V.dat))], zipT flag fl' tl', rows', row, o', rfl, rfl, u, .inr ⟨rfl, r, hr, hout⟩, rfl⟩
theorem ne_of_hold {fz : Heap} {s : Shared} (H : Hold W fz own s) {a b : Addr} {oa ob : Ob} (ha : (a, oa) ∈ own) (hb : (b, ob) ∈ own) (h : oa ≠ ob) : a ≠ b := fun e => h (by
  have := mem_unique H.nd ha hb e
  exact congrArg Prod.snd this)
theorem gp_susp (hK : K01 W) (hf : W.K.lookup 74 = some ⟨oc, od, .func (fnOf name qual params [.For target iter [.If btest [ys, cs] [] p1, s2, s3, s4, s5, .While test wbody [] wpos] [] pos] scope dV kV doc pm an cdv ct), osl⟩) (hcs : ∃ cp, cs = .Continue cp) : ∀ n,
    HypB W it x dx L n (.forLoop target (.ref it) [.If btest [ys, cs] [] p1, s2, s3, s4, s5, .While test wbody [] wpos] [] (envX qual scope L 74 cdv [])) (fun p2 => fF (envX qual scope L 74 cdv []) (.func [.For target iter [.If btest [ys, cs] [] p1, s2, s3, s4, s5, .While test wbody [] wpos] [] pos] (envX qual scope L 74 cdv [])) p2) ((execs [cs] (envX qual scope L 74 cdv [])).wrap (kNext (envX qual scope L 74 cdv []) [s2, s3, s4, s5, .While test wbody [] wpos] (kTurn (.forLoop target (.ref it) [.If btest [ys, cs] [] p1, s2, s3, s4, s5, .While test wbody [] wpos] [] (envX qual scope L 74 cdv []))) (hTurn (envX qual scope L 74 cdv [])) id id) (hTurn (envX qual scope L 74 cdv [])) id id) ∧ HypC W it x dx L n (.whileLoop test wbody [] (envX qual scope L 74 cdv [])) (fun pp => fW (envX qual scope L 74 cdv []) (.forLoop target (.ref it) [.If btest [ys, cs] [] p1, s2, s3, s4, s5, .While test wbody [] wpos] [] (envX qual scope L 74 cdv [])) pp) (fun p2 => fF (envX qual scope L 74 cdv []) (.func [.For target iter [.If btest [ys, cs] [] p1, s2, s3, s4, s5, .While test wbody [] wpos] [] pos] (envX qual scope L 74 cdv [])) p2) := by
  intro n
  induction n with
  | zero => exact ⟨fun _ _ _ _ _ _ => trivial, fun _ _ _ _ _ _ _ _ _ _ _ _ _ _ => trivial⟩
  | succ n ih =>
    obtain ⟨hB, hC⟩ := ih
    constructor
    · intro k l p p2 cl hk A fz s ga g o rows col out hA hd hcol H ht hit hx hdx hdue
      have hm := fun {q : Addr × Ob} (hq : q ∈ o) => (List.mem_cons_of_mem (ga, Ob.gen g (· = .running)) (List.mem_append_right [(L, Ob.ns (locF x it))] hq))
      have hn1 := ne_of_hold H (hm hx) (hm hit) (fun e => nomatch e)
      have hn2 := ne_of_hold H (hm hdx) (hm hit) (fun e => nomatch e)
      show Sg _ A _ _ (k (.send .none)) _ s
      rw [hk]
      obtain ⟨cp, rfl⟩ := hcs
      exact gk_cons (gk_cont (gk_again rfl (seg_out hK hf hB hC hA hd hcol hit hx hdx hn1 hn2 hdue))) fz s (Keep.refl _) H ht
    · intro k l p pp p2 cl flag F T fl tl hk hl1 hl2 A fz s ga g o rows col out hA hd hcol H ht hit hx hdx hdue
      have hm := fun {q : Addr × Ob} (hq : q ∈ o) => (List.mem_cons_of_mem (ga, Ob.gen g (· = .running)) (List.mem_append_right [(L, Ob.ns (locW x it F T flag)), (F, Ob.list (fl.map V.dat)), (T, Ob.list (tl.map V.dat))] hq))
      have hn1 := ne_of_hold H (hm hx) (hm hit) (fun e => nomatch e)
      have hn2 := ne_of_hold H (hm hdx) (hm hit) (fun e => nomatch e)
      show Sg _ A _ _ (k (.send .none)) _ s
      rw [hk]
      refine gk_again rfl (seg_while hK hf hA hl1 hl2 ?_ ?_) fz s (Keep.refl _) H ht
      · intro row pend' hz fz' s' v l' k' p' fl' tl' k0 Ho ht' rv hz2 hl1' hl2' hk'
        subst hz2
        exact ⟨rfl, fz', .dat row, GP W it x dx n [(L, .ns (locW x it F T flag)), (F, .list (fl'.map V.dat)), (T, .list (tl'.map V.dat))] (zipT flag fl' tl'), _, k0, Ho, ht', rv, hC k' l' p' pp p2 _ flag F T fl' tl' hk' hl1' hl2',
          [(L, .ns (locW x it F T flag)), (F, .list (fl'.map V.dat)), (T, .list (tl'.map V.dat))], zipT flag fl' tl', rows, row, o, rfl, rfl, Upd.self hit, .inl ⟨hz, rfl⟩, rfl⟩
      · intro e1 e2
        subst e1 e2
        have hz0 : zipT flag [] [] = [] := zT0
        have := seg_out (ga := ga) (g := g) (p2 := p2) hK hf hB hC (fz₀ := fz) hA hd hcol hit hx hdx hn1 hn2 hdue
        unfold OutW at this
        rw [hz0]
        exact this
theorem gp_fresh (hK : K01 W) (hf : W.K.lookup 74 = some ⟨oc, od, .func (fnOf name qual params [.For target iter [.If btest [ys, cs] [] p1, s2, s3, s4, s5, .While test wbody [] wpos] [] pos] scope dV kV doc pm an cdv ct), osl⟩) (hcs : ∃ cp, cs = .Continue cp)
    (hiter : ∀ (A : Around) (own : Own) (Q : V → Own → Prop), (L, Ob.ns (locF x it)) ∈ own → Q (.ref it) own → SE W A (envX qual scope L 74 cdv []) iter own Q) (hfs : ∀ y, foldedSetIterable iter (envX qual scope L 74 cdv []) y = pure y) (n : Nat) : GP W it x dx n [(L, .ns (locF x it))] [] (.fresh (.func [.For target iter [.If btest [ys, cs] [] p1, s2, s3, s4, s5, .While test wbody [] wpos] [] pos] (envX qual scope L 74 cdv []))) := by
  cases n with
  | zero => exact trivial
  | succ n =>
    obtain ⟨hB, hC⟩ := gp_susp (it := it) (x := x) (dx := dx) (L := L) hK hf hcs n
    intro A fz s ga g o rows col out hA hd hcol H ht hit hx hdx hdue
    have hm := fun {q : Addr × Ob} (hq : q ∈ o) => (List.mem_cons_of_mem (ga, Ob.gen g (· = .running)) (List.mem_append_right [(L, Ob.ns (locF x it))] hq))
    have hn1 := ne_of_hold H (hm hx) (hm hit) (fun e => nomatch e)
    have hn2 := ne_of_hold H (hm hdx) (hm hit) (fun e => nomatch e)
    refine gk_func (gk_cons (gk_for (hiter _ _ _ (by simp) ?_) hfs)) fz s (Keep.refl _) H ht
    refine lit_iter (hm hit) ⟨it, rfl, fun p => ?_⟩
    exact seg_out hK hf hB hC hA hd hcol hit hx hdx hn1 hn2 hdue
end
/-- a wrapper is made -/
theorem c_wrap (hK : K01 W) (hd : A.depth < recursionLimit) {x dx it : Addr} {Q : V → Own → Prop} (h : ∀ L ga g, Q (.ref ga) ((ga, .gen g (fun st => ∀ n, GP W it x dx n [(L, .ns (locF x it))] [] st)) :: (L, .ns (locF x it)) :: own)) :
    SLC W A (.ref 74) [.ref x, .ref it] own Q := by
  refine' do_callG [Str.ofString "self", Str.ofString "diffs"] ?ho ?hcd hd ?hb ?hloc ?nd (fun L st => ∀ n, GP W it x dx n [(L, .ns (locF x it))] [] st) ?hP ?hh4 ?c1 ?c2 ?c3 ?c4
  case ho => exact K_of hK rfl
  case hcd => rw [hK]; rfl
  case hb => intro s vs _ hl; obtain ⟨_, _, rfl⟩ := len_2 hl; exact BindsTo.of_eq rfl
  case hloc => decide +kernel
  case nd => decide +kernel
  case c1 => rfl
  case c2 => rfl
  case c3 => rfl
  case c4 => decide +kernel
  case hh4 => intro L ga g; exact h L ga g
  intro L n
  dsimp only [lawS, nthS, fdB, fdS, clB, PySem.Challenge.pw_dm0066_01]
  refine gp_fresh hK (K_of hK rfl) ⟨_, rfl⟩ ?_ (fun _ => rfl) n
  intro A own Q hm hq
  refine SE_Name ?_ (by decide +kernel)
  exact SN_loc rfl rfl hm rfl (by (with_reducible repeat first | exact List.mem_cons_self | refine List.mem_cons_of_mem _ ?_ | assumption | exact mem_mid' | exact mem_mid (by assumption))) hq
/-! ### the pieces of a line -/
noncomputable def numD : Option Nat → PyData
  | none => .str (S [])
  | some i => .int ((i + 1 : Nat) : Int)
noncomputable def wrapM (mark p : List Nat) : List Nat := if mark = [] then p else [0] ++ mark ++ p ++ [1]
noncomputable def pcsAt (num : PyData) (mark signs : List Nat) (col i : Nat) : PyData := .tuple [if i = 0 then num else .str (S [62]), .str (S (wrapM mark ((signs.drop (i * col)).take col)))]
noncomputable def pcs (num : PyData) (mark signs : List Nat) (col : Nat) : List PyData := (List.range ((max signs.length 1 - 1) / col + 1)).map (pcsAt num mark signs col)
noncomputable def sideP (nO : Option Nat) (mark signs : List Nat) (col : Nat) : List PyData := match nO with
  | none => [.tuple [.str (S []), .str (S [10])]]
  | some i => pcs (numD (some i)) mark signs col
theorem cut_chunk (l : List Nat) (a c : Nat) : cutL l (some (a : Int)) (some ((a : Int) + (c : Int))) = (l.drop a).take c := by
  unfold cutL
  rw [show (a : Int) + (c : Int) = ((a + c : Nat) : Int) by (first | decide | exact Nat.le_trans (by assumption) (by decide) | lia | omega)]
  simp only [Option.elim, clipAt_nat]
  rcases Nat.le_total a l.length with h | h
  · rw [Nat.min_eq_left h]
    rcases Nat.le_total (a + c) l.length with h2 | h2
    · rw [Nat.min_eq_left h2]; congr 1; (first | decide | exact Nat.le_trans (by assumption) (by decide) | lia | omega)
    · rw [Nat.min_eq_right h2, List.take_of_length_le (by rw [List.length_drop]; (first | decide | exact Nat.le_trans (by assumption) (by decide) | lia | omega)), List.take_of_length_le (by rw [List.length_drop]; (first | decide | exact Nat.le_trans (by assumption) (by decide) | lia | omega))]
  · rw [Nat.min_eq_right h, List.drop_of_length_le (Nat.le_refl _), List.drop_of_length_le h]; simp
theorem num_eq {nO : Option Nat} : PyData.eqv (numD nO) (.str (S [])) = decide (nO = none) := by
  cases nO with
  | none => decide +kernel
  | some i => rfl
theorem num_shaped {nO : Option Nat} : SeqAt.shaped (numD nO) = true := by
  cases nO with
  | none => decide +kernel
  | some i => rfl
theorem small_of {a b c n : Int} (ha : 0 ≤ a ∧ a ≤ 100000) (hb : -1 ≤ b) (hb2 : b ≤ 100000) (hc : 0 < c ∧ c ≤ 100000) (hn : Builtin.Range.rangeSize a b c = n) (hn2 : 0 ≤ n ∧ n ≤ 100000) : Builtin.Range.small a b c = true := by
  have f : ∀ x : Int, -1 ≤ x → x ≤ 300000 → Builtin.Range.rangeFitsLong x = true := fun x h1 h2 => by
    unfold Builtin.Range.rangeFitsLong
    simp only [Bool.and_eq_true, decide_eq_true_eq]
    (first | decide | exact Nat.le_trans (by assumption) (by decide) | lia | omega)
  unfold Builtin.Range.small
  rw [hn, f a (by (first | decide | exact Nat.le_trans (by assumption) (by decide) | lia | omega)) (by (first | decide | exact Nat.le_trans (by assumption) (by decide) | lia | omega)), f b (by (first | decide | exact Nat.le_trans (by assumption) (by decide) | lia | omega)) (by (first | decide | exact Nat.le_trans (by assumption) (by decide) | lia | omega)), f c (by (first | decide | exact Nat.le_trans (by assumption) (by decide) | lia | omega)) (by (first | decide | exact Nat.le_trans (by assumption) (by decide) | lia | omega)), f n (by (first | decide | exact Nat.le_trans (by assumption) (by decide) | lia | omega)) (by (first | decide | exact Nat.le_trans (by assumption) (by decide) | lia | omega)), if_pos hc.1, f (b + (c - 1)) (by (first | decide | exact Nat.le_trans (by assumption) (by decide) | lia | omega)) (by (first | decide | exact Nat.le_trans (by assumption) (by decide) | lia | omega))]
  simp
theorem c_pieces (hK : K01 W) (hh : A.handled = none) (hd : A.depth < recursionLimit) (hu : A.units + 100 < cLine) (nO : Option Nat) (mark signs : List Nat) (hm : mark.length ≤ 1) (hs : signs.length ≤ 10) (col : Nat) (hc0 : 0 < col) (hc9 : col ≤ 9) :
    SLC W A (.ref 124) [.lst [numD nO, .str (S mark), .str (S signs)], .int col] own (fun r o => ∃ D, r = .ref D ∧ o = (D, .list ((sideP nO mark signs col).map V.dat)) :: own) := by
  refine' do_callC [Str.ofString "line", Str.ofString "column"] ?ho ?hcd hd ?hb ?hloc ?nd ?hh5 ?c1 ?c2 ?c3 ?c4
  case ho => exact K_of hK rfl
  case hcd => rw [hK]; rfl
  case hb => intro s vs _ hl; obtain ⟨_, _, rfl⟩ := len_2 hl; exact BindsTo.of_eq rfl
  case hloc => decide +kernel
  case nd => decide +kernel
  case c1 => rfl
  case c2 => rfl
  case c3 => rfl
  case c4 => decide +kernel
  intro L
  dsimp only [lawS, nthS, fdB, fdS, clB, PySem.Challenge.pw_dm0066_01]
  simp only [List.zip_cons_cons, List.zip_nil_right]
  refine @deeper_gen W A _ _ _ _ _ hh ?_
  intro A' hh' hd' hu'
  refine SXs_cons (SX_AssignT ?_)
  refine SE_Name ?_ (by decide +kernel)
  refine SN_loc rfl rfl (by (with_reducible repeat first | exact List.mem_cons_self | refine List.mem_cons_of_mem _ ?_ | assumption | exact mem_mid' | exact mem_mid (by assumption))) (by with_reducible rfl) (by (with_reducible repeat first | exact List.mem_cons_self | refine List.mem_cons_of_mem _ ?_ | assumption | exact mem_mid' | exact mem_mid (by assumption))) ?_
  refine SA_TupleL hh' rfl ?_
  refine SAs_cons ?_
  refine SA_Name ?_
  refine SS_loc rfl rfl (by (with_reducible repeat first | exact List.mem_cons_self | refine List.mem_cons_of_mem _ ?_ | assumption | exact mem_mid' | exact mem_mid (by assumption))) (by with_reducible rfl) (by (with_reducible repeat first | exact Put.here | exact Put.new | apply Put.there)) (by (((first | dsimp only [List.map_cons, List.map_nil] | simp only [List.map_cons, List.map_nil]); decide +kernel))) (by (with_reducible repeat first | exact Upd.here | exact Upd.mid | apply Upd.there)) ?_
  refine SAs_cons ?_
  refine SA_Name ?_
  refine SS_loc rfl rfl (by (with_reducible repeat first | exact List.mem_cons_self | refine List.mem_cons_of_mem _ ?_ | assumption | exact mem_mid' | exact mem_mid (by assumption))) (by with_reducible rfl) (by (with_reducible repeat first | exact Put.here | exact Put.new | apply Put.there)) (by (((first | dsimp only [List.map_cons, List.map_nil] | simp only [List.map_cons, List.map_nil]); decide +kernel))) (by (with_reducible repeat first | exact Upd.here | exact Upd.mid | apply Upd.there)) ?_
  refine SAs_cons ?_
  refine SA_Name ?_
  refine SS_loc rfl rfl (by (with_reducible repeat first | exact List.mem_cons_self | refine List.mem_cons_of_mem _ ?_ | assumption | exact mem_mid' | exact mem_mid (by assumption))) (by with_reducible rfl) (by (with_reducible repeat first | exact Put.here | exact Put.new | apply Put.there)) (by (((first | dsimp only [List.map_cons, List.map_nil] | simp only [List.map_cons, List.map_nil]); decide +kernel))) (by (with_reducible repeat first | exact Upd.here | exact Upd.mid | apply Upd.there)) ?_
  refine SAs_nil ?_
  refine SXs_cons ?_
  refine SX_If ?_
  refine ST_Compare ?_
  refine SE_Name ?_ (by decide +kernel)
  refine SN_loc rfl rfl (by (with_reducible repeat first | exact List.mem_cons_self | refine List.mem_cons_of_mem _ ?_ | assumption | exact mem_mid' | exact mem_mid (by assumption))) (by with_reducible rfl) (by (with_reducible repeat first | exact List.mem_cons_self | refine List.mem_cons_of_mem _ ?_ | assumption | exact mem_mid' | exact mem_mid (by assumption))) ?_
  refine SE_strL (by (first | exact l01_0 | exact l01_1 | exact l01_2 | exact l01_3 | exact l01_4 | exact l01_5 | exact l01_6 | exact l01_7 | exact l01_8 | exact l01_9)) ?_
  refine cmp_eqD num_shaped (by decide +kernel) (by (first | decide | exact Nat.le_trans (by assumption) (by decide) | lia | omega)) ?_
  rw [num_eq]
  with_reducible refine tr_bool ?_
  cases nO with
  | none =>
    refine ite_dec (fun _ => ?_) (fun h => absurd rfl h)
    refine SXs_cons ?_
    refine SX_Return ?_
    refine SE_List (by ((rw [sizeLine_eq]; simp))) ?_
    refine SEs_cons ?_
    refine SE_TupleF ?_
    refine SEs_cons ?_
    refine SE_strL (by (first | exact l01_0 | exact l01_1 | exact l01_2 | exact l01_3 | exact l01_4 | exact l01_5 | exact l01_6 | exact l01_7 | exact l01_8 | exact l01_9)) ?_
    refine SEs_cons ?_
    refine SE_strL (by (first | exact l01_0 | exact l01_1 | exact l01_2 | exact l01_3 | exact l01_4 | exact l01_5 | exact l01_6 | exact l01_7 | exact l01_8 | exact l01_9)) ?_
    refine SEs_nil ?_
    with_reducible refine ⟨_, by with_reducible ((first | exact AllDat.map _ | repeat first | exact AllDat.nil | with_reducible apply AllDat.cons)), by ((rw [sizeLine_eq]; simp)), ?_⟩
    refine SEs_nil ?_
    refine ⟨by ((rw [sizeLine_eq]; simp)), fun D => ⟨_, by (with_reducible repeat first | exact Wk.refl | exact Wk.nil | refine Wk.keep ObW.refl ?_ | refine Wk.keep (ObW.ns (by (with_reducible repeat first | exact List.Sublist.refl _ | exact List.nil_sublist _ | apply List.Sublist.cons_cons | apply List.Sublist.cons))) ?_ | apply Wk.drop), D, rfl, rfl⟩⟩
  | some i =>
    refine ite_dec (fun h => nomatch h) (fun _ => ?_)
    refine SXs_nil ?_
    refine SXs_cons ?_
    refine SX_Assign ?_
    refine SE_List (by ((rw [sizeLine_eq]; simp))) ?_
    refine SEs_nil ?_
    refine ⟨by ((rw [sizeLine_eq]; simp)), fun D => ?_⟩
    refine SS_loc rfl rfl (by (with_reducible repeat first | exact List.mem_cons_self | refine List.mem_cons_of_mem _ ?_ | assumption | exact mem_mid' | exact mem_mid (by assumption))) (by with_reducible rfl) (by (with_reducible repeat first | exact Put.here | exact Put.new | apply Put.there)) (by (((first | dsimp only [List.map_cons, List.map_nil] | simp only [List.map_cons, List.map_nil]); decide +kernel))) (by (with_reducible repeat first | exact Upd.here | exact Upd.mid | apply Upd.there)) ?_
    refine SXs_cons ?_
    refine SX_For hh' ?_
    refine SE_Call ?_
    refine SE_Name ?_ (by decide +kernel)
    refine SN_builtin rfl rfl rfl rfl (nsIn_of (by assumption) rfl) rfl (by decide +kernel) ?_
    with_reducible refine ⟨_, rfl, ?_⟩
    refine SEs_cons ?_
    refine SE_int ?_
    refine SEs_cons ?_
    refine SE_Call ?_
    refine SE_Name ?_ (by decide +kernel)
    refine SN_builtin rfl rfl rfl rfl (nsIn_of (by assumption) rfl) rfl (by decide +kernel) ?_
    with_reducible refine ⟨_, rfl, ?_⟩
    refine SEs_cons ?_
    refine SE_Call ?_
    refine SE_Name ?_ (by decide +kernel)
    refine SN_builtin rfl rfl rfl rfl (nsIn_of (by assumption) rfl) rfl (by decide +kernel) ?_
    with_reducible refine ⟨_, rfl, ?_⟩
    refine SEs_cons ?_
    refine SE_Name ?_ (by decide +kernel)
    refine SN_loc rfl rfl (by (with_reducible repeat first | exact List.mem_cons_self | refine List.mem_cons_of_mem _ ?_ | assumption | exact mem_mid' | exact mem_mid (by assumption))) (by with_reducible rfl) (by (with_reducible repeat first | exact List.mem_cons_self | refine List.mem_cons_of_mem _ ?_ | assumption | exact mem_mid' | exact mem_mid (by assumption))) ?_
    refine SEs_nil ?_
    with_reducible refine ⟨kp_builtin, ?_⟩
    refine call_lenS (by ((rw [sizeLine_eq]; (try simp only [List.length_append, List.length_cons, List.length_nil, List.length_map]); (first | decide | exact Nat.le_trans (by assumption) (by decide) | lia | omega)))) ?_
    refine SEs_cons ?_
    refine SE_int ?_
    refine SEs_nil ?_
    with_reducible refine ⟨kp_builtin, ?_⟩
    refine call_max2 hh' ?_
    refine SEs_cons ?_
    refine SE_Name ?_ (by decide +kernel)
    refine SN_loc rfl rfl (by (with_reducible repeat first | exact List.mem_cons_self | refine List.mem_cons_of_mem _ ?_ | assumption | exact mem_mid' | exact mem_mid (by assumption))) (by with_reducible rfl) (by (with_reducible repeat first | exact List.mem_cons_self | refine List.mem_cons_of_mem _ ?_ | assumption | exact mem_mid' | exact mem_mid (by assumption))) ?_
    refine SEs_nil ?_
    with_reducible refine ⟨kp_type, ?_⟩
    refine call_range3 (by (first | decide | exact Nat.le_trans (by assumption) (by decide) | lia | omega)) (by (first | decide | exact Nat.le_trans (by assumption) (by decide) | lia | omega)) ?_
    have hn : Builtin.Range.rangeSize 0 (max ((signs.length : Nat) : Int) 1) col = (((max signs.length 1 - 1) / col + 1 : Nat) : Int) := by
      unfold Builtin.Range.rangeSize
      rw [if_pos (by (first | decide | exact Nat.le_trans (by assumption) (by decide) | lia | omega)), if_pos (by (first | decide | exact Nat.le_trans (by assumption) (by decide) | lia | omega))]
      rw [show (max ((signs.length : Nat) : Int) 1 - 0 - 1) = ((max signs.length 1 - 1 : Nat) : Int) by (first | decide | exact Nat.le_trans (by assumption) (by decide) | lia | omega)]
      push_cast; rfl
    have hcnt : (max signs.length 1 - 1) / col + 1 ≤ 11 := by
      have := Nat.div_le_self (max signs.length 1 - 1) col
      (first | decide | exact Nat.le_trans (by assumption) (by decide) | lia | omega)
    have hend : sideP (some i) mark signs col = (List.range ((max signs.length 1 - 1) / col + 1)).map (pcsAt (numD (some i)) mark signs col) := rfl
    have hpos : 0 < (max signs.length 1 - 1) / col + 1 := Nat.succ_pos _
    rw [hend]
    clear hend
    generalize (max signs.length 1 - 1) / col + 1 = cnt at hn hcnt hpos ⊢
    refine it_range (n := cnt) (small_of (by (first | decide | exact Nat.le_trans (by assumption) (by decide) | lia | omega)) (by (first | decide | exact Nat.le_trans (by assumption) (by decide) | lia | omega)) (by (first | decide | exact Nat.le_trans (by assumption) (by decide) | lia | omega)) (by (first | decide | exact Nat.le_trans (by assumption) (by decide) | lia | omega)) hn (by (first | decide | exact Nat.le_trans (by assumption) (by decide) | lia | omega))) hn fun it => ⟨it, _, _, rfl, rfl, fun l o => ∃ j : Nat, j ≤ cnt ∧ l = (List.range' j (cnt - j)).map (fun j : Nat => V.int (0 + (j : Int) * col)) ∧
      o = (D, Ob.list (((List.range j).map (pcsAt (numD (some i)) mark signs col)).map V.dat)) :: (L, Ob.ns [(Str.ofString "line", .lst [numD (some i), .str (S mark), .str (S signs)]), (Str.ofString "column", .int col), (Str.ofString "number", .dat (numD (some i))), (Str.ofString "mark", .str (S mark)), (Str.ofString "signs", .str (S signs)), (Str.ofString "pieces", .ref D)]) :: own, ?_, ?_, ?_⟩
    · exact ⟨0, by (first | decide | exact Nat.le_trans (by assumption) (by decide) | lia | omega), by rw [List.range_eq_range']; rfl, rfl⟩
    · rintro v r o ⟨j, hj, hl, rfl⟩
      obtain ⟨m, hm2⟩ : ∃ m, cnt - j = m := ⟨_, rfl⟩
      rw [hm2] at hl
      cases m with
      | zero => cases hl
      | succ m =>
        rw [List.range'_succ, List.map_cons] at hl
        injection hl with e1 e2
        subst e1 e2
        have hjc : (0 : Int) + (j : Int) * (col : Int) = ((j * col : Nat) : Int) := by push_cast; (first | decide | exact Nat.le_trans (by assumption) (by decide) | lia | omega)
        rw [hjc]
        have hj0 : (((j * col : Nat) : Int) = 0) = (j = 0) := by
          apply propext
          constructor
          · intro h
            have h' : j * col = 0 := by (first | decide | exact Nat.le_trans (by assumption) (by decide) | lia | omega)
            rcases Nat.mul_eq_zero.mp h' with h | h
            · exact h
            · (first | decide | exact Nat.le_trans (by assumption) (by decide) | lia | omega)
          · rintro rfl; simp
        have hll : (List.range j).length = j := List.length_range
        refine SA_Name ?_
        refine SS_loc rfl rfl (by (with_reducible repeat first | exact List.mem_cons_self | refine List.mem_cons_of_mem _ ?_ | assumption | exact mem_mid' | exact mem_mid (by assumption))) (by with_reducible rfl) (by (with_reducible repeat first | exact Put.here | exact Put.new | apply Put.there)) (by (((first | dsimp only [List.map_cons, List.map_nil] | simp only [List.map_cons, List.map_nil]); decide +kernel))) (by (with_reducible repeat first | exact Upd.here | exact Upd.mid | apply Upd.there)) ?_
        refine SXs_cons ?_
        refine SX_Assign ?_
        refine SE_SliceSS ?_
        refine SE_Name ?_ (by decide +kernel)
        refine SN_loc rfl rfl (by (with_reducible repeat first | exact List.mem_cons_self | refine List.mem_cons_of_mem _ ?_ | assumption | exact mem_mid' | exact mem_mid (by assumption))) (by with_reducible rfl) (by (with_reducible repeat first | exact List.mem_cons_self | refine List.mem_cons_of_mem _ ?_ | assumption | exact mem_mid' | exact mem_mid (by assumption))) ?_
        refine SPt_some ?_
        refine SE_Name ?_ (by decide +kernel)
        refine SN_loc rfl rfl (by (with_reducible repeat first | exact List.mem_cons_self | refine List.mem_cons_of_mem _ ?_ | assumption | exact mem_mid' | exact mem_mid (by assumption))) (by with_reducible rfl) (by (with_reducible repeat first | exact List.mem_cons_self | refine List.mem_cons_of_mem _ ?_ | assumption | exact mem_mid' | exact mem_mid (by assumption))) ?_
        with_reducible refine ⟨_, rfl, ?_⟩
        refine SPt_some ?_
        refine SE_BinOp ?_
        refine SE_Name ?_ (by decide +kernel)
        refine SN_loc rfl rfl (by (with_reducible repeat first | exact List.mem_cons_self | refine List.mem_cons_of_mem _ ?_ | assumption | exact mem_mid' | exact mem_mid (by assumption))) (by with_reducible rfl) (by (with_reducible repeat first | exact List.mem_cons_self | refine List.mem_cons_of_mem _ ?_ | assumption | exact mem_mid' | exact mem_mid (by assumption))) ?_
        refine SE_Name ?_ (by decide +kernel)
        refine SN_loc rfl rfl (by (with_reducible repeat first | exact List.mem_cons_self | refine List.mem_cons_of_mem _ ?_ | assumption | exact mem_mid' | exact mem_mid (by assumption))) (by with_reducible rfl) (by (with_reducible repeat first | exact List.mem_cons_self | refine List.mem_cons_of_mem _ ?_ | assumption | exact mem_mid' | exact mem_mid (by assumption))) ?_
        with_reducible refine op_add ?_
        with_reducible refine ⟨_, rfl, ?_⟩
        with_reducible refine ⟨_, rfl, ?_⟩
        refine ⟨by ((rw [sizeLine_eq]; (try simp only [List.length_append, List.length_cons, List.length_nil, List.length_map]); (first | decide | exact Nat.le_trans (by assumption) (by decide) | lia | omega))), ?_⟩
        rw [cut_chunk]
        have hpl : ((signs.drop (j * col)).take col).length ≤ 10 := by rw [List.length_take, List.length_drop]; (first | decide | exact Nat.le_trans (by assumption) (by decide) | lia | omega)
        generalize hp : (signs.drop (j * col)).take col = pc at hpl ⊢
        refine SS_loc rfl rfl (by (with_reducible repeat first | exact List.mem_cons_self | refine List.mem_cons_of_mem _ ?_ | assumption | exact mem_mid' | exact mem_mid (by assumption))) (by with_reducible rfl) (by (with_reducible repeat first | exact Put.here | exact Put.new | apply Put.there)) (by (((first | dsimp only [List.map_cons, List.map_nil] | simp only [List.map_cons, List.map_nil]); decide +kernel))) (by (with_reducible repeat first | exact Upd.here | exact Upd.mid | apply Upd.there)) ?_
        refine SXs_cons ?_
        refine SG.mono (Q := fun fl o => fl = Fl.next ∧ Wk o ((it, Ob.it ((List.range' (j + 1) m).map (fun j : Nat => V.int (0 + (j : Int) * col)))) :: (D, Ob.list (((List.range j).map (pcsAt (numD (some i)) mark signs col)).map V.dat)) :: (L, Ob.ns [(Str.ofString "line", .lst [numD (some i), .str (S mark), .str (S signs)]), (Str.ofString "column", .int col), (Str.ofString "number", .dat (numD (some i))), (Str.ofString "mark", .str (S mark)), (Str.ofString "signs", .str (S signs)), (Str.ofString "pieces", .ref D), (Str.ofString "k", .int ((j * col : Nat) : Int)), (Str.ofString "piece", .str (S (wrapM mark pc)))]) :: own)) ?_ ?_
        · refine SX_If ?_
          refine ST_Compare ?_
          refine SE_Name ?_ (by decide +kernel)
          refine SN_loc rfl rfl (by (with_reducible repeat first | exact List.mem_cons_self | refine List.mem_cons_of_mem _ ?_ | assumption | exact mem_mid' | exact mem_mid (by assumption))) (by with_reducible rfl) (by (with_reducible repeat first | exact List.mem_cons_self | refine List.mem_cons_of_mem _ ?_ | assumption | exact mem_mid' | exact mem_mid (by assumption))) ?_
          refine SE_strL (by (first | exact l01_0 | exact l01_1 | exact l01_2 | exact l01_3 | exact l01_4 | exact l01_5 | exact l01_6 | exact l01_7 | exact l01_8 | exact l01_9)) ?_
          with_reducible refine cmp_neSS ?_
          with_reducible refine tr_bool ?_
          refine ite_dec (fun h1 => ?_) (fun h1 => ?_)
          · refine SXs_cons ?_
            refine SX_Assign ?_
            refine SE_BinOp ?_
            refine SE_BinOp ?_
            refine SE_BinOp ?_
            refine SE_strL (by (first | exact l01_0 | exact l01_1 | exact l01_2 | exact l01_3 | exact l01_4 | exact l01_5 | exact l01_6 | exact l01_7 | exact l01_8 | exact l01_9)) ?_
            refine SE_Name ?_ (by decide +kernel)
            refine SN_loc rfl rfl (by (with_reducible repeat first | exact List.mem_cons_self | refine List.mem_cons_of_mem _ ?_ | assumption | exact mem_mid' | exact mem_mid (by assumption))) (by with_reducible rfl) (by (with_reducible repeat first | exact List.mem_cons_self | refine List.mem_cons_of_mem _ ?_ | assumption | exact mem_mid' | exact mem_mid (by assumption))) ?_
            with_reducible refine op_catS (by ((rw [sizeLine_eq]; (try simp only [List.length_append, List.length_cons, List.length_nil, List.length_map]); (first | decide | exact Nat.le_trans (by assumption) (by decide) | lia | omega)))) ?_
            refine SE_Name ?_ (by decide +kernel)
            refine SN_loc rfl rfl (by (with_reducible repeat first | exact List.mem_cons_self | refine List.mem_cons_of_mem _ ?_ | assumption | exact mem_mid' | exact mem_mid (by assumption))) (by with_reducible rfl) (by (with_reducible repeat first | exact List.mem_cons_self | refine List.mem_cons_of_mem _ ?_ | assumption | exact mem_mid' | exact mem_mid (by assumption))) ?_
            with_reducible refine op_catS (by ((rw [sizeLine_eq]; (try simp only [List.length_append, List.length_cons, List.length_nil, List.length_map]); (first | decide | exact Nat.le_trans (by assumption) (by decide) | lia | omega)))) ?_
            refine SE_strL (by (first | exact l01_0 | exact l01_1 | exact l01_2 | exact l01_3 | exact l01_4 | exact l01_5 | exact l01_6 | exact l01_7 | exact l01_8 | exact l01_9)) ?_
            with_reducible refine op_catS (by ((rw [sizeLine_eq]; (try simp only [List.length_append, List.length_cons, List.length_nil, List.length_map]); (first | decide | exact Nat.le_trans (by assumption) (by decide) | lia | omega)))) ?_
            refine SS_loc rfl rfl (by (with_reducible repeat first | exact List.mem_cons_self | refine List.mem_cons_of_mem _ ?_ | assumption | exact mem_mid' | exact mem_mid (by assumption))) (by with_reducible rfl) (by (with_reducible repeat first | exact Put.here | exact Put.new | apply Put.there)) (by (((first | dsimp only [List.map_cons, List.map_nil] | simp only [List.map_cons, List.map_nil]); decide +kernel))) (by (with_reducible repeat first | exact Upd.here | exact Upd.mid | apply Upd.there)) ?_
            refine SXs_nil ?_
            rw [show [0] ++ mark ++ pc ++ [1] = wrapM mark pc by rw [wrapM, if_neg h1]]
            exact ⟨rfl, by (with_reducible repeat first | exact Wk.refl | exact Wk.nil | refine Wk.keep ObW.refl ?_ | refine Wk.keep (ObW.ns (by (with_reducible repeat first | exact List.Sublist.refl _ | exact List.nil_sublist _ | apply List.Sublist.cons_cons | apply List.Sublist.cons))) ?_ | apply Wk.drop)⟩
          · refine SXs_nil ?_
            have h1' : mark = [] := by simpa using h1
            rw [show wrapM mark pc = pc by rw [wrapM, if_pos h1']]
            exact ⟨rfl, by (with_reducible repeat first | exact Wk.refl | exact Wk.nil | refine Wk.keep ObW.refl ?_ | refine Wk.keep (ObW.ns (by (with_reducible repeat first | exact List.Sublist.refl _ | exact List.nil_sublist _ | apply List.Sublist.cons_cons | apply List.Sublist.cons))) ?_ | apply Wk.drop)⟩
        rintro fl o ⟨rfl, wk⟩
        refine SG.wk wk ?_
        clear wk
        have hnext : ∀ q : PyData, q = pcsAt (numD (some i)) mark signs col j → ((List.range j).map (pcsAt (numD (some i)) mark signs col)).map V.dat ++ [V.dat q] = ((List.range (j + 1)).map (pcsAt (numD (some i)) mark signs col)).map V.dat := fun q hq => by
          rw [List.range_succ, List.map_append, List.map_append, hq]; rfl
        refine SXs_cons ?_
        refine SX_Expr ?_
        refine SE_Meth ?_
        refine SE_Name ?_ (by decide +kernel)
        refine SN_loc rfl rfl (by (with_reducible repeat first | exact List.mem_cons_self | refine List.mem_cons_of_mem _ ?_ | assumption | exact mem_mid' | exact mem_mid (by assumption))) (by with_reducible rfl) (by (with_reducible repeat first | exact List.mem_cons_self | refine List.mem_cons_of_mem _ ?_ | assumption | exact mem_mid' | exact mem_mid (by assumption))) ?_
        refine mth_list (by (with_reducible repeat first | exact List.mem_cons_self | refine List.mem_cons_of_mem _ ?_ | assumption | exact mem_mid' | exact mem_mid (by assumption))) PySem.F.slot_list_append PySem.F.type_list_append ?_
        refine SEs_cons ?_
        refine SE_TupleF ?_
        refine SEs_cons ?_
        refine SE_IfExp ?_
        refine ST_Compare ?_
        refine SE_Name ?_ (by decide +kernel)
        refine SN_loc rfl rfl (by (with_reducible repeat first | exact List.mem_cons_self | refine List.mem_cons_of_mem _ ?_ | assumption | exact mem_mid' | exact mem_mid (by assumption))) (by with_reducible rfl) (by (with_reducible repeat first | exact List.mem_cons_self | refine List.mem_cons_of_mem _ ?_ | assumption | exact mem_mid' | exact mem_mid (by assumption))) ?_
        refine SE_int ?_
        with_reducible refine cmp_eqI ?_
        with_reducible refine tr_bool ?_
        simp only [hj0]
        refine ite_dec (fun h1 => ?_) (fun h1 => ?_)
        · refine SE_Name ?_ (by decide +kernel)
          refine SN_loc rfl rfl (by (with_reducible repeat first | exact List.mem_cons_self | refine List.mem_cons_of_mem _ ?_ | assumption | exact mem_mid' | exact mem_mid (by assumption))) (by with_reducible rfl) (by (with_reducible repeat first | exact List.mem_cons_self | refine List.mem_cons_of_mem _ ?_ | assumption | exact mem_mid' | exact mem_mid (by assumption))) ?_
          refine SEs_cons ?_
          refine SE_Name ?_ (by decide +kernel)
          refine SN_loc rfl rfl (by (with_reducible repeat first | exact List.mem_cons_self | refine List.mem_cons_of_mem _ ?_ | assumption | exact mem_mid' | exact mem_mid (by assumption))) (by with_reducible rfl) (by (with_reducible repeat first | exact List.mem_cons_self | refine List.mem_cons_of_mem _ ?_ | assumption | exact mem_mid' | exact mem_mid (by assumption))) ?_
          refine SEs_nil ?_
          with_reducible refine ⟨_, by with_reducible ((first | exact AllDat.map _ | repeat first | exact AllDat.nil | with_reducible apply AllDat.cons)), by ((rw [sizeLine_eq]; simp)), ?_⟩
          refine SEs_nil ?_
          with_reducible refine ⟨kp_builtin, ?_⟩
          refine call_append (by (with_reducible repeat first | exact Upd.here | exact Upd.mid | apply Upd.there)) (by ((rw [sizeLine_eq]; (try simp only [List.length_append, List.length_cons, List.length_nil, List.length_map]); (first | decide | exact Nat.le_trans (by assumption) (by decide) | lia | omega)))) ?_
          refine SXs_nil ?_
          rw [hnext _ (by unfold pcsAt; rw [if_pos h1, hp])]
          exact ⟨_, by (with_reducible repeat first | exact Wk.refl | exact Wk.nil | refine Wk.keep ObW.refl ?_ | refine Wk.keep (ObW.ns (by (with_reducible repeat first | exact List.Sublist.refl _ | exact List.nil_sublist _ | apply List.Sublist.cons_cons | apply List.Sublist.cons))) ?_ | apply Wk.drop), j + 1, by (first | decide | exact Nat.le_trans (by assumption) (by decide) | lia | omega), by rw [show cnt - (j + 1) = m by (first | decide | exact Nat.le_trans (by assumption) (by decide) | lia | omega)], rfl⟩
        · refine SE_strL (by (first | exact l01_0 | exact l01_1 | exact l01_2 | exact l01_3 | exact l01_4 | exact l01_5 | exact l01_6 | exact l01_7 | exact l01_8 | exact l01_9)) ?_
          refine SEs_cons ?_
          refine SE_Name ?_ (by decide +kernel)
          refine SN_loc rfl rfl (by (with_reducible repeat first | exact List.mem_cons_self | refine List.mem_cons_of_mem _ ?_ | assumption | exact mem_mid' | exact mem_mid (by assumption))) (by with_reducible rfl) (by (with_reducible repeat first | exact List.mem_cons_self | refine List.mem_cons_of_mem _ ?_ | assumption | exact mem_mid' | exact mem_mid (by assumption))) ?_
          refine SEs_nil ?_
          with_reducible refine ⟨_, by with_reducible ((first | exact AllDat.map _ | repeat first | exact AllDat.nil | with_reducible apply AllDat.cons)), by ((rw [sizeLine_eq]; simp)), ?_⟩
          refine SEs_nil ?_
          with_reducible refine ⟨kp_builtin, ?_⟩
          refine call_append (by (with_reducible repeat first | exact Upd.here | exact Upd.mid | apply Upd.there)) (by ((rw [sizeLine_eq]; (try simp only [List.length_append, List.length_cons, List.length_nil, List.length_map]); (first | decide | exact Nat.le_trans (by assumption) (by decide) | lia | omega)))) ?_
          refine SXs_nil ?_
          rw [hnext _ (by unfold pcsAt; rw [if_neg h1, hp])]
          exact ⟨_, by (with_reducible repeat first | exact Wk.refl | exact Wk.nil | refine Wk.keep ObW.refl ?_ | refine Wk.keep (ObW.ns (by (with_reducible repeat first | exact List.Sublist.refl _ | exact List.nil_sublist _ | apply List.Sublist.cons_cons | apply List.Sublist.cons))) ?_ | apply Wk.drop), j + 1, by (first | decide | exact Nat.le_trans (by assumption) (by decide) | lia | omega), by rw [show cnt - (j + 1) = m by (first | decide | exact Nat.le_trans (by assumption) (by decide) | lia | omega)], rfl⟩
    · rintro o ⟨j, hj, hl, rfl⟩
      have hjc : j = cnt := by
        by_cases h : cnt - j = 0
        · (first | decide | exact Nat.le_trans (by assumption) (by decide) | lia | omega)
        · exfalso
          obtain ⟨m, hm2⟩ : ∃ m, cnt - j = m + 1 := ⟨cnt - j - 1, by (first | decide | exact Nat.le_trans (by assumption) (by decide) | lia | omega)⟩
          rw [hm2, List.range'_succ] at hl; cases hl
      subst hjc
      refine SXs_cons ?_
      refine SX_Return ?_
      refine SE_Name ?_ (by decide +kernel)
      refine SN_loc rfl rfl (by (with_reducible repeat first | exact List.mem_cons_self | refine List.mem_cons_of_mem _ ?_ | assumption | exact mem_mid' | exact mem_mid (by assumption))) (by with_reducible rfl) (by (with_reducible repeat first | exact List.mem_cons_self | refine List.mem_cons_of_mem _ ?_ | assumption | exact mem_mid' | exact mem_mid (by assumption))) ?_
      exact ⟨_, by (with_reducible repeat first | exact Wk.refl | exact Wk.nil | refine Wk.keep ObW.refl ?_ | refine Wk.keep (ObW.ns (by (with_reducible repeat first | exact List.Sublist.refl _ | exact List.nil_sublist _ | apply List.Sublist.cons_cons | apply List.Sublist.cons))) ?_ | apply Wk.drop), D, rfl, rfl⟩
/-! ### what is due of a row -/
noncomputable abbrev lineD (nO : Option Nat) (mark signs : List Nat) : PyData := .list [numD nO, .str (S mark), .str (S signs)]
noncomputable def dueL (flag : PyData) (l r : Option Nat × List Nat × List Nat) (col : Nat) : List PyData :=
  zipT flag (sideP l.1 l.2.1 l.2.2 (if isNoneD flag then 9 else col)) (sideP r.1 r.2.1 r.2.2 (if isNoneD flag then 9 else col))
theorem zip_pad (flag : PyData) : ∀ (a b : List PyData), zipT flag a b = (List.range (max a.length b.length)).map fun k => .tuple [(a ++ List.replicate (max a.length b.length - a.length) padD).getD k .none, (b ++ List.replicate (max a.length b.length - b.length) padD).getD k .none, flag]
  | [], [] => by rw [zT0]; rfl
  | a :: r, [] => by
    rw [zT1, zip_pad flag r []]
    simp only [List.length_cons, List.length_nil, Nat.max_zero, Nat.sub_self, List.replicate_zero, List.append_nil, Nat.sub_zero, List.nil_append]
    rw [List.range_succ_eq_map, List.map_cons, List.map_map, List.replicate_succ]
    rfl
  | [], b :: r => by
    rw [zT2, zip_pad flag [] r]
    simp only [List.length_cons, List.length_nil, Nat.zero_max, Nat.sub_self, List.replicate_zero, List.append_nil, Nat.sub_zero, List.nil_append]
    rw [List.range_succ_eq_map, List.map_cons, List.map_map, List.replicate_succ]
    rfl
  | a :: r, b :: r' => by
    rw [zT3, zip_pad flag r r']
    (first | dsimp only [List.length_cons] | simp only [List.length_cons])
    rw [show max (r.length + 1) (r'.length + 1) = max r.length r'.length + 1 by (first | decide | exact Nat.le_trans (by assumption) (by decide) | lia | omega), List.range_succ_eq_map, List.map_cons, List.map_map]
    rw [show max r.length r'.length + 1 - (r.length + 1) = max r.length r'.length - r.length by (first | decide | exact Nat.le_trans (by assumption) (by decide) | lia | omega), show max r.length r'.length + 1 - (r'.length + 1) = max r.length r'.length - r'.length by (first | decide | exact Nat.le_trans (by assumption) (by decide) | lia | omega)]
    rfl
theorem side_len {nO : Option Nat} {mark signs : List Nat} {col : Nat} (hs : signs.length ≤ 10) : 1 ≤ (sideP nO mark signs col).length ∧ (sideP nO mark signs col).length ≤ 11 := by
  cases nO with
  | none => exact ⟨by simp [sideP], by simp [sideP]⟩
  | some i =>
    unfold sideP pcs
    rw [List.length_map, List.length_range]
    have := Nat.div_le_self (max signs.length 1 - 1) col
    generalize (max signs.length 1 - 1) / col = q at this ⊢
    (first | decide | exact Nat.le_trans (by assumption) (by decide) | lia | omega)
theorem rep_flat (n : Nat) (d : PyData) : (List.replicate n [d]).flatten = List.replicate n d := by
  induction n with
  | zero => rfl
  | succ n ih => rw [List.replicate_succ, List.flatten_cons, ih]; rfl

theorem c_due (hK : K01 W) (hh : A.handled = none) (hd : A.depth + 1 < recursionLimit) (hu : A.units + 200 < cLine) (l r : Option Nat × List Nat × List Nat) (flag : PyData) (hm1 : l.2.1.length ≤ 1) (hm2 : r.2.1.length ≤ 1) (hs1 : l.2.2.length ≤ 10) (hs2 : r.2.2.length ≤ 10) (col : Nat) (hc0 : 0 < col) (hc9 : col ≤ 9) :
    SLC W A (.ref 129) [.tup [lineD l.1 l.2.1 l.2.2, lineD r.1 r.2.1 r.2.2, flag], .int col] own (fun v o => ∃ D, v = .ref D ∧ o = (D, .list ((dueL flag l r col).map V.dat)) :: own) := by
  refine' do_callE [Str.ofString "row", Str.ofString "column"] [(Str.ofString "row", .tup [lineD l.1 l.2.1 l.2.2, lineD r.1 r.2.1 r.2.2, flag]), (Str.ofString "column", .int col)] [(Str.ofString "others", 3, none), (Str.ofString "ones", 2, none), (Str.ofString "flag", 1, none)] ?ho ?hcd (by omega) ?hb ?hcl ?ndc ?hkind ?hbind ?hh6 ?c1 ?c2 ?c3
  case ho => exact K_of hK rfl
  case hcd => rw [hK]; rfl
  case hb => intro s vs _ hl; obtain ⟨_, _, rfl⟩ := len_2 hl; exact BindsTo.of_eq rfl
  case hcl => intro L; rfl
  case ndc => (first | dsimp only [List.map_cons, List.map_nil] | simp only [List.map_cons, List.map_nil]); decide +kernel
  case hkind => (first | dsimp only [List.map_cons, List.map_nil] | simp only [List.map_cons, List.map_nil]); decide +kernel
  case hbind =>
    intro fz vs L r
    cases r with | cons r1 r => cases r with | cons r2 r => cases r; exact ⟨⟨⟨_, rfl, r1⟩, ⟨_, rfl, r2⟩, trivial⟩, rfl, rfl, rfl, trivial⟩
  case c1 => rfl
  case c2 => rfl
  case c3 => rfl
  intro L
  dsimp only [lawS, nthS, fdB, fdS, clB, PySem.Challenge.pw_dm0066_01]
  (first | dsimp only [List.map_cons, List.map_nil, List.cons_append, List.nil_append] | simp only [List.map_cons, List.map_nil, List.cons_append, List.nil_append])
  refine @deeper_gen W A _ _ _ _ _ hh ?_
  intro A' hh' hd' hu'
  refine SXs_splitAt 2 ?_
  simp only [List.take_succ_cons, List.take_zero, List.drop_succ_cons, List.drop_zero]
  generalize hcc : (if isNoneD flag then 9 else col) = c
  have hc : 0 < c ∧ c ≤ 9 := by rw [← hcc]; split <;> (first | decide | exact Nat.le_trans (by assumption) (by decide) | lia | omega)
  refine SG.mono (Q := fun fl o => fl = Fl.next ∧ Wk o ((L, Ob.ns [(Str.ofString "column", .int c), (Str.ofString "left", .dat (lineD l.1 l.2.1 l.2.2)), (Str.ofString "right", .dat (lineD r.1 r.2.1 r.2.2))]) :: (L + 3, Ob.cell none) :: (L + 2, Ob.cell none) :: (L + 1, Ob.cell (some (.dat flag))) :: own)) ?_ ?_
  · refine SXs_cons (SX_AssignT ?_)
    refine SE_Name ?_ (by decide +kernel)
    refine SN_loc rfl rfl (by (with_reducible repeat first | exact List.mem_cons_self | refine List.mem_cons_of_mem _ ?_ | assumption | exact mem_mid' | exact mem_mid (by assumption))) (by with_reducible rfl) (by (with_reducible repeat first | exact List.mem_cons_self | refine List.mem_cons_of_mem _ ?_ | assumption | exact mem_mid' | exact mem_mid (by assumption))) ?_
    refine SA_Tuple (by assumption) rfl ?_
    refine SAs_cons ?_
    refine SA_Name ?_
    refine SS_loc rfl rfl (by (with_reducible repeat first | exact List.mem_cons_self | refine List.mem_cons_of_mem _ ?_ | assumption | exact mem_mid' | exact mem_mid (by assumption))) (by with_reducible rfl) (by (with_reducible repeat first | exact Put.here | exact Put.new | apply Put.there)) (by (((first | dsimp only [List.map_cons, List.map_nil] | simp only [List.map_cons, List.map_nil]); decide +kernel))) (by (with_reducible repeat first | exact Upd.here | exact Upd.mid | apply Upd.there)) ?_
    refine SAs_cons ?_
    refine SA_Name ?_
    refine SS_loc rfl rfl (by (with_reducible repeat first | exact List.mem_cons_self | refine List.mem_cons_of_mem _ ?_ | assumption | exact mem_mid' | exact mem_mid (by assumption))) (by with_reducible rfl) (by (with_reducible repeat first | exact Put.here | exact Put.new | apply Put.there)) (by (((first | dsimp only [List.map_cons, List.map_nil] | simp only [List.map_cons, List.map_nil]); decide +kernel))) (by (with_reducible repeat first | exact Upd.here | exact Upd.mid | apply Upd.there)) ?_
    refine SAs_cons ?_
    refine SA_Name ?_
    refine SS_cell rfl rfl rfl (by (with_reducible repeat first | exact Upd.here | exact Upd.mid | apply Upd.there)) ?_
    refine SAs_nil ?_
    refine SXs_cons ?_
    refine SX_If ?_
    refine ST_Compare ?_
    refine SE_Name ?_ (by decide +kernel)
    refine SN_cell rfl rfl rfl (by (with_reducible repeat first | exact List.mem_cons_self | refine List.mem_cons_of_mem _ ?_ | assumption | exact mem_mid' | exact mem_mid (by assumption))) ?_
    refine SE_none ?_
    with_reducible refine cmp_isNone ?_
    with_reducible refine tr_bool ?_
    refine ite_bool (fun h1 => ?_) (fun h1 => ?_)
    · rw [h1] at hcc
      refine SXs_cons ?_
      refine SX_Assign ?_
      refine SE_int ?_
      refine SS_loc rfl rfl (by (with_reducible repeat first | exact List.mem_cons_self | refine List.mem_cons_of_mem _ ?_ | assumption | exact mem_mid' | exact mem_mid (by assumption))) (by with_reducible rfl) (by (with_reducible repeat first | exact Put.here | exact Put.new | apply Put.there)) (by (((first | dsimp only [List.map_cons, List.map_nil] | simp only [List.map_cons, List.map_nil]); decide +kernel))) (by (with_reducible repeat first | exact Upd.here | exact Upd.mid | apply Upd.there)) ?_
      refine SXs_nil ?_
      refine SXs_nil ?_
      rw [show (9 : Int) = ((c : Nat) : Int) by rw [← hcc]; rfl]
      exact ⟨rfl, by (with_reducible repeat first | exact Wk.refl | exact Wk.nil | refine Wk.keep ObW.refl ?_ | refine Wk.keep (ObW.ns (by (with_reducible repeat first | exact List.Sublist.refl _ | exact List.nil_sublist _ | apply List.Sublist.cons_cons | apply List.Sublist.cons))) ?_ | apply Wk.drop)⟩
    · rw [h1] at hcc
      refine SXs_nil ?_
      refine SXs_nil ?_
      rw [show (col : Int) = ((c : Nat) : Int) by rw [← hcc]; rfl]
      exact ⟨rfl, by (with_reducible repeat first | exact Wk.refl | exact Wk.nil | refine Wk.keep ObW.refl ?_ | refine Wk.keep (ObW.ns (by (with_reducible repeat first | exact List.Sublist.refl _ | exact List.nil_sublist _ | apply List.Sublist.cons_cons | apply List.Sublist.cons))) ?_ | apply Wk.drop)⟩
  rintro fl o ⟨rfl, wk⟩
  refine SG.wk wk ?_
  clear wk
  have hl1 := side_len (nO := l.1) (mark := l.2.1) (col := c) hs1
  have hl2 := side_len (nO := r.1) (mark := r.2.1) (col := c) hs2
  refine SXs_cons ?_
  refine SX_Assign ?_
  refine SE_Call ?_
  refine SE_Name ?_ (by decide +kernel)
  refine SN_global rfl rfl rfl (nsIn_of (by assumption) rfl) ?_
  with_reducible refine ⟨_, rfl, ?_⟩
  refine SEs_cons ?_
  refine SE_Name ?_ (by decide +kernel)
  refine SN_loc rfl rfl (by (with_reducible repeat first | exact List.mem_cons_self | refine List.mem_cons_of_mem _ ?_ | assumption | exact mem_mid' | exact mem_mid (by assumption))) (by with_reducible rfl) (by (with_reducible repeat first | exact List.mem_cons_self | refine List.mem_cons_of_mem _ ?_ | assumption | exact mem_mid' | exact mem_mid (by assumption))) ?_
  refine SEs_cons ?_
  refine SE_Name ?_ (by decide +kernel)
  refine SN_loc rfl rfl (by (with_reducible repeat first | exact List.mem_cons_self | refine List.mem_cons_of_mem _ ?_ | assumption | exact mem_mid' | exact mem_mid (by assumption))) (by with_reducible rfl) (by (with_reducible repeat first | exact List.mem_cons_self | refine List.mem_cons_of_mem _ ?_ | assumption | exact mem_mid' | exact mem_mid (by assumption))) ?_
  refine SEs_nil ?_
  refine ⟨kp_K (by rw [hK]; rfl), SLC.call ((c_pieces hK hh' (by (first | decide | exact Nat.le_trans (by assumption) (by decide) | lia | omega)) (by (first | decide | exact Nat.le_trans (by assumption) (by decide) | lia | omega)) l.1 l.2.1 l.2.2 hm1 hs1 c hc.1 hc.2).mono ?_)⟩
  rintro v o ⟨D1, rfl, rfl⟩
  refine SS_cell rfl rfl rfl (by (with_reducible repeat first | exact Upd.here | exact Upd.mid | apply Upd.there)) ?_
  refine SXs_cons ?_
  refine SX_Assign ?_
  refine SE_Call ?_
  refine SE_Name ?_ (by decide +kernel)
  refine SN_global rfl rfl rfl (nsIn_of (by assumption) rfl) ?_
  with_reducible refine ⟨_, rfl, ?_⟩
  refine SEs_cons ?_
  refine SE_Name ?_ (by decide +kernel)
  refine SN_loc rfl rfl (by (with_reducible repeat first | exact List.mem_cons_self | refine List.mem_cons_of_mem _ ?_ | assumption | exact mem_mid' | exact mem_mid (by assumption))) (by with_reducible rfl) (by (with_reducible repeat first | exact List.mem_cons_self | refine List.mem_cons_of_mem _ ?_ | assumption | exact mem_mid' | exact mem_mid (by assumption))) ?_
  refine SEs_cons ?_
  refine SE_Name ?_ (by decide +kernel)
  refine SN_loc rfl rfl (by (with_reducible repeat first | exact List.mem_cons_self | refine List.mem_cons_of_mem _ ?_ | assumption | exact mem_mid' | exact mem_mid (by assumption))) (by with_reducible rfl) (by (with_reducible repeat first | exact List.mem_cons_self | refine List.mem_cons_of_mem _ ?_ | assumption | exact mem_mid' | exact mem_mid (by assumption))) ?_
  refine SEs_nil ?_
  refine ⟨kp_K (by rw [hK]; rfl), SLC.call ((c_pieces hK hh' (by (first | decide | exact Nat.le_trans (by assumption) (by decide) | lia | omega)) (by (first | decide | exact Nat.le_trans (by assumption) (by decide) | lia | omega)) r.1 r.2.1 r.2.2 hm2 hs2 c hc.1 hc.2).mono ?_)⟩
  rintro v o ⟨D2, rfl, rfl⟩
  have hdue : dueL flag l r col = zipT flag (sideP l.1 l.2.1 l.2.2 c) (sideP r.1 r.2.1 r.2.2 c) := by unfold dueL; rw [hcc]
  rw [hdue]
  clear hdue
  generalize sideP l.1 l.2.1 l.2.2 c = pa at hl1 ⊢
  generalize sideP r.1 r.2.1 r.2.2 c = pb at hl2 ⊢
  refine SS_cell rfl rfl rfl (by (with_reducible repeat first | exact Upd.here | exact Upd.mid | apply Upd.there)) ?_
  refine SXs_cons ?_
  refine SX_Assign ?_
  refine SE_Call ?_
  refine SE_Name ?_ (by decide +kernel)
  refine SN_builtin rfl rfl rfl rfl (nsIn_of (by assumption) rfl) rfl (by decide +kernel) ?_
  with_reducible refine ⟨_, rfl, ?_⟩
  refine SEs_cons ?_
  refine SE_Call ?_
  refine SE_Name ?_ (by decide +kernel)
  refine SN_builtin rfl rfl rfl rfl (nsIn_of (by assumption) rfl) rfl (by decide +kernel) ?_
  with_reducible refine ⟨_, rfl, ?_⟩
  refine SEs_cons ?_
  refine SE_Name ?_ (by decide +kernel)
  refine SN_cell rfl rfl rfl (by (with_reducible repeat first | exact List.mem_cons_self | refine List.mem_cons_of_mem _ ?_ | assumption | exact mem_mid' | exact mem_mid (by assumption))) ?_
  refine SEs_nil ?_
  with_reducible refine ⟨kp_builtin, ?_⟩
  refine call_len_own (by (with_reducible repeat first | exact List.mem_cons_self | refine List.mem_cons_of_mem _ ?_ | assumption | exact mem_mid' | exact mem_mid (by assumption))) (by ((rw [sizeLine_eq]; (try simp only [List.length_append, List.length_cons, List.length_nil, List.length_map]); (first | decide | exact Nat.le_trans (by assumption) (by decide) | lia | omega)))) ?_
  refine SEs_cons ?_
  refine SE_Call ?_
  refine SE_Name ?_ (by decide +kernel)
  refine SN_builtin rfl rfl rfl rfl (nsIn_of (by assumption) rfl) rfl (by decide +kernel) ?_
  with_reducible refine ⟨_, rfl, ?_⟩
  refine SEs_cons ?_
  refine SE_Name ?_ (by decide +kernel)
  refine SN_cell rfl rfl rfl (by (with_reducible repeat first | exact List.mem_cons_self | refine List.mem_cons_of_mem _ ?_ | assumption | exact mem_mid' | exact mem_mid (by assumption))) ?_
  refine SEs_nil ?_
  with_reducible refine ⟨kp_builtin, ?_⟩
  refine call_len_own (by (with_reducible repeat first | exact List.mem_cons_self | refine List.mem_cons_of_mem _ ?_ | assumption | exact mem_mid' | exact mem_mid (by assumption))) (by ((rw [sizeLine_eq]; (try simp only [List.length_append, List.length_cons, List.length_nil, List.length_map]); (first | decide | exact Nat.le_trans (by assumption) (by decide) | lia | omega)))) ?_
  refine SEs_nil ?_
  with_reducible refine ⟨kp_builtin, ?_⟩
  refine call_max2 hh' ?_
  simp only [List.length_map]
  have hmx : max ((pa.length : Nat) : Int) ((pb.length : Nat) : Int) = ((max pa.length pb.length : Nat) : Int) := by (first | decide | exact Nat.le_trans (by assumption) (by decide) | lia | omega)
  rw [hmx]
  refine SS_loc rfl rfl (by (with_reducible repeat first | exact List.mem_cons_self | refine List.mem_cons_of_mem _ ?_ | assumption | exact mem_mid' | exact mem_mid (by assumption))) (by with_reducible rfl) (by (with_reducible repeat first | exact Put.here | exact Put.new | apply Put.there)) (by (((first | dsimp only [List.map_cons, List.map_nil] | simp only [List.map_cons, List.map_nil]); decide +kernel))) (by (with_reducible repeat first | exact Upd.here | exact Upd.mid | apply Upd.there)) ?_
  refine SXs_cons ?_
  refine SX_Aug ?_
  refine SN_cell rfl rfl rfl (by (with_reducible repeat first | exact List.mem_cons_self | refine List.mem_cons_of_mem _ ?_ | assumption | exact mem_mid' | exact mem_mid (by assumption))) ?_
  refine SE_BinOp ?_
  refine SE_ListF ?_
  refine SEs_cons ?_
  refine SE_TupleF ?_
  refine SEs_cons ?_
  refine SE_strL (by (first | exact l01_0 | exact l01_1 | exact l01_2 | exact l01_3 | exact l01_4 | exact l01_5 | exact l01_6 | exact l01_7 | exact l01_8 | exact l01_9)) ?_
  refine SEs_cons ?_
  refine SE_strL (by (first | exact l01_0 | exact l01_1 | exact l01_2 | exact l01_3 | exact l01_4 | exact l01_5 | exact l01_6 | exact l01_7 | exact l01_8 | exact l01_9)) ?_
  refine SEs_nil ?_
  with_reducible refine ⟨_, by with_reducible ((first | exact AllDat.map _ | repeat first | exact AllDat.nil | with_reducible apply AllDat.cons)), by ((rw [sizeLine_eq]; simp)), ?_⟩
  refine SEs_nil ?_
  with_reducible refine ⟨_, by with_reducible ((first | exact AllDat.map _ | repeat first | exact AllDat.nil | with_reducible apply AllDat.cons)), by ((rw [sizeLine_eq]; simp)), ?_⟩
  refine SE_BinOp ?_
  refine SE_Name ?_ (by decide +kernel)
  refine SN_loc rfl rfl (by (with_reducible repeat first | exact List.mem_cons_self | refine List.mem_cons_of_mem _ ?_ | assumption | exact mem_mid' | exact mem_mid (by assumption))) (by with_reducible rfl) (by (with_reducible repeat first | exact List.mem_cons_self | refine List.mem_cons_of_mem _ ?_ | assumption | exact mem_mid' | exact mem_mid (by assumption))) ?_
  refine SE_Call ?_
  refine SE_Name ?_ (by decide +kernel)
  refine SN_builtin rfl rfl rfl rfl (nsIn_of (by assumption) rfl) rfl (by decide +kernel) ?_
  with_reducible refine ⟨_, rfl, ?_⟩
  refine SEs_cons ?_
  refine SE_Name ?_ (by decide +kernel)
  refine SN_cell rfl rfl rfl (by (with_reducible repeat first | exact List.mem_cons_self | refine List.mem_cons_of_mem _ ?_ | assumption | exact mem_mid' | exact mem_mid (by assumption))) ?_
  refine SEs_nil ?_
  with_reducible refine ⟨kp_builtin, ?_⟩
  refine call_len_own (by (with_reducible repeat first | exact List.mem_cons_self | refine List.mem_cons_of_mem _ ?_ | assumption | exact mem_mid' | exact mem_mid (by assumption))) (by ((rw [sizeLine_eq]; (try simp only [List.length_append, List.length_cons, List.length_nil, List.length_map]); (first | decide | exact Nat.le_trans (by assumption) (by decide) | lia | omega)))) ?_
  with_reducible refine op_sub ?_
  simp only [List.length_map]
  refine op_mulLO (by (first | decide | exact Nat.le_trans (by assumption) (by decide) | lia | omega)) (by (first | decide | exact Nat.le_trans (by assumption) (by decide) | lia | omega)) (by (first | dsimp only [List.length_cons, List.length_nil] | simp only [List.length_cons, List.length_nil]); (first | decide | exact Nat.le_trans (by assumption) (by decide) | lia | omega)) fun E1 => ?_
  rw [rep_flat, show (((max pa.length pb.length : Nat) : Int) - ((pa.length : Nat) : Int)).toNat = max pa.length pb.length - pa.length by (first | decide | exact Nat.le_trans (by assumption) (by decide) | lia | omega)]
  refine op_iaddO (by (with_reducible repeat first | exact List.mem_cons_self | refine List.mem_cons_of_mem _ ?_ | assumption | exact mem_mid' | exact mem_mid (by assumption))) (by (with_reducible repeat first | exact Upd.here | exact Upd.mid | apply Upd.there)) (by rw [sizeLine_eq]; simp only [List.length_map, List.length_replicate]; (first | decide | exact Nat.le_trans (by assumption) (by decide) | lia | omega)) ?_
  refine SS_cell rfl rfl rfl (by (with_reducible repeat first | exact Upd.here | exact Upd.mid | apply Upd.there)) ?_
  refine SXs_cons ?_
  refine SX_Aug ?_
  refine SN_cell rfl rfl rfl (by (with_reducible repeat first | exact List.mem_cons_self | refine List.mem_cons_of_mem _ ?_ | assumption | exact mem_mid' | exact mem_mid (by assumption))) ?_
  refine SE_BinOp ?_
  refine SE_ListF ?_
  refine SEs_cons ?_
  refine SE_TupleF ?_
  refine SEs_cons ?_
  refine SE_strL (by (first | exact l01_0 | exact l01_1 | exact l01_2 | exact l01_3 | exact l01_4 | exact l01_5 | exact l01_6 | exact l01_7 | exact l01_8 | exact l01_9)) ?_
  refine SEs_cons ?_
  refine SE_strL (by (first | exact l01_0 | exact l01_1 | exact l01_2 | exact l01_3 | exact l01_4 | exact l01_5 | exact l01_6 | exact l01_7 | exact l01_8 | exact l01_9)) ?_
  refine SEs_nil ?_
  with_reducible refine ⟨_, by with_reducible ((first | exact AllDat.map _ | repeat first | exact AllDat.nil | with_reducible apply AllDat.cons)), by ((rw [sizeLine_eq]; simp)), ?_⟩
  refine SEs_nil ?_
  with_reducible refine ⟨_, by with_reducible ((first | exact AllDat.map _ | repeat first | exact AllDat.nil | with_reducible apply AllDat.cons)), by ((rw [sizeLine_eq]; simp)), ?_⟩
  refine SE_BinOp ?_
  refine SE_Name ?_ (by decide +kernel)
  refine SN_loc rfl rfl (by (with_reducible repeat first | exact List.mem_cons_self | refine List.mem_cons_of_mem _ ?_ | assumption | exact mem_mid' | exact mem_mid (by assumption))) (by with_reducible rfl) (by (with_reducible repeat first | exact List.mem_cons_self | refine List.mem_cons_of_mem _ ?_ | assumption | exact mem_mid' | exact mem_mid (by assumption))) ?_
  refine SE_Call ?_
  refine SE_Name ?_ (by decide +kernel)
  refine SN_builtin rfl rfl rfl rfl (nsIn_of (by assumption) rfl) rfl (by decide +kernel) ?_
  with_reducible refine ⟨_, rfl, ?_⟩
  refine SEs_cons ?_
  refine SE_Name ?_ (by decide +kernel)
  refine SN_cell rfl rfl rfl (by (with_reducible repeat first | exact List.mem_cons_self | refine List.mem_cons_of_mem _ ?_ | assumption | exact mem_mid' | exact mem_mid (by assumption))) ?_
  refine SEs_nil ?_
  with_reducible refine ⟨kp_builtin, ?_⟩
  refine call_len_own (by (with_reducible repeat first | exact List.mem_cons_self | refine List.mem_cons_of_mem _ ?_ | assumption | exact mem_mid' | exact mem_mid (by assumption))) (by ((rw [sizeLine_eq]; (try simp only [List.length_append, List.length_cons, List.length_nil, List.length_map]); (first | decide | exact Nat.le_trans (by assumption) (by decide) | lia | omega)))) ?_
  with_reducible refine op_sub ?_
  simp only [List.length_map]
  refine op_mulLO (by (first | decide | exact Nat.le_trans (by assumption) (by decide) | lia | omega)) (by (first | decide | exact Nat.le_trans (by assumption) (by decide) | lia | omega)) (by (first | dsimp only [List.length_cons, List.length_nil] | simp only [List.length_cons, List.length_nil]); (first | decide | exact Nat.le_trans (by assumption) (by decide) | lia | omega)) fun E2 => ?_
  rw [rep_flat, show (((max pa.length pb.length : Nat) : Int) - ((pb.length : Nat) : Int)).toNat = max pa.length pb.length - pb.length by (first | decide | exact Nat.le_trans (by assumption) (by decide) | lia | omega)]
  refine op_iaddO (by (with_reducible repeat first | exact List.mem_cons_self | refine List.mem_cons_of_mem _ ?_ | assumption | exact mem_mid' | exact mem_mid (by assumption))) (by (with_reducible repeat first | exact Upd.here | exact Upd.mid | apply Upd.there)) (by rw [sizeLine_eq]; simp only [List.length_map, List.length_replicate]; (first | decide | exact Nat.le_trans (by assumption) (by decide) | lia | omega)) ?_
  refine SS_cell rfl rfl rfl (by (with_reducible repeat first | exact Upd.here | exact Upd.mid | apply Upd.there)) ?_
  refine SXs_cons ?_
  refine SX_Return ?_
  rw [← List.map_append, ← List.map_append]
  refine SG_frz (D := D1) (ds := pa ++ List.replicate (max pa.length pb.length - pa.length) padD) (by (with_reducible repeat first | exact Take.here | apply Take.there)) (AllDat.map _) (by (with_reducible repeat first | exact NF.nil | apply NF.cons VF.at_ | apply NF.cons VF.same | apply OF.ns | apply OF.cell VF.at_ | apply OF.cell VF.same | apply OF.list | exact LF.nil | apply LF.cons VF.at_ | apply LF.cons VF.same | exact LF.refl | apply OF.same | exact OF.refl)) ?_
  refine SG_frz (D := D2) (ds := pb ++ List.replicate (max pa.length pb.length - pb.length) padD) (by (with_reducible repeat first | exact Take.here | apply Take.there)) (AllDat.map _) (by (with_reducible repeat first | exact NF.nil | apply NF.cons VF.at_ | apply NF.cons VF.same | apply OF.ns | apply OF.cell VF.at_ | apply OF.cell VF.same | apply OF.list | exact LF.nil | apply LF.cons VF.at_ | apply LF.cons VF.same | exact LF.refl | apply OF.same | exact OF.refl)) ?_
  rw [zip_pad]
  have hxl : (pa ++ List.replicate (max pa.length pb.length - pa.length) padD).length = max pa.length pb.length := by rw [List.length_append, List.length_replicate]; (first | decide | exact Nat.le_trans (by assumption) (by decide) | lia | omega)
  have hyl : (pb ++ List.replicate (max pa.length pb.length - pb.length) padD).length = max pa.length pb.length := by rw [List.length_append, List.length_replicate]; (first | decide | exact Nat.le_trans (by assumption) (by decide) | lia | omega)
  have hm11 : max pa.length pb.length ≤ 11 := by (first | decide | exact Nat.le_trans (by assumption) (by decide) | lia | omega)
  generalize pa ++ List.replicate (max pa.length pb.length - pa.length) padD = xs at hxl ⊢
  generalize pb ++ List.replicate (max pa.length pb.length - pb.length) padD = zs at hyl ⊢
  generalize max pa.length pb.length = n at hxl hyl hm11 ⊢
  refine SE_CompMapO (α := Nat) hh' rfl (by decide +kernel) rfl (by decide +kernel) ?_
  refine SE_Call ?_
  refine SE_Name ?_ (by decide +kernel)
  refine SN_builtin rfl rfl rfl rfl (nsIn_of (by assumption) rfl) rfl (by decide +kernel) ?_
  with_reducible refine ⟨_, rfl, ?_⟩
  refine SEs_cons ?_
  refine SE_Name ?_ (by decide +kernel)
  refine SN_loc rfl rfl (by (with_reducible repeat first | exact List.mem_cons_self | refine List.mem_cons_of_mem _ ?_ | assumption | exact mem_mid' | exact mem_mid (by assumption))) (by with_reducible rfl) (by (with_reducible repeat first | exact List.mem_cons_self | refine List.mem_cons_of_mem _ ?_ | assumption | exact mem_mid' | exact mem_mid (by assumption))) ?_
  refine SEs_nil ?_
  with_reducible refine ⟨kp_type, ?_⟩
  refine call_range1 ?_
  have hrs : Builtin.Range.rangeSize 0 (n : Int) 1 = (n : Int) := by
    unfold Builtin.Range.rangeSize
    rw [if_pos (by (first | decide | exact Nat.le_trans (by assumption) (by decide) | lia | omega))]
    by_cases h0 : (0 : Int) < n
    · rw [if_pos h0]; (first | decide | exact Nat.le_trans (by assumption) (by decide) | lia | omega)
    · rw [if_neg h0]; (first | decide | exact Nat.le_trans (by assumption) (by decide) | lia | omega)
  refine it_range (n := n) (small_of (by (first | decide | exact Nat.le_trans (by assumption) (by decide) | lia | omega)) (by (first | decide | exact Nat.le_trans (by assumption) (by decide) | lia | omega)) (by (first | decide | exact Nat.le_trans (by assumption) (by decide) | lia | omega)) (by (first | decide | exact Nat.le_trans (by assumption) (by decide) | lia | omega)) hrs (by (first | decide | exact Nat.le_trans (by assumption) (by decide) | lia | omega))) hrs fun it => ⟨it, _, _, rfl, rfl, fun j : Nat => V.int (0 + (j : Int) * 1), fun _ => true, fun k => .tuple [xs.getD k .none, zs.getD k .none, flag], List.range n, rfl, by rw [sizeLine_eq, List.length_range]; (first | decide | exact Nat.le_trans (by assumption) (by decide) | lia | omega), ?_, ?_⟩
  · intro C D it3 k rr ys hk
    have hkn := List.mem_range.mp hk
    rw [show (fun j : Nat => V.int (0 + (j : Int) * 1)) k = V.int ((k : Nat) : Int) by show V.int _ = _; rw [show (0 : Int) + (k : Int) * 1 = ((k : Nat) : Int) by (first | decide | exact Nat.le_trans (by assumption) (by decide) | lia | omega)]]
    have hx : xs[place (k : Int) xs.length]? = some (xs.getD k .none) := by
      unfold place; rw [if_neg (by (first | decide | exact Nat.le_trans (by assumption) (by decide) | lia | omega)), Int.toNat_natCast, List.getD_eq_getElem?_getD, List.getElem?_eq_getElem (by (first | decide | exact Nat.le_trans (by assumption) (by decide) | lia | omega))]; rfl
    have hz : zs[place (k : Int) zs.length]? = some (zs.getD k .none) := by
      unfold place; rw [if_neg (by (first | decide | exact Nat.le_trans (by assumption) (by decide) | lia | omega)), Int.toNat_natCast, List.getD_eq_getElem?_getD, List.getElem?_eq_getElem (by (first | decide | exact Nat.le_trans (by assumption) (by decide) | lia | omega))]; rfl
    refine SA_Name ?_
    refine SS_loc rfl rfl (by (with_reducible repeat first | exact List.mem_cons_self | refine List.mem_cons_of_mem _ ?_ | assumption | exact mem_mid' | exact mem_mid (by assumption))) (by with_reducible rfl) (by (with_reducible repeat first | exact Put.here | exact Put.new | apply Put.there)) (by (((first | dsimp only [List.map_cons, List.map_nil] | simp only [List.map_cons, List.map_nil]); decide +kernel))) (by (with_reducible repeat first | exact Upd.here | exact Upd.mid | apply Upd.there)) ?_
    refine STs_nil ?_
    refine ⟨rfl, ?_⟩
    rw [if_pos rfl]
    refine SE_TupleF ?_
    refine SEs_cons ?_
    refine SE_Subscript ?_
    refine SE_Name ?_ (by decide +kernel)
    refine SN_cell rfl rfl rfl (by (with_reducible repeat first | exact List.mem_cons_self | refine List.mem_cons_of_mem _ ?_ | assumption | exact mem_mid' | exact mem_mid (by assumption))) ?_
    refine SE_Name ?_ (by decide +kernel)
    refine SN_loc rfl rfl (by (with_reducible repeat first | exact List.mem_cons_self | refine List.mem_cons_of_mem _ ?_ | assumption | exact mem_mid' | exact mem_mid (by assumption))) (by with_reducible rfl) (by (with_reducible repeat first | exact List.mem_cons_self | refine List.mem_cons_of_mem _ ?_ | assumption | exact mem_mid' | exact mem_mid (by assumption))) ?_
    refine sub_lst (by (first | decide | exact Nat.le_trans (by assumption) (by decide) | lia | omega)) (by (first | decide | exact Nat.le_trans (by assumption) (by decide) | lia | omega)) (by rw [sizeLine_eq]; (first | decide | exact Nat.le_trans (by assumption) (by decide) | lia | omega)) hx ?_
    refine SEs_cons ?_
    refine SE_Subscript ?_
    refine SE_Name ?_ (by decide +kernel)
    refine SN_cell rfl rfl rfl (by (with_reducible repeat first | exact List.mem_cons_self | refine List.mem_cons_of_mem _ ?_ | assumption | exact mem_mid' | exact mem_mid (by assumption))) ?_
    refine SE_Name ?_ (by decide +kernel)
    refine SN_loc rfl rfl (by (with_reducible repeat first | exact List.mem_cons_self | refine List.mem_cons_of_mem _ ?_ | assumption | exact mem_mid' | exact mem_mid (by assumption))) (by with_reducible rfl) (by (with_reducible repeat first | exact List.mem_cons_self | refine List.mem_cons_of_mem _ ?_ | assumption | exact mem_mid' | exact mem_mid (by assumption))) ?_
    refine sub_lst (by (first | decide | exact Nat.le_trans (by assumption) (by decide) | lia | omega)) (by (first | decide | exact Nat.le_trans (by assumption) (by decide) | lia | omega)) (by rw [sizeLine_eq]; (first | decide | exact Nat.le_trans (by assumption) (by decide) | lia | omega)) hz ?_
    refine SEs_cons ?_
    refine SE_Name ?_ (by decide +kernel)
    refine SN_cell rfl rfl rfl (by (with_reducible repeat first | exact List.mem_cons_self | refine List.mem_cons_of_mem _ ?_ | assumption | exact mem_mid' | exact mem_mid (by assumption))) ?_
    refine SEs_nil ?_
    with_reducible refine ⟨_, by with_reducible ((first | exact AllDat.map _ | repeat first | exact AllDat.nil | with_reducible apply AllDat.cons)), by ((rw [sizeLine_eq]; simp)), ?_⟩
    exact ⟨rfl, by (with_reducible repeat first | exact Wk.refl | exact Wk.nil | refine Wk.keep ObW.refl ?_ | refine Wk.keep (ObW.ns (by (with_reducible repeat first | exact List.Sublist.refl _ | exact List.nil_sublist _ | apply List.Sublist.cons_cons | apply List.Sublist.cons))) ?_ | apply Wk.drop)⟩
  rw [show (List.range n).filter (fun _ => true) = List.range n from List.filter_eq_self.mpr fun _ _ => rfl]
  intro D
  exact ⟨_, by (with_reducible repeat first | exact Wk.refl | exact Wk.nil | refine Wk.keep ObW.refl ?_ | refine Wk.keep (ObW.ns (by (with_reducible repeat first | exact List.Sublist.refl _ | exact List.nil_sublist _ | apply List.Sublist.cons_cons | apply List.Sublist.cons))) ?_ | apply Wk.drop), D, rfl, rfl⟩
/-! ### the rows -/
noncomputable abbrev LineT := Option Nat × List Nat × List Nat
noncomputable def LineOk (l : LineT) : Prop := (l.2.1 = [] ∨ ∃ m, l.2.1 = [m] ∧ 2 ≤ m ∧ m < 128) ∧ l.2.2.length ≤ 5 ∧ ∀ c ∈ l.2.2, 2 ≤ c ∧ c < 200
noncomputable abbrev lineT (l : LineT) : PyData := lineD l.1 l.2.1 l.2.2
structure RowT where
  l : LineT
  r : LineT
  flag : PyData
noncomputable def FlagOk (f : PyData) : Prop := f ∈ [PyData.bool true, .bool false, .str (S []), .none, .int 0, .str (S [111, 110])]
noncomputable def RowOk (r : RowT) : Prop := LineOk r.l ∧ LineOk r.r ∧ FlagOk r.flag
noncomputable abbrev rowD (r : RowT) : PyData := .tuple [lineT r.l, lineT r.r, r.flag]

theorem c_rows (hK : K01 W) (hh : A.handled = none) (hd : A.depth < recursionLimit) (ns : List Int) (hn : ns.length ≤ 100) :
    SLC W A (.ref 134) [.lst (ns.map .int)] own (fun v o => ∃ rows : List RowT, v = .lst (rows.map rowD) ∧ o = own ∧ rows.length = ns.length ∧ ∀ r ∈ rows, RowOk r) := by
  refine' do_callE [Str.ofString "numbers"] [(Str.ofString "numbers", .lst (ns.map .int))] [(Str.ofString "first", 2, none), (Str.ofString "rows", 1, none)] ?ho ?hcd hd ?hb ?hcl ?ndc ?hkind ?hbind ?hh7 ?c1 ?c2 ?c3
  case ho => exact K_of hK rfl
  case hcd => rw [hK]; rfl
  case hb => intro s vs _ hl; obtain ⟨_, rfl⟩ := len_1 hl; exact BindsTo.of_eq rfl
  case hcl => intro L; rfl
  case ndc => (first | dsimp only [List.map_cons, List.map_nil] | simp only [List.map_cons, List.map_nil]); decide +kernel
  case hkind => (first | dsimp only [List.map_cons, List.map_nil] | simp only [List.map_cons, List.map_nil]); decide +kernel
  case hbind =>
    intro fz vs L r
    cases r with | cons r1 r => cases r; exact ⟨⟨⟨_, rfl, r1⟩, trivial⟩, rfl, rfl, trivial⟩
  case c1 => rfl
  case c2 => rfl
  case c3 => rfl
  intro L
  dsimp only [lawS, nthS, fdB, fdS, clB, PySem.Challenge.pw_dm0066_01]
  (first | dsimp only [List.map_cons, List.map_nil, List.cons_append, List.nil_append] | simp only [List.map_cons, List.map_nil, List.cons_append, List.nil_append])
  refine @deeper_gen W A _ _ _ _ _ hh ?_
  intro A' hh' hd' hu'
  refine SXs_cons ?_
  refine SX_Assign ?_
  refine SE_List (by ((rw [sizeLine_eq]; simp))) ?_
  refine SEs_nil ?_
  refine ⟨by ((rw [sizeLine_eq]; simp)), fun D => ?_⟩
  refine SS_cell rfl rfl rfl (by (with_reducible repeat first | exact Upd.here | exact Upd.mid | apply Upd.there)) ?_
  refine SXs_cons ?_
  refine SX_For hh' ?_
  refine SE_Name ?_ (by decide +kernel)
  refine SN_loc rfl rfl (by (with_reducible repeat first | exact List.mem_cons_self | refine List.mem_cons_of_mem _ ?_ | assumption | exact mem_mid' | exact mem_mid (by assumption))) (by with_reducible rfl) (by (with_reducible repeat first | exact List.mem_cons_self | refine List.mem_cons_of_mem _ ?_ | assumption | exact mem_mid' | exact mem_mid (by assumption))) ?_
  refine it_list fun it => ⟨it, _, _, rfl, rfl, fun l o => ∃ (post : List Int) (rows : List RowT) (fv : Option V), l = (post.map PyData.int).map V.dat ∧ rows.length + post.length = ns.length ∧ (∀ r ∈ rows, RowOk r) ∧
    o = (D, Ob.list ((rows.map rowD).map V.dat)) :: (L, Ob.ns [(Str.ofString "numbers", .lst (ns.map .int))]) :: (L + 2, Ob.cell fv) :: (L + 1, Ob.cell (some (.ref D))) :: own, ?_, ?_, ?_⟩
  · exact ⟨ns, [], none, rfl, by simp, by simp, rfl⟩
  · rintro v r o ⟨post, rows, fv, hl, hlen, hok, rfl⟩
    cases post with
    | nil => cases hl
    | cons n post =>
      injection hl with e1 e2
      subst e1 e2
      simp only [List.length_cons] at hlen
      refine SA_Name ?_
      refine SS_loc rfl rfl (by (with_reducible repeat first | exact List.mem_cons_self | refine List.mem_cons_of_mem _ ?_ | assumption | exact mem_mid' | exact mem_mid (by assumption))) (by with_reducible rfl) (by (with_reducible repeat first | exact Put.here | exact Put.new | apply Put.there)) (by (((first | dsimp only [List.map_cons, List.map_nil] | simp only [List.map_cons, List.map_nil]); decide +kernel))) (by (with_reducible repeat first | exact Upd.here | exact Upd.mid | apply Upd.there)) ?_
      refine SXs_cons ?_
      refine SX_Assign ?_
      refine SE_List (by ((rw [sizeLine_eq]; simp))) ?_
      refine SEs_nil ?_
      refine ⟨by ((rw [sizeLine_eq]; simp)), fun E => ?_⟩
      refine SS_loc rfl rfl (by (with_reducible repeat first | exact List.mem_cons_self | refine List.mem_cons_of_mem _ ?_ | assumption | exact mem_mid' | exact mem_mid (by assumption))) (by with_reducible rfl) (by (with_reducible repeat first | exact Put.here | exact Put.new | apply Put.there)) (by (((first | dsimp only [List.map_cons, List.map_nil] | simp only [List.map_cons, List.map_nil]); decide +kernel))) (by (with_reducible repeat first | exact Upd.here | exact Upd.mid | apply Upd.there)) ?_
      refine SXs_cons ?_
      refine SX_For hh' ?_
      refine SE_ListF ?_
      refine SEs_cons ?_
      refine SE_ListF ?_
      refine SEs_cons ?_
      refine SE_BinOp ?_
      refine SE_BinOp ?_
      refine SE_Name ?_ (by decide +kernel)
      refine SN_loc rfl rfl (by (with_reducible repeat first | exact List.mem_cons_self | refine List.mem_cons_of_mem _ ?_ | assumption | exact mem_mid' | exact mem_mid (by assumption))) (by with_reducible rfl) (by (with_reducible repeat first | exact List.mem_cons_self | refine List.mem_cons_of_mem _ ?_ | assumption | exact mem_mid' | exact mem_mid (by assumption))) ?_
      refine SE_int ?_
      refine op_mod (by decide) ?_
      refine SE_int ?_
      with_reducible refine op_sub ?_
      refine SEs_cons ?_
      refine SE_BinOp ?_
      refine SE_BinOp ?_
      refine SE_Name ?_ (by decide +kernel)
      refine SN_loc rfl rfl (by (with_reducible repeat first | exact List.mem_cons_self | refine List.mem_cons_of_mem _ ?_ | assumption | exact mem_mid' | exact mem_mid (by assumption))) (by with_reducible rfl) (by (with_reducible repeat first | exact List.mem_cons_self | refine List.mem_cons_of_mem _ ?_ | assumption | exact mem_mid' | exact mem_mid (by assumption))) ?_
      refine SE_int ?_
      refine op_div (by decide) (by decide) ?_
      refine SE_int ?_
      refine op_mod (by decide) ?_
      refine SEs_cons ?_
      refine SE_int ?_
      refine SEs_nil ?_
      with_reducible refine ⟨_, by with_reducible ((first | exact AllDat.map _ | repeat first | exact AllDat.nil | with_reducible apply AllDat.cons)), by ((rw [sizeLine_eq]; simp)), ?_⟩
      refine SEs_cons ?_
      refine SE_ListF ?_
      refine SEs_cons ?_
      refine SE_BinOp ?_
      refine SE_BinOp ?_
      refine SE_Name ?_ (by decide +kernel)
      refine SN_loc rfl rfl (by (with_reducible repeat first | exact List.mem_cons_self | refine List.mem_cons_of_mem _ ?_ | assumption | exact mem_mid' | exact mem_mid (by assumption))) (by with_reducible rfl) (by (with_reducible repeat first | exact List.mem_cons_self | refine List.mem_cons_of_mem _ ?_ | assumption | exact mem_mid' | exact mem_mid (by assumption))) ?_
      refine SE_int ?_
      refine op_mod (by decide) ?_
      refine SE_int ?_
      with_reducible refine op_sub ?_
      refine SEs_cons ?_
      refine SE_BinOp ?_
      refine SE_BinOp ?_
      refine SE_Name ?_ (by decide +kernel)
      refine SN_loc rfl rfl (by (with_reducible repeat first | exact List.mem_cons_self | refine List.mem_cons_of_mem _ ?_ | assumption | exact mem_mid' | exact mem_mid (by assumption))) (by with_reducible rfl) (by (with_reducible repeat first | exact List.mem_cons_self | refine List.mem_cons_of_mem _ ?_ | assumption | exact mem_mid' | exact mem_mid (by assumption))) ?_
      refine SE_int ?_
      refine op_div (by decide) (by decide) ?_
      refine SE_int ?_
      refine op_mod (by decide) ?_
      refine SEs_cons ?_
      refine SE_int ?_
      refine SEs_nil ?_
      with_reducible refine ⟨_, by with_reducible ((first | exact AllDat.map _ | repeat first | exact AllDat.nil | with_reducible apply AllDat.cons)), by ((rw [sizeLine_eq]; simp)), ?_⟩
      refine SEs_nil ?_
      with_reducible refine ⟨_, by with_reducible ((first | exact AllDat.map _ | repeat first | exact AllDat.nil | with_reducible apply AllDat.cons)), by ((rw [sizeLine_eq]; simp)), ?_⟩
      refine it_list fun it2 => ⟨it2, _, _, rfl, rfl, fun l o => ∃ (specs : List (Int × Int × Int)) (lines : List LineT) (fv : Option V), l = (specs.map fun p => PyData.list [.int p.1, .int p.2.1, .int p.2.2]).map V.dat ∧ lines.length + specs.length = 2 ∧ (∀ x ∈ lines, LineOk x) ∧
        (∀ p ∈ specs, -1 ≤ p.1 ∧ p.1 ≤ 5 ∧ 0 ≤ p.2.1 ∧ p.2.1 < 4 ∧ 65 ≤ p.2.2 ∧ p.2.2 ≤ 97) ∧
        o = (E, Ob.list ((lines.map lineT).map V.dat)) :: (it, Ob.it ((post.map PyData.int).map V.dat)) :: (D, Ob.list ((rows.map rowD).map V.dat)) :: (L, Ob.ns [(Str.ofString "numbers", .lst (ns.map .int)), (Str.ofString "x", .int n), (Str.ofString "lines", .ref E)]) :: (L + 2, Ob.cell fv) :: (L + 1, Ob.cell (some (.ref D))) :: own, ?_, ?_, ?_⟩
      · exact ⟨[(n % 7 - 1, n / 7 % 4, 97), (n % 6 - 1, n / 6 % 4, 65)], [], fv, rfl, rfl, by simp, by simp; (first | decide | exact Nat.le_trans (by assumption) (by decide) | lia | omega), rfl⟩
      · rintro v r o ⟨specs, lines, fv, hl, hll, hlo, hsp, rfl⟩
        cases specs with
        | nil => cases hl
        | cons p specs =>
          obtain ⟨s, m, f⟩ := p
          injection hl with e1 e2
          subst e1 e2
          obtain ⟨hs1, hs5, hm0, hm4, hf1, hf2⟩ := hsp _ List.mem_cons_self
          dsimp only at hs1 hs5 hm0 hm4 hf1 hf2
          dsimp only
          simp only [List.length_cons] at hll
          have hsp' : ∀ p ∈ specs, -1 ≤ p.1 ∧ p.1 ≤ 5 ∧ 0 ≤ p.2.1 ∧ p.2.1 < 4 ∧ 65 ≤ p.2.2 ∧ p.2.2 ≤ 97 := fun p hp => hsp p (List.mem_cons_of_mem _ hp)
          have hrl : ((rows.map rowD).map V.dat).length = rows.length := by rw [List.length_map, List.length_map]
          obtain ⟨mk, hmk, hmo⟩ : ∃ mk : List Nat, [PyData.str (S []), .str (S [43]), .str (S [45]), .str (S [94])][place m 4]? = some (.str (S mk)) ∧ (mk = [] ∨ ∃ q, mk = [q] ∧ 2 ≤ q ∧ q < 128) := by
            rcases (by (first | decide | exact Nat.le_trans (by assumption) (by decide) | lia | omega) : m = 0 ∨ m = 1 ∨ m = 2 ∨ m = 3) with h | h | h | h <;> rw [h]
            · exact ⟨_, rfl, .inl rfl⟩
            · exact ⟨_, rfl, .inr ⟨_, rfl, by decide, by decide⟩⟩
            · exact ⟨_, rfl, .inr ⟨_, rfl, by decide, by decide⟩⟩
            · exact ⟨_, rfl, .inr ⟨_, rfl, by decide, by decide⟩⟩
          have hrs : Builtin.Range.rangeSize 0 s 1 = ((s.toNat : Nat) : Int) := by
            unfold Builtin.Range.rangeSize
            rw [if_pos (by (first | decide | exact Nat.le_trans (by assumption) (by decide) | lia | omega))]
            by_cases h0 : (0 : Int) < s
            · rw [if_pos h0]; (first | decide | exact Nat.le_trans (by assumption) (by decide) | lia | omega)
            · rw [if_neg h0]; (first | decide | exact Nat.le_trans (by assumption) (by decide) | lia | omega)
          refine SA_TupleL hh' rfl ?_
          refine SAs_cons ?_
          refine SA_Name ?_
          refine SS_loc rfl rfl (by (with_reducible repeat first | exact List.mem_cons_self | refine List.mem_cons_of_mem _ ?_ | assumption | exact mem_mid' | exact mem_mid (by assumption))) (by with_reducible rfl) (by (with_reducible repeat first | exact Put.here | exact Put.new | apply Put.there)) (by (((first | dsimp only [List.map_cons, List.map_nil] | simp only [List.map_cons, List.map_nil]); decide +kernel))) (by (with_reducible repeat first | exact Upd.here | exact Upd.mid | apply Upd.there)) ?_
          refine SAs_cons ?_
          refine SA_Name ?_
          refine SS_loc rfl rfl (by (with_reducible repeat first | exact List.mem_cons_self | refine List.mem_cons_of_mem _ ?_ | assumption | exact mem_mid' | exact mem_mid (by assumption))) (by with_reducible rfl) (by (with_reducible repeat first | exact Put.here | exact Put.new | apply Put.there)) (by (((first | dsimp only [List.map_cons, List.map_nil] | simp only [List.map_cons, List.map_nil]); decide +kernel))) (by (with_reducible repeat first | exact Upd.here | exact Upd.mid | apply Upd.there)) ?_
          refine SAs_cons ?_
          refine SA_Name ?_
          refine SS_cell rfl rfl rfl (by (with_reducible repeat first | exact Upd.here | exact Upd.mid | apply Upd.there)) ?_
          refine SAs_nil ?_
          refine SXs_cons ?_
          refine SX_Assign ?_
          refine SE_Meth ?_
          refine SE_strL (by (first | exact l01_0 | exact l01_1 | exact l01_2 | exact l01_3 | exact l01_4 | exact l01_5 | exact l01_6 | exact l01_7 | exact l01_8 | exact l01_9)) ?_
          refine mth_str (fun t s P h => GM.join h) ?_
          refine SEs_cons ?_
          refine SE_CompMap (α := Nat) hh' rfl (by decide +kernel) rfl (by decide +kernel) ?_
          refine SE_Call ?_
          refine SE_Name ?_ (by decide +kernel)
          refine SN_builtin rfl rfl rfl rfl (nsIn_of (by assumption) rfl) rfl (by decide +kernel) ?_
          with_reducible refine ⟨_, rfl, ?_⟩
          refine SEs_cons ?_
          refine SE_Name ?_ (by decide +kernel)
          refine SN_loc rfl rfl (by (with_reducible repeat first | exact List.mem_cons_self | refine List.mem_cons_of_mem _ ?_ | assumption | exact mem_mid' | exact mem_mid (by assumption))) (by with_reducible rfl) (by (with_reducible repeat first | exact List.mem_cons_self | refine List.mem_cons_of_mem _ ?_ | assumption | exact mem_mid' | exact mem_mid (by assumption))) ?_
          refine SEs_nil ?_
          with_reducible refine ⟨kp_type, ?_⟩
          refine call_range1 ?_
          refine it_range (n := s.toNat) (small_of (by (first | decide | exact Nat.le_trans (by assumption) (by decide) | lia | omega)) hs1 (by (first | decide | exact Nat.le_trans (by assumption) (by decide) | lia | omega)) (by (first | decide | exact Nat.le_trans (by assumption) (by decide) | lia | omega)) hrs (by (first | decide | exact Nat.le_trans (by assumption) (by decide) | lia | omega))) hrs fun it3 => ⟨it3, _, _, rfl, rfl, fun j : Nat => V.int (0 + (j : Int) * 1), fun _ => true, fun j => .str (S [(f + ((rows.length : Int) + (j : Int)) % 26).toNat]), List.range s.toNat, rfl, by rw [sizeLine_eq, List.length_range]; (first | decide | exact Nat.le_trans (by assumption) (by decide) | lia | omega), ?_, ?_⟩
          · intro C D3 it4 j rr ys hj
            rw [show (fun j : Nat => V.int (0 + (j : Int) * 1)) j = V.int ((j : Nat) : Int) by show V.int _ = _; rw [show (0 : Int) + (j : Int) * 1 = ((j : Nat) : Int) by (first | decide | exact Nat.le_trans (by assumption) (by decide) | lia | omega)]]
            refine SA_Name ?_
            refine SS_loc rfl rfl (by (with_reducible repeat first | exact List.mem_cons_self | refine List.mem_cons_of_mem _ ?_ | assumption | exact mem_mid' | exact mem_mid (by assumption))) (by with_reducible rfl) (by (with_reducible repeat first | exact Put.here | exact Put.new | apply Put.there)) (by (((first | dsimp only [List.map_cons, List.map_nil] | simp only [List.map_cons, List.map_nil]); decide +kernel))) (by (with_reducible repeat first | exact Upd.here | exact Upd.mid | apply Upd.there)) ?_
            refine STs_nil ?_
            refine ⟨rfl, ?_⟩
            rw [if_pos rfl]
            refine SE_Call ?_
            refine SE_Name ?_ (by decide +kernel)
            refine SN_builtin rfl rfl rfl rfl (nsIn_of (by assumption) rfl) rfl (by decide +kernel) ?_
            with_reducible refine ⟨_, rfl, ?_⟩
            refine SEs_cons ?_
            refine SE_BinOp ?_
            refine SE_Name ?_ (by decide +kernel)
            refine SN_cell rfl rfl rfl (by (with_reducible repeat first | exact List.mem_cons_self | refine List.mem_cons_of_mem _ ?_ | assumption | exact mem_mid' | exact mem_mid (by assumption))) ?_
            refine SE_BinOp ?_
            refine SE_BinOp ?_
            refine SE_Call ?_
            refine SE_Name ?_ (by decide +kernel)
            refine SN_builtin rfl rfl rfl rfl (nsIn_of (by assumption) rfl) rfl (by decide +kernel) ?_
            with_reducible refine ⟨_, rfl, ?_⟩
            refine SEs_cons ?_
            refine SE_Name ?_ (by decide +kernel)
            refine SN_cell rfl rfl rfl (by (with_reducible repeat first | exact List.mem_cons_self | refine List.mem_cons_of_mem _ ?_ | assumption | exact mem_mid' | exact mem_mid (by assumption))) ?_
            refine SEs_nil ?_
            with_reducible refine ⟨kp_builtin, ?_⟩
            refine call_len_own (by (with_reducible repeat first | exact List.mem_cons_self | refine List.mem_cons_of_mem _ ?_ | assumption | exact mem_mid' | exact mem_mid (by assumption))) (by ((rw [sizeLine_eq]; (try simp only [List.length_append, List.length_cons, List.length_nil, List.length_map]); (first | decide | exact Nat.le_trans (by assumption) (by decide) | lia | omega)))) ?_
            refine SE_Name ?_ (by decide +kernel)
            refine SN_loc rfl rfl (by (with_reducible repeat first | exact List.mem_cons_self | refine List.mem_cons_of_mem _ ?_ | assumption | exact mem_mid' | exact mem_mid (by assumption))) (by with_reducible rfl) (by (with_reducible repeat first | exact List.mem_cons_self | refine List.mem_cons_of_mem _ ?_ | assumption | exact mem_mid' | exact mem_mid (by assumption))) ?_
            with_reducible refine op_add ?_
            refine SE_int ?_
            rw [hrl]
            refine op_mod (by decide) ?_
            with_reducible refine op_add ?_
            refine SEs_nil ?_
            with_reducible refine ⟨kp_builtin, ?_⟩
            refine call_chrS (by (first | decide | exact Nat.le_trans (by assumption) (by decide) | lia | omega)) (by (first | decide | exact Nat.le_trans (by assumption) (by decide) | lia | omega)) ?_
            exact ⟨rfl, by (with_reducible repeat first | exact Wk.refl | exact Wk.nil | refine Wk.keep ObW.refl ?_ | refine Wk.keep (ObW.ns (by (with_reducible repeat first | exact List.Sublist.refl _ | exact List.nil_sublist _ | apply List.Sublist.cons_cons | apply List.Sublist.cons))) ?_ | apply Wk.drop)⟩
          rw [show (List.range s.toNat).filter (fun _ => true) = List.range s.toNat from List.filter_eq_self.mpr fun _ _ => rfl]
          rw [show (List.range s.toNat).map (fun j : Nat => PyData.str (S [(f + ((rows.length : Int) + (j : Int)) % 26).toNat])) = ((List.range s.toNat).map fun j : Nat => [(f + ((rows.length : Int) + (j : Int)) % 26).toNat]).map fun l => PyData.str (S l) by rw [List.map_map]; rfl]
          have hjl : (((List.range s.toNat).map fun j : Nat => [(f + ((rows.length : Int) + (j : Int)) % 26).toNat]).flatten).length = s.toNat := by
            have key : ∀ (g : Nat → Nat) (l : List Nat), (l.map fun j => [g j]).flatten = l.map g := fun g l => by induction l with | nil => rfl | cons a l ih => rw [List.map_cons, List.flatten_cons, ih]; rfl
            rw [key, List.length_map, List.length_range]
          have hjc : ∀ c ∈ ((List.range s.toNat).map fun j : Nat => [(f + ((rows.length : Int) + (j : Int)) % 26).toNat]).flatten, 2 ≤ c ∧ c < 200 := by
            intro c hc
            obtain ⟨l, hl, hc⟩ := List.mem_flatten.mp hc
            obtain ⟨j, _, rfl⟩ := List.mem_map.mp hl
            rw [List.mem_singleton.mp hc]; (first | decide | exact Nat.le_trans (by assumption) (by decide) | lia | omega)
          refine SEs_nil ?_
          with_reducible refine ⟨kp_builtin, ?_⟩
          refine call_join (ls := (List.range s.toNat).map fun j : Nat => [(f + ((rows.length : Int) + (j : Int)) % 26).toNat]) (by rw [hjl]; (first | decide | exact Nat.le_trans (by assumption) (by decide) | lia | omega)) ?_
          generalize ((List.range s.toNat).map fun j : Nat => [(f + ((rows.length : Int) + (j : Int)) % 26).toNat]).flatten = sg at hjl hjc ⊢
          have hll2 : ((lines.map lineT).map V.dat).length = lines.length := by rw [List.length_map, List.length_map]
          have hap : ∀ q : LineT, (lines.map lineT).map V.dat ++ [V.dat (lineT q)] = ((lines ++ [q]).map lineT).map V.dat := fun q => by simp only [List.map_append, List.map_cons, List.map_nil]
          have hokq : ∀ o : Option Nat, ∀ x ∈ lines ++ [((o, mk, sg) : LineT)], LineOk x := fun o x hx => by
            rcases List.mem_append.mp hx with hx | hx
            · exact hlo x hx
            · rw [List.mem_singleton.mp hx]; exact ⟨hmo, by show sg.length ≤ 5; (first | decide | exact Nat.le_trans (by assumption) (by decide) | lia | omega), hjc⟩
          refine SS_loc rfl rfl (by (with_reducible repeat first | exact List.mem_cons_self | refine List.mem_cons_of_mem _ ?_ | assumption | exact mem_mid' | exact mem_mid (by assumption))) (by with_reducible rfl) (by (with_reducible repeat first | exact Put.here | exact Put.new | apply Put.there)) (by (((first | dsimp only [List.map_cons, List.map_nil] | simp only [List.map_cons, List.map_nil]); decide +kernel))) (by (with_reducible repeat first | exact Upd.here | exact Upd.mid | apply Upd.there)) ?_
          refine SXs_cons ?_
          refine SX_Expr ?_
          refine SE_Meth ?_
          refine SE_Name ?_ (by decide +kernel)
          refine SN_loc rfl rfl (by (with_reducible repeat first | exact List.mem_cons_self | refine List.mem_cons_of_mem _ ?_ | assumption | exact mem_mid' | exact mem_mid (by assumption))) (by with_reducible rfl) (by (with_reducible repeat first | exact List.mem_cons_self | refine List.mem_cons_of_mem _ ?_ | assumption | exact mem_mid' | exact mem_mid (by assumption))) ?_
          refine mth_list (by (with_reducible repeat first | exact List.mem_cons_self | refine List.mem_cons_of_mem _ ?_ | assumption | exact mem_mid' | exact mem_mid (by assumption))) PySem.F.slot_list_append PySem.F.type_list_append ?_
          refine SEs_cons ?_
          refine SE_ListF ?_
          refine SEs_cons ?_
          refine SE_IfExp ?_
          refine ST_Compare ?_
          refine SE_Name ?_ (by decide +kernel)
          refine SN_loc rfl rfl (by (with_reducible repeat first | exact List.mem_cons_self | refine List.mem_cons_of_mem _ ?_ | assumption | exact mem_mid' | exact mem_mid (by assumption))) (by with_reducible rfl) (by (with_reducible repeat first | exact List.mem_cons_self | refine List.mem_cons_of_mem _ ?_ | assumption | exact mem_mid' | exact mem_mid (by assumption))) ?_
          refine SE_int ?_
          with_reducible refine cmp_ge ?_
          with_reducible refine tr_bool ?_
          refine ite_dec (fun h0 => ?_) (fun h0 => ?_)
          · refine SE_BinOp ?_
            refine SE_Call ?_
            refine SE_Name ?_ (by decide +kernel)
            refine SN_builtin rfl rfl rfl rfl (nsIn_of (by assumption) rfl) rfl (by decide +kernel) ?_
            with_reducible refine ⟨_, rfl, ?_⟩
            refine SEs_cons ?_
            refine SE_Name ?_ (by decide +kernel)
            refine SN_cell rfl rfl rfl (by (with_reducible repeat first | exact List.mem_cons_self | refine List.mem_cons_of_mem _ ?_ | assumption | exact mem_mid' | exact mem_mid (by assumption))) ?_
            refine SEs_nil ?_
            with_reducible refine ⟨kp_builtin, ?_⟩
            refine call_len_own (by (with_reducible repeat first | exact List.mem_cons_self | refine List.mem_cons_of_mem _ ?_ | assumption | exact mem_mid' | exact mem_mid (by assumption))) (by ((rw [sizeLine_eq]; (try simp only [List.length_append, List.length_cons, List.length_nil, List.length_map]); (first | decide | exact Nat.le_trans (by assumption) (by decide) | lia | omega)))) ?_
            refine SE_int ?_
            with_reducible refine op_add ?_
            refine SEs_cons ?_
            refine SE_Subscript ?_
            rw [hrl]
            refine SE_ListF ?_
            refine SEs_cons ?_
            refine SE_strL (by (first | exact l01_0 | exact l01_1 | exact l01_2 | exact l01_3 | exact l01_4 | exact l01_5 | exact l01_6 | exact l01_7 | exact l01_8 | exact l01_9)) ?_
            refine SEs_cons ?_
            refine SE_strL (by (first | exact l01_0 | exact l01_1 | exact l01_2 | exact l01_3 | exact l01_4 | exact l01_5 | exact l01_6 | exact l01_7 | exact l01_8 | exact l01_9)) ?_
            refine SEs_cons ?_
            refine SE_strL (by (first | exact l01_0 | exact l01_1 | exact l01_2 | exact l01_3 | exact l01_4 | exact l01_5 | exact l01_6 | exact l01_7 | exact l01_8 | exact l01_9)) ?_
            refine SEs_cons ?_
            refine SE_strL (by (first | exact l01_0 | exact l01_1 | exact l01_2 | exact l01_3 | exact l01_4 | exact l01_5 | exact l01_6 | exact l01_7 | exact l01_8 | exact l01_9)) ?_
            refine SEs_nil ?_
            with_reducible refine ⟨_, by with_reducible ((first | exact AllDat.map _ | repeat first | exact AllDat.nil | with_reducible apply AllDat.cons)), by ((rw [sizeLine_eq]; simp)), ?_⟩
            refine SE_Name ?_ (by decide +kernel)
            refine SN_loc rfl rfl (by (with_reducible repeat first | exact List.mem_cons_self | refine List.mem_cons_of_mem _ ?_ | assumption | exact mem_mid' | exact mem_mid (by assumption))) (by with_reducible rfl) (by (with_reducible repeat first | exact List.mem_cons_self | refine List.mem_cons_of_mem _ ?_ | assumption | exact mem_mid' | exact mem_mid (by assumption))) ?_
            refine sub_lst (by (first | dsimp only [List.length_cons, List.length_nil] | simp only [List.length_cons, List.length_nil]); (first | decide | exact Nat.le_trans (by assumption) (by decide) | lia | omega)) (by (first | dsimp only [List.length_cons, List.length_nil] | simp only [List.length_cons, List.length_nil]); (first | decide | exact Nat.le_trans (by assumption) (by decide) | lia | omega)) (by ((rw [sizeLine_eq]; simp))) hmk ?_
            refine SEs_cons ?_
            refine SE_Name ?_ (by decide +kernel)
            refine SN_loc rfl rfl (by (with_reducible repeat first | exact List.mem_cons_self | refine List.mem_cons_of_mem _ ?_ | assumption | exact mem_mid' | exact mem_mid (by assumption))) (by with_reducible rfl) (by (with_reducible repeat first | exact List.mem_cons_self | refine List.mem_cons_of_mem _ ?_ | assumption | exact mem_mid' | exact mem_mid (by assumption))) ?_
            refine SEs_nil ?_
            with_reducible refine ⟨_, by with_reducible ((first | exact AllDat.map _ | repeat first | exact AllDat.nil | with_reducible apply AllDat.cons)), by ((rw [sizeLine_eq]; simp)), ?_⟩
            refine SEs_nil ?_
            with_reducible refine ⟨kp_builtin, ?_⟩
            refine call_append (by (with_reducible repeat first | exact Upd.here | exact Upd.mid | apply Upd.there)) (by ((rw [sizeLine_eq]; (try simp only [List.length_append, List.length_cons, List.length_nil, List.length_map]); (first | decide | exact Nat.le_trans (by assumption) (by decide) | lia | omega)))) ?_
            refine SXs_nil ?_
            rw [show V.lst [.int ((rows.length : Int) + 1), .str (S mk), .str (S sg)] = V.dat (lineT (some rows.length, mk, sg)) from rfl, hap]
            exact ⟨_, by (with_reducible repeat first | exact Wk.refl | exact Wk.nil | refine Wk.keep ObW.refl ?_ | refine Wk.keep (ObW.ns (by (with_reducible repeat first | exact List.Sublist.refl _ | exact List.nil_sublist _ | apply List.Sublist.cons_cons | apply List.Sublist.cons))) ?_ | apply Wk.drop), specs, lines ++ [(some rows.length, mk, sg)], _, rfl, by simp only [List.length_append, List.length_cons, List.length_nil]; (first | decide | exact Nat.le_trans (by assumption) (by decide) | lia | omega), hokq _, hsp', rfl⟩
          · refine SE_strL (by (first | exact l01_0 | exact l01_1 | exact l01_2 | exact l01_3 | exact l01_4 | exact l01_5 | exact l01_6 | exact l01_7 | exact l01_8 | exact l01_9)) ?_
            refine SEs_cons ?_
            refine SE_Subscript ?_
            refine SE_ListF ?_
            refine SEs_cons ?_
            refine SE_strL (by (first | exact l01_0 | exact l01_1 | exact l01_2 | exact l01_3 | exact l01_4 | exact l01_5 | exact l01_6 | exact l01_7 | exact l01_8 | exact l01_9)) ?_
            refine SEs_cons ?_
            refine SE_strL (by (first | exact l01_0 | exact l01_1 | exact l01_2 | exact l01_3 | exact l01_4 | exact l01_5 | exact l01_6 | exact l01_7 | exact l01_8 | exact l01_9)) ?_
            refine SEs_cons ?_
            refine SE_strL (by (first | exact l01_0 | exact l01_1 | exact l01_2 | exact l01_3 | exact l01_4 | exact l01_5 | exact l01_6 | exact l01_7 | exact l01_8 | exact l01_9)) ?_
            refine SEs_cons ?_
            refine SE_strL (by (first | exact l01_0 | exact l01_1 | exact l01_2 | exact l01_3 | exact l01_4 | exact l01_5 | exact l01_6 | exact l01_7 | exact l01_8 | exact l01_9)) ?_
            refine SEs_nil ?_
            with_reducible refine ⟨_, by with_reducible ((first | exact AllDat.map _ | repeat first | exact AllDat.nil | with_reducible apply AllDat.cons)), by ((rw [sizeLine_eq]; simp)), ?_⟩
            refine SE_Name ?_ (by decide +kernel)
            refine SN_loc rfl rfl (by (with_reducible repeat first | exact List.mem_cons_self | refine List.mem_cons_of_mem _ ?_ | assumption | exact mem_mid' | exact mem_mid (by assumption))) (by with_reducible rfl) (by (with_reducible repeat first | exact List.mem_cons_self | refine List.mem_cons_of_mem _ ?_ | assumption | exact mem_mid' | exact mem_mid (by assumption))) ?_
            refine sub_lst (by (first | dsimp only [List.length_cons, List.length_nil] | simp only [List.length_cons, List.length_nil]); (first | decide | exact Nat.le_trans (by assumption) (by decide) | lia | omega)) (by (first | dsimp only [List.length_cons, List.length_nil] | simp only [List.length_cons, List.length_nil]); (first | decide | exact Nat.le_trans (by assumption) (by decide) | lia | omega)) (by ((rw [sizeLine_eq]; simp))) hmk ?_
            refine SEs_cons ?_
            refine SE_Name ?_ (by decide +kernel)
            refine SN_loc rfl rfl (by (with_reducible repeat first | exact List.mem_cons_self | refine List.mem_cons_of_mem _ ?_ | assumption | exact mem_mid' | exact mem_mid (by assumption))) (by with_reducible rfl) (by (with_reducible repeat first | exact List.mem_cons_self | refine List.mem_cons_of_mem _ ?_ | assumption | exact mem_mid' | exact mem_mid (by assumption))) ?_
            refine SEs_nil ?_
            with_reducible refine ⟨_, by with_reducible ((first | exact AllDat.map _ | repeat first | exact AllDat.nil | with_reducible apply AllDat.cons)), by ((rw [sizeLine_eq]; simp)), ?_⟩
            refine SEs_nil ?_
            with_reducible refine ⟨kp_builtin, ?_⟩
            refine call_append (by (with_reducible repeat first | exact Upd.here | exact Upd.mid | apply Upd.there)) (by ((rw [sizeLine_eq]; (try simp only [List.length_append, List.length_cons, List.length_nil, List.length_map]); (first | decide | exact Nat.le_trans (by assumption) (by decide) | lia | omega)))) ?_
            refine SXs_nil ?_
            rw [show V.lst [.str (S []), .str (S mk), .str (S sg)] = V.dat (lineT (none, mk, sg)) from rfl, hap]
            exact ⟨_, by (with_reducible repeat first | exact Wk.refl | exact Wk.nil | refine Wk.keep ObW.refl ?_ | refine Wk.keep (ObW.ns (by (with_reducible repeat first | exact List.Sublist.refl _ | exact List.nil_sublist _ | apply List.Sublist.cons_cons | apply List.Sublist.cons))) ?_ | apply Wk.drop), specs, lines ++ [(none, mk, sg)], _, rfl, by simp only [List.length_append, List.length_cons, List.length_nil]; (first | decide | exact Nat.le_trans (by assumption) (by decide) | lia | omega), hokq _, hsp', rfl⟩
      · rintro o ⟨specs, lines, fv, hl, hll, hlo, hsp, rfl⟩
        cases specs with
        | cons p specs => cases hl
        | nil =>
          obtain ⟨a, b, rfl⟩ : ∃ a b, lines = [a, b] := by
            match lines, hll with
            | [a, b], _ => exact ⟨a, b, rfl⟩
          obtain ⟨fd, hfd, hfo⟩ : ∃ fd : PyData, [PyData.bool true, .bool false, .str (S []), .none, .int 0, .str (S [111, 110])][place (n / 2 % 6) 6]? = some fd ∧ FlagOk fd := by
            rcases (by (first | decide | exact Nat.le_trans (by assumption) (by decide) | lia | omega) : n / 2 % 6 = 0 ∨ n / 2 % 6 = 1 ∨ n / 2 % 6 = 2 ∨ n / 2 % 6 = 3 ∨ n / 2 % 6 = 4 ∨ n / 2 % 6 = 5) with h | h | h | h | h | h <;> rw [h] <;> exact ⟨_, rfl, by simp [FlagOk]⟩
          (first | dsimp only [List.map_cons, List.map_nil] | simp only [List.map_cons, List.map_nil])
          refine SXs_cons ?_
          refine SX_Expr ?_
          refine SE_Meth ?_
          refine SE_Name ?_ (by decide +kernel)
          refine SN_cell rfl rfl rfl (by (with_reducible repeat first | exact List.mem_cons_self | refine List.mem_cons_of_mem _ ?_ | assumption | exact mem_mid' | exact mem_mid (by assumption))) ?_
          refine mth_list (by (with_reducible repeat first | exact List.mem_cons_self | refine List.mem_cons_of_mem _ ?_ | assumption | exact mem_mid' | exact mem_mid (by assumption))) PySem.F.slot_list_append PySem.F.type_list_append ?_
          refine SEs_cons ?_
          refine SE_TupleF ?_
          refine SEs_cons ?_
          refine SE_Subscript ?_
          refine SE_Name ?_ (by decide +kernel)
          refine SN_loc rfl rfl (by (with_reducible repeat first | exact List.mem_cons_self | refine List.mem_cons_of_mem _ ?_ | assumption | exact mem_mid' | exact mem_mid (by assumption))) (by with_reducible rfl) (by (with_reducible repeat first | exact List.mem_cons_self | refine List.mem_cons_of_mem _ ?_ | assumption | exact mem_mid' | exact mem_mid (by assumption))) ?_
          refine SE_int ?_
          refine sub_own (by (with_reducible repeat first | exact List.mem_cons_self | refine List.mem_cons_of_mem _ ?_ | assumption | exact mem_mid' | exact mem_mid (by assumption))) (by simp) (by simp) (by ((rw [sizeLine_eq]; simp))) rfl ?_
          refine SEs_cons ?_
          refine SE_Subscript ?_
          refine SE_Name ?_ (by decide +kernel)
          refine SN_loc rfl rfl (by (with_reducible repeat first | exact List.mem_cons_self | refine List.mem_cons_of_mem _ ?_ | assumption | exact mem_mid' | exact mem_mid (by assumption))) (by with_reducible rfl) (by (with_reducible repeat first | exact List.mem_cons_self | refine List.mem_cons_of_mem _ ?_ | assumption | exact mem_mid' | exact mem_mid (by assumption))) ?_
          refine SE_int ?_
          refine sub_own (by (with_reducible repeat first | exact List.mem_cons_self | refine List.mem_cons_of_mem _ ?_ | assumption | exact mem_mid' | exact mem_mid (by assumption))) (by simp) (by simp) (by ((rw [sizeLine_eq]; simp))) rfl ?_
          refine SEs_cons ?_
          refine SE_Subscript ?_
          refine SE_ListF ?_
          refine SEs_cons ?_
          refine SE_bool ?_
          refine SEs_cons ?_
          refine SE_bool ?_
          refine SEs_cons ?_
          refine SE_strL (by (first | exact l01_0 | exact l01_1 | exact l01_2 | exact l01_3 | exact l01_4 | exact l01_5 | exact l01_6 | exact l01_7 | exact l01_8 | exact l01_9)) ?_
          refine SEs_cons ?_
          refine SE_none ?_
          refine SEs_cons ?_
          refine SE_int ?_
          refine SEs_cons ?_
          refine SE_strL (by (first | exact l01_0 | exact l01_1 | exact l01_2 | exact l01_3 | exact l01_4 | exact l01_5 | exact l01_6 | exact l01_7 | exact l01_8 | exact l01_9)) ?_
          refine SEs_nil ?_
          with_reducible refine ⟨_, by with_reducible ((first | exact AllDat.map _ | repeat first | exact AllDat.nil | with_reducible apply AllDat.cons)), by ((rw [sizeLine_eq]; simp)), ?_⟩
          refine SE_BinOp ?_
          refine SE_BinOp ?_
          refine SE_Name ?_ (by decide +kernel)
          refine SN_loc rfl rfl (by (with_reducible repeat first | exact List.mem_cons_self | refine List.mem_cons_of_mem _ ?_ | assumption | exact mem_mid' | exact mem_mid (by assumption))) (by with_reducible rfl) (by (with_reducible repeat first | exact List.mem_cons_self | refine List.mem_cons_of_mem _ ?_ | assumption | exact mem_mid' | exact mem_mid (by assumption))) ?_
          refine SE_int ?_
          refine op_div (by decide) (by decide) ?_
          refine SE_int ?_
          refine op_mod (by decide) ?_
          refine sub_lst (by (first | dsimp only [List.length_cons, List.length_nil] | simp only [List.length_cons, List.length_nil]); (first | decide | exact Nat.le_trans (by assumption) (by decide) | lia | omega)) (by (first | dsimp only [List.length_cons, List.length_nil] | simp only [List.length_cons, List.length_nil]); (first | decide | exact Nat.le_trans (by assumption) (by decide) | lia | omega)) (by ((rw [sizeLine_eq]; simp))) hfd ?_
          refine SEs_nil ?_
          with_reducible refine ⟨_, by with_reducible ((first | exact AllDat.map _ | repeat first | exact AllDat.nil | with_reducible apply AllDat.cons)), by ((rw [sizeLine_eq]; simp)), ?_⟩
          refine SEs_nil ?_
          with_reducible refine ⟨kp_builtin, ?_⟩
          refine call_append (by (with_reducible repeat first | exact Upd.here | exact Upd.mid | apply Upd.there)) (by ((rw [sizeLine_eq]; (try simp only [List.length_append, List.length_cons, List.length_nil, List.length_map]); (first | decide | exact Nat.le_trans (by assumption) (by decide) | lia | omega)))) ?_
          refine SXs_nil ?_
          rw [show (rows.map rowD).map V.dat ++ [V.tup [lineT a, lineT b, fd]] = ((rows ++ [(⟨a, b, fd⟩ : RowT)]).map rowD).map V.dat by simp only [List.map_append, List.map_cons, List.map_nil]]
          refine ⟨_, by (with_reducible repeat first | exact Wk.refl | exact Wk.nil | refine Wk.keep ObW.refl ?_ | refine Wk.keep (ObW.ns (by (with_reducible repeat first | exact List.Sublist.refl _ | exact List.nil_sublist _ | apply List.Sublist.cons_cons | apply List.Sublist.cons))) ?_ | apply Wk.drop), post, rows ++ [(⟨a, b, fd⟩ : RowT)], fv, rfl, by simp only [List.length_append, List.length_cons, List.length_nil]; (first | decide | exact Nat.le_trans (by assumption) (by decide) | lia | omega), ?_, rfl⟩
          intro r hr
          rcases List.mem_append.mp hr with hr | hr
          · exact hok r hr
          · rw [List.mem_singleton.mp hr]; exact ⟨hlo a (by simp), hlo b (by simp), hfo⟩
  · rintro o ⟨post, rows, fv, hl, hlen, hok, rfl⟩
    cases post with
    | cons p post => cases hl
    | nil =>
      refine SG_frz (D := D) (ds := rows.map rowD) (by (with_reducible repeat first | exact Take.here | apply Take.there)) (AllDat.map _) (by (with_reducible repeat first | exact NF.nil | apply NF.cons VF.at_ | apply NF.cons VF.same | apply OF.ns | apply OF.cell VF.at_ | apply OF.cell VF.same | apply OF.list | exact LF.nil | apply LF.cons VF.at_ | apply LF.cons VF.same | exact LF.refl | apply OF.same | exact OF.refl)) ?_
      refine SXs_cons ?_
      refine SX_Return ?_
      refine SE_Name ?_ (by decide +kernel)
      refine SN_cell rfl rfl rfl (by (with_reducible repeat first | exact List.mem_cons_self | refine List.mem_cons_of_mem _ ?_ | assumption | exact mem_mid' | exact mem_mid (by assumption))) ?_
      exact ⟨_, by (with_reducible repeat first | exact Wk.refl | exact Wk.nil | refine Wk.keep ObW.refl ?_ | refine Wk.keep (ObW.ns (by (with_reducible repeat first | exact List.Sublist.refl _ | exact List.nil_sublist _ | apply List.Sublist.cons_cons | apply List.Sublist.cons))) ?_ | apply Wk.drop), rows, rfl, rfl, by simpa using hlen, hok⟩
/-! ### plain: the cut of a line of one mark -/
noncomputable def chunkL (mark : List Nat) (col : Nat) : Nat → List Nat → List (List Nat)
  | 0, signs => [wrapM mark signs]
  | n + 1, signs => if signs.length ≤ col then [wrapM mark signs] else wrapM mark (signs.take col) :: chunkL mark col n (signs.drop col)
theorem chunk_pcs (num : PyData) (mark : List Nat) {col : Nat} (hc : 0 < col) : ∀ (n : Nat) (signs : List Nat), signs.length ≤ n → chunkL mark col n signs = (List.range ((max signs.length 1 - 1) / col + 1)).map fun i => wrapM mark ((signs.drop (i * col)).take col)
  | 0, signs, h => by
    have : signs = [] := List.length_eq_zero_iff.mp (by (first | decide | exact Nat.le_trans (by assumption) (by decide) | lia | omega))
    subst this
    simp [chunkL]
  | n + 1, signs, h => by
    rw [chunkL]
    by_cases hl : signs.length ≤ col
    · rw [if_pos hl, Nat.div_eq_of_lt (by (first | decide | exact Nat.le_trans (by assumption) (by decide) | lia | omega))]
      simp [List.take_of_length_le hl]
    · rw [if_neg hl, chunk_pcs num mark hc n (signs.drop col) (by rw [List.length_drop]; (first | decide | exact Nat.le_trans (by assumption) (by decide) | lia | omega))]
      have e : (max signs.length 1 - 1) / col = (max (signs.drop col).length 1 - 1) / col + 1 := by
        rw [List.length_drop, ← Nat.add_div_right _ hc]
        congr 1
        (first | decide | exact Nat.le_trans (by assumption) (by decide) | lia | omega)
      rw [e, List.range_succ_eq_map (n := (max (signs.drop col).length 1 - 1) / col + 1), List.map_cons, List.map_map]
      congr 1
      · simp
      · apply List.map_congr_left
        intro i _
        show wrapM mark (((signs.drop col).drop (i * col)).take col) = wrapM mark ((signs.drop ((i + 1) * col)).take col)
        rw [List.drop_drop, Nat.add_mul, Nat.one_mul, Nat.add_comm]
/-- the scan over plain signs -/
theorem sgo_plain : ∀ (k : Nat) (signs rest pre mark : List Nat), (∀ c ∈ signs, 2 ≤ c) → k < signs.length → sgo (signs ++ rest) k pre mark = (pre ++ signs.take k, signs.drop k ++ rest, mark)
  | 0, signs, rest, pre, mark, _, _ => by rw [sgo_zero]; simp
  | k + 1, [], rest, pre, mark, _, h => by simp at h
  | k + 1, [c], rest, pre, mark, _, h => by simp at h
  | k + 1, c :: d :: signs, rest, pre, mark, hs, h => by
    have hc := hs c List.mem_cons_self
    rw [List.cons_append, List.cons_append, sgo.eq_4, if_neg (by simp; (first | decide | exact Nat.le_trans (by assumption) (by decide) | lia | omega)), if_neg (by simp; (first | decide | exact Nat.le_trans (by assumption) (by decide) | lia | omega))]
    have := sgo_plain k (d :: signs) rest (pre ++ [c]) mark (fun x hx => hs x (List.mem_cons_of_mem _ hx)) (by simpa using h)
    rw [List.cons_append] at this
    rw [this]
    simp
theorem sok_plain : ∀ (k : Nat) (signs rest : List Nat), (∀ c ∈ signs, 2 ≤ c) → k < signs.length → sok (signs ++ rest) k = true
  | 0, signs, rest, _, _ => by
    cases signs ++ rest with
    | nil => rfl
    | cons a l => cases l <;> rfl
  | k + 1, [], rest, _, h => by simp at h
  | k + 1, [c], rest, _, h => by simp at h
  | k + 1, c :: d :: signs, rest, hs, h => by
    have hc := hs c List.mem_cons_self
    rw [List.cons_append, List.cons_append, sok, if_neg (by simp; (first | decide | exact Nat.le_trans (by assumption) (by decide) | lia | omega)), if_neg (by simp; (first | decide | exact Nat.le_trans (by assumption) (by decide) | lia | omega))]
    have := sok_plain k (d :: signs) rest (fun x hx => hs x (List.mem_cons_of_mem _ hx)) (by simpa using h)
    rwa [List.cons_append] at this
theorem count_plain {signs : List Nat} (hs : ∀ c ∈ signs, 2 ≤ c) : signs.count 0 = 0 := List.count_eq_zero.mpr fun h => by have := hs 0 h; (first | decide | exact Nat.le_trans (by assumption) (by decide) | lia | omega)
theorem splits_plain {col : Nat} (hc : 0 < col) : ∀ (n : Nat) (signs : List Nat), signs.length ≤ n → (∀ c ∈ signs, 2 ≤ c) → Splits col signs (chunkL [] col n signs)
  | 0, signs, h, hs => .last (.inl (by (first | decide | exact Nat.le_trans (by assumption) (by decide) | lia | omega)))
  | n + 1, signs, h, hs => by
    rw [chunkL]
    by_cases hl : signs.length ≤ col
    · rw [if_pos hl]; exact .last (.inl (by (first | decide | exact Nat.le_trans (by assumption) (by decide) | lia | omega)))
    · rw [if_neg hl]
      have hg := sgo_plain col signs [] [] [] hs (by (first | decide | exact Nat.le_trans (by assumption) (by decide) | lia | omega))
      rw [List.append_nil, List.append_nil, List.nil_append] at hg
      have hk := sok_plain col signs [] hs (by (first | decide | exact Nat.le_trans (by assumption) (by decide) | lia | omega))
      rw [List.append_nil] at hk
      have hcut := Splits.cut (max := col) (text := signs) (ps := chunkL [] col n (signs.drop col)) ?_ hk ?_
      · rw [hg] at hcut
        exact hcut
      · unfold fits
        rw [count_plain hs]
        (first | decide | exact Nat.le_trans (by assumption) (by decide) | lia | omega)
      · rw [hg]
        exact splits_plain hc n (signs.drop col) (by rw [List.length_drop]; (first | decide | exact Nat.le_trans (by assumption) (by decide) | lia | omega)) fun c h => hs c (List.mem_of_mem_drop h)
theorem wrap_one (m : Nat) (p : List Nat) : wrapM [m] p = [0, m] ++ p ++ [1] := by rw [wrapM, if_neg (by simp)]; rfl
theorem splits_mark {col m : Nat} (hc : 0 < col) (hm : 2 ≤ m) : ∀ (n : Nat) (signs : List Nat), signs.length ≤ n → (∀ c ∈ signs, 2 ≤ c) → Splits col (wrapM [m] signs) (chunkL [m] col n signs)
  | 0, signs, h, hs => .last (.inr (by
      have : signs = [] := List.length_eq_zero_iff.mp (by (first | decide | exact Nat.le_trans (by assumption) (by decide) | lia | omega))
      subst this
      rw [wrap_one]; simp [List.count_cons]; (first | decide | exact Nat.le_trans (by assumption) (by decide) | lia | omega)))
  | n + 1, signs, h, hs => by
    have hcn : ([0, m] ++ signs ++ [1]).count 0 = 1 := by
      rw [List.count_append, List.count_append, count_plain hs]
      simp [List.count_cons]; (first | decide | exact Nat.le_trans (by assumption) (by decide) | lia | omega)
    rw [chunkL]
    by_cases hl : signs.length ≤ col
    · rw [if_pos hl]
      refine .last (.inr ?_)
      rw [wrap_one, hcn]
      simp only [List.length_append, List.length_cons, List.length_nil]; (first | decide | exact Nat.le_trans (by assumption) (by decide) | lia | omega)
    · rw [if_neg hl]
      obtain ⟨k, rfl⟩ : ∃ k, col = k + 1 := ⟨col - 1, by (first | decide | exact Nat.le_trans (by assumption) (by decide) | lia | omega)⟩
      have hg : sgo (wrapM [m] signs) (k + 1) [] [] = ([0, m] ++ signs.take (k + 1), signs.drop (k + 1) ++ [1], [m]) := by
        rw [wrap_one, List.append_assoc]
        show sgo (0 :: m :: (signs ++ [1])) (k + 1) [] [] = _
        rw [sgo.eq_4, if_pos rfl, sgo_plain (k + 1) signs [1] _ _ hs (by (first | decide | exact Nat.le_trans (by assumption) (by decide) | lia | omega))]
        rfl
      have hk : sok (wrapM [m] signs) (k + 1) = true := by
        rw [wrap_one, List.append_assoc]
        show sok (0 :: m :: (signs ++ [1])) (k + 1) = true
        rw [sok, if_pos rfl]
        exact sok_plain (k + 1) signs [1] hs (by (first | decide | exact Nat.le_trans (by assumption) (by decide) | lia | omega))
      have hcut := Splits.cut (max := k + 1) (text := wrapM [m] signs) (ps := chunkL [m] (k + 1) n (signs.drop (k + 1))) ?_ hk ?_
      · rw [hg] at hcut
        have e : line1 ([0, m] ++ signs.take (k + 1), signs.drop (k + 1) ++ [1], [m]) = wrapM [m] (signs.take (k + 1)) := by rw [wrap_one, line1, if_neg (by simp)]
        rw [e] at hcut
        exact hcut
      · unfold fits
        rw [wrap_one, hcn]
        simp only [List.length_append, List.length_cons, List.length_nil]; (first | decide | exact Nat.le_trans (by assumption) (by decide) | lia | omega)
      · rw [hg]
        have e : line2 ([0, m] ++ signs.take (k + 1), signs.drop (k + 1) ++ [1], [m]) = wrapM [m] (signs.drop (k + 1)) := by rw [wrap_one, line2, if_neg (by simp)]; simp
        rw [e]
        exact splits_mark hc hm n (signs.drop (k + 1)) (by rw [List.length_drop]; (first | decide | exact Nat.le_trans (by assumption) (by decide) | lia | omega)) fun c h => hs c (List.mem_of_mem_drop h)
theorem rows_pcs (num : PyData) (mark signs : List Nat) {col : Nat} (hc : 0 < col) : rowsD num (chunkL mark col signs.length signs) = pcs num mark signs col := by
  rw [chunk_pcs num mark hc signs.length signs (Nat.le_refl _)]
  unfold pcs
  generalize (max signs.length 1 - 1) / col = q
  rw [List.range_succ_eq_map, List.map_cons, List.map_cons, List.map_map, List.map_map]
  show _ :: List.map _ (List.map _ _) = _
  rw [List.map_map]
  rfl
theorem splitsTo_side {l : LineT} (hl : LineOk l) {col : Nat} (hc : 0 < col) {a : PyData} (ha : sideP l.1 l.2.1 l.2.2 9 = [a]) : ∃ ta, a = .tuple [numD l.1, .str (S ta)] ∧ SplitsTo col (numD l.1) ta (sideP l.1 l.2.1 l.2.2 col) := by
  obtain ⟨nO, mark, signs⟩ := l
  obtain ⟨hm, hsl, hs⟩ := hl
  dsimp only at hm hsl hs ha ⊢
  cases nO with
  | none =>
    injection ha with e _
    subst e
    exact ⟨[10], rfl, .inl ⟨rfl, rfl⟩⟩
  | some i =>
    have e9 : sideP (some i) mark signs 9 = [.tuple [numD (some i), .str (S (wrapM mark signs))]] := by
      unfold sideP pcs
      rw [Nat.div_eq_of_lt (by (first | decide | exact Nat.le_trans (by assumption) (by decide) | lia | omega))]
      simp only [Nat.zero_add, List.range_one, List.map_cons, List.map_nil, pcsAt, if_pos, Nat.zero_mul, List.drop_zero]
      rw [List.take_of_length_le (by (first | decide | exact Nat.le_trans (by assumption) (by decide) | lia | omega))]
    rw [e9] at ha
    injection ha with e _
    subst e
    refine ⟨wrapM mark signs, rfl, .inr ⟨?_, chunkL mark col signs.length signs, ?_, (rows_pcs _ _ _ hc).symm, ?_, ?_⟩⟩
    · intro W A own Q q
      refine tr_int ?_
      rw [show decide ((((i + 1 : Nat) : Int)) ≠ 0) = true from decide_eq_true (by (first | decide | exact Nat.le_trans (by assumption) (by decide) | lia | omega))]
      exact q
    · rcases hm with rfl | ⟨m, rfl, hm1, hm2⟩
      · exact splits_plain hc _ signs (Nat.le_refl _) fun c h => (hs c h).1
      · exact splits_mark hc hm1 _ signs (Nat.le_refl _) fun c h => (hs c h).1
    · rw [chunk_pcs .none mark hc signs.length signs (Nat.le_refl _), List.length_map, List.length_range]
      have := Nat.div_le_self (max signs.length 1 - 1) col
      generalize (max signs.length 1 - 1) / col = q at this ⊢
      (first | decide | exact Nat.le_trans (by assumption) (by decide) | lia | omega)
    · rw [wrapM]
      split
      · (first | decide | exact Nat.le_trans (by assumption) (by decide) | lia | omega)
      · rcases hm with rfl | ⟨m, rfl, _⟩ <;> simp only [List.length_append, List.length_cons, List.length_nil] <;> (first | decide | exact Nat.le_trans (by assumption) (by decide) | lia | omega)
theorem side9 {l : LineT} (hl : LineOk l) : ∃ a, sideP l.1 l.2.1 l.2.2 9 = [a] := by
  obtain ⟨nO, mark, signs⟩ := l
  obtain ⟨hm, hsl, hs⟩ := hl
  cases nO with
  | none => exact ⟨_, rfl⟩
  | some i =>
    dsimp only at hsl ⊢
    unfold sideP pcs
    rw [Nat.div_eq_of_lt (by (first | decide | exact Nat.le_trans (by assumption) (by decide) | lia | omega))]
    exact ⟨_, rfl⟩
/-- a row as the well gives it -/
noncomputable def rowW (r : RowT) : PyData := (dueL r.flag r.l r.r 9).headD .none
theorem row9 {r : RowT} (hr : RowOk r) : ∃ a b, rowW r = .tuple [a, b, r.flag] ∧ sideP r.l.1 r.l.2.1 r.l.2.2 9 = [a] ∧ sideP r.r.1 r.r.2.1 r.r.2.2 9 = [b] := by
  obtain ⟨a, ha⟩ := side9 hr.1
  obtain ⟨b, hb⟩ := side9 hr.2.1
  refine ⟨a, b, ?_, ha, hb⟩
  unfold rowW dueL
  rw [show (if isNoneD r.flag = true then 9 else 9) = 9 by split <;> rfl, ha, hb, zT3, zT0]
  rfl
theorem due_is {r : RowT} (hr : RowOk r) {col : Nat} (hc : 0 < col) : DueR col (rowW r) (dueL r.flag r.l r.r col) := by
  obtain ⟨a, b, e, ha, hb⟩ := row9 hr
  refine ⟨a, b, r.flag, e, ?_⟩
  cases hf : isNoneD r.flag with
  | true =>
    refine .inl ⟨by revert hf; cases r.flag <;> simp [isNoneD], ?_⟩
    unfold dueL
    rw [hf, if_pos rfl, ha, hb, zT3, zT0, e]
  | false =>
    obtain ⟨ta, ea, sa⟩ := splitsTo_side hr.1 hc ha
    obtain ⟨tb, eb, sb⟩ := splitsTo_side hr.2.1 hc hb
    refine .inr ⟨rfl, _, ta, _, tb, _, _, ea, eb, sa, sb, ?_⟩
    unfold dueL
    rw [hf]
    rfl
/-! ### making a sheet -/
theorem c_init2 (hK : K01 W) (hh : A.handled = none) (hd : A.depth < recursionLimit) {x dx : Addr} {n m : Int} :
    SLC W A (.ref 44) [.ref x, .int n, .int m] ((x, .obj (instObj 113 dx)) :: (dx, .att []) :: own) (fun r o => r = .none ∧ o = (x, .obj (instObj 113 dx)) :: (dx, .att [(Str.ofString "_tabsize", V.int n), (Str.ofString "_wrapcolumn", V.int m), (Str.ofString "_linejunk", V.none), (Str.ofString "_charjunk", V.ref 29)]) :: own) := by
  refine' do_callD [Str.ofString "self", Str.ofString "tabsize", Str.ofString "wrapcolumn", Str.ofString "linejunk", Str.ofString "charjunk"] [.none, .ref 29] [V.none, V.ref 29] ?hdf ?ho ?hcd hd ?hb ?hloc ?nd ?hh8 ?c1 ?c2 ?c3 ?c4
  case ho => exact K_of hK rfl
  case hcd => rw [hK]; rfl
  case hb => intro s vs X hl; obtain ⟨_, _, _, rfl⟩ := len_3 hl; exact binds_K X rfl (K_of hK rfl) rfl rfl rfl
  case hdf => intro fz; exact .cons (.dat .none) (.cons (.val _) .nil)
  case hloc => decide +kernel
  case nd => decide +kernel
  case c1 => rfl
  case c2 => rfl
  case c3 => rfl
  case c4 => decide +kernel
  intro L
  dsimp only [lawS, nthS, fdB, fdS, clB, PySem.Challenge.pw_dm0066_01]
  simp only [List.zip_cons_cons, List.zip_nil_right, List.cons_append, List.nil_append]
  refine SXs_cons ?_
  refine SX_AssignAttr ?_
  refine SE_Name ?_ (by decide +kernel)
  refine SN_loc rfl rfl (by (with_reducible repeat first | exact List.mem_cons_self | refine List.mem_cons_of_mem _ ?_ | assumption | exact mem_mid' | exact mem_mid (by assumption))) (by with_reducible rfl) (by (with_reducible repeat first | exact List.mem_cons_self | refine List.mem_cons_of_mem _ ?_ | assumption | exact mem_mid' | exact mem_mid (by assumption))) ?_
  refine SE_Name ?_ (by decide +kernel)
  refine SN_loc rfl rfl (by (with_reducible repeat first | exact List.mem_cons_self | refine List.mem_cons_of_mem _ ?_ | assumption | exact mem_mid' | exact mem_mid (by assumption))) (by with_reducible rfl) (by (with_reducible repeat first | exact List.mem_cons_self | refine List.mem_cons_of_mem _ ?_ | assumption | exact mem_mid' | exact mem_mid (by assumption))) ?_
  with_reducible refine ⟨_, rfl, ?_⟩
  refine do_setattr (cls01 hK) (by rw [hK]; rfl) (by (with_reducible repeat first | exact List.mem_cons_self | refine List.mem_cons_of_mem _ ?_ | assumption | exact mem_mid' | exact mem_mid (by assumption))) (by (with_reducible repeat first | exact List.mem_cons_self | refine List.mem_cons_of_mem _ ?_ | assumption | exact mem_mid' | exact mem_mid (by assumption))) (by (with_reducible repeat first | exact Put.here | exact Put.new | apply Put.there)) (by (((first | dsimp only [List.map_cons, List.map_nil] | simp only [List.map_cons, List.map_nil]); decide +kernel))) (by simp) (by (with_reducible repeat first | exact Upd.here | exact Upd.mid | apply Upd.there)) ?_
  refine SXs_cons ?_
  refine SX_AssignAttr ?_
  refine SE_Name ?_ (by decide +kernel)
  refine SN_loc rfl rfl (by (with_reducible repeat first | exact List.mem_cons_self | refine List.mem_cons_of_mem _ ?_ | assumption | exact mem_mid' | exact mem_mid (by assumption))) (by with_reducible rfl) (by (with_reducible repeat first | exact List.mem_cons_self | refine List.mem_cons_of_mem _ ?_ | assumption | exact mem_mid' | exact mem_mid (by assumption))) ?_
  refine SE_Name ?_ (by decide +kernel)
  refine SN_loc rfl rfl (by (with_reducible repeat first | exact List.mem_cons_self | refine List.mem_cons_of_mem _ ?_ | assumption | exact mem_mid' | exact mem_mid (by assumption))) (by with_reducible rfl) (by (with_reducible repeat first | exact List.mem_cons_self | refine List.mem_cons_of_mem _ ?_ | assumption | exact mem_mid' | exact mem_mid (by assumption))) ?_
  with_reducible refine ⟨_, rfl, ?_⟩
  refine do_setattr (cls01 hK) (by rw [hK]; rfl) (by (with_reducible repeat first | exact List.mem_cons_self | refine List.mem_cons_of_mem _ ?_ | assumption | exact mem_mid' | exact mem_mid (by assumption))) (by (with_reducible repeat first | exact List.mem_cons_self | refine List.mem_cons_of_mem _ ?_ | assumption | exact mem_mid' | exact mem_mid (by assumption))) (by (with_reducible repeat first | exact Put.here | exact Put.new | apply Put.there)) (by (((first | dsimp only [List.map_cons, List.map_nil] | simp only [List.map_cons, List.map_nil]); decide +kernel))) (by simp) (by (with_reducible repeat first | exact Upd.here | exact Upd.mid | apply Upd.there)) ?_
  refine SXs_cons ?_
  refine SX_AssignAttr ?_
  refine SE_Name ?_ (by decide +kernel)
  refine SN_loc rfl rfl (by (with_reducible repeat first | exact List.mem_cons_self | refine List.mem_cons_of_mem _ ?_ | assumption | exact mem_mid' | exact mem_mid (by assumption))) (by with_reducible rfl) (by (with_reducible repeat first | exact List.mem_cons_self | refine List.mem_cons_of_mem _ ?_ | assumption | exact mem_mid' | exact mem_mid (by assumption))) ?_
  refine SE_Name ?_ (by decide +kernel)
  refine SN_loc rfl rfl (by (with_reducible repeat first | exact List.mem_cons_self | refine List.mem_cons_of_mem _ ?_ | assumption | exact mem_mid' | exact mem_mid (by assumption))) (by with_reducible rfl) (by (with_reducible repeat first | exact List.mem_cons_self | refine List.mem_cons_of_mem _ ?_ | assumption | exact mem_mid' | exact mem_mid (by assumption))) ?_
  with_reducible refine ⟨_, rfl, ?_⟩
  refine do_setattr (cls01 hK) (by rw [hK]; rfl) (by (with_reducible repeat first | exact List.mem_cons_self | refine List.mem_cons_of_mem _ ?_ | assumption | exact mem_mid' | exact mem_mid (by assumption))) (by (with_reducible repeat first | exact List.mem_cons_self | refine List.mem_cons_of_mem _ ?_ | assumption | exact mem_mid' | exact mem_mid (by assumption))) (by (with_reducible repeat first | exact Put.here | exact Put.new | apply Put.there)) (by (((first | dsimp only [List.map_cons, List.map_nil] | simp only [List.map_cons, List.map_nil]); decide +kernel))) (by simp) (by (with_reducible repeat first | exact Upd.here | exact Upd.mid | apply Upd.there)) ?_
  refine SXs_cons ?_
  refine SX_AssignAttr ?_
  refine SE_Name ?_ (by decide +kernel)
  refine SN_loc rfl rfl (by (with_reducible repeat first | exact List.mem_cons_self | refine List.mem_cons_of_mem _ ?_ | assumption | exact mem_mid' | exact mem_mid (by assumption))) (by with_reducible rfl) (by (with_reducible repeat first | exact List.mem_cons_self | refine List.mem_cons_of_mem _ ?_ | assumption | exact mem_mid' | exact mem_mid (by assumption))) ?_
  refine SE_Name ?_ (by decide +kernel)
  refine SN_loc rfl rfl (by (with_reducible repeat first | exact List.mem_cons_self | refine List.mem_cons_of_mem _ ?_ | assumption | exact mem_mid' | exact mem_mid (by assumption))) (by with_reducible rfl) (by (with_reducible repeat first | exact List.mem_cons_self | refine List.mem_cons_of_mem _ ?_ | assumption | exact mem_mid' | exact mem_mid (by assumption))) ?_
  with_reducible refine ⟨_, rfl, ?_⟩
  refine do_setattr (cls01 hK) (by rw [hK]; rfl) (by (with_reducible repeat first | exact List.mem_cons_self | refine List.mem_cons_of_mem _ ?_ | assumption | exact mem_mid' | exact mem_mid (by assumption))) (by (with_reducible repeat first | exact List.mem_cons_self | refine List.mem_cons_of_mem _ ?_ | assumption | exact mem_mid' | exact mem_mid (by assumption))) (by (with_reducible repeat first | exact Put.here | exact Put.new | apply Put.there)) (by (((first | dsimp only [List.map_cons, List.map_nil] | simp only [List.map_cons, List.map_nil]); decide +kernel))) (by simp) (by (with_reducible repeat first | exact Upd.here | exact Upd.mid | apply Upd.there)) ?_
  refine SXs_nil ?_
  exact ⟨_, .drop .refl, rfl, rfl⟩
theorem do_sheet2 (hK : K01 W) (hh : A.handled = none) (hd : A.depth + 1 < recursionLimit) {m : Int} {Q : V → Own → Prop} (h : ∀ x dx, Q (.ref x) ((x, .obj (instObj 113 dx)) :: (dx, .att (attC m)) :: own)) :
    SL W A RV (fun vs => call (.ref 113) vs) [.int 8, .int m] own Q :=
  do_make (cls01 hK) (by rw [hK]; rfl) (by rw [hK]; rfl) fun A' e1 e2 e3 x dx => (c_init2 hK (e1.trans hh) (by (first | decide | exact Nat.le_trans (by assumption) (by decide) | lia | omega))).mono (by rintro r o ⟨rfl, rfl⟩; exact ⟨rfl, h x dx⟩)
/-! ### reading a wrapper out -/
/-- what a wrapper gives of all that is left -/
inductive Alls (col : Nat) : List PyData → List PyData → Prop
  | nil : Alls col [] []
  | cons {r : PyData} {rows out outs : List PyData} : DueR col r out → out ≠ [] → Alls col rows outs → Alls col (r :: rows) (out ++ outs)
theorem upd_head {it : Addr} {a b : Ob} {o o' : Own} (hn : it ∉ o.map (·.1)) (u : Upd it a b ((it, a) :: o) o') : o' = (it, b) :: o := by
  cases u with
  | here => rfl
  | there u => exact absurd (List.mem_map.mpr ⟨_, u.mem, rfl⟩) hn
theorem wrap_next {fz : Heap} {s : Shared} {x dx it ga : Addr} {g n : Nat} {go o : Own} {rows pend out : List PyData} {col : Nat} {Q : Option Value → Shared → Prop} (hh : A.handled = none) (hd : A.depth < 400) (hcol : 0 < col)
    (H : Hold W fz ((ga, .gen g (GP W it x dx (n + 1) go pend)) :: (go ++ (it, .prop (LItP (rows.map V.dat))) :: o)) s) (ht : W.tk ≤ s.toks)
    (hx : (x, Ob.obj (instObj 113 dx)) ∈ o) (hdx : (dx, Ob.att (attC col)) ∈ o) (hdue : ∀ r rs, rows = r :: rs → DueR col r out)
    (hy : ∀ fz' v s' go' pend' rows' row, Keep fz fz' → Hold W fz' ((ga, .gen g (GP W it x dx n go' pend')) :: (go' ++ (it, .prop (LItP (rows'.map V.dat))) :: o)) s' → W.tk ≤ s'.toks → RV fz' (.dat row) v →
      ((pend = row :: pend' ∧ rows' = rows) ∨ (pend = [] ∧ ∃ r, rows = r :: rows' ∧ out = row :: pend')) → Q (some v) s')
    (hr : ∀ fz' s', Keep fz fz' → Hold W fz' ((ga, .gen g (· = .finished)) :: (it, .prop (LItP (rows.map V.dat))) :: o) s' → W.tk ≤ s'.toks → pend = [] → rows = [] → Q none s') : wpAny (model W.prog W.w) A (pyNext (.ref ga)) Q NoX s := by
  have hn : it ∉ o.map (·.1) := by
    have nd := H.nd
    rw [List.map_cons, List.nodup_cons, List.map_append, List.nodup_append, List.map_cons, List.nodup_cons] at nd
    exact nd.2.2.1.1
  refine gen_next (A := A) (R := fun b P o1 => ∃ go' pend' rows' row o', b = .dat row ∧ o1 = go' ++ o' ∧ Upd it (.prop (LItP (rows.map V.dat))) (.prop (LItP (rows'.map V.dat))) ((it, .prop (LItP (rows.map V.dat))) :: o) o' ∧
          ((pend = row :: pend' ∧ rows' = rows) ∨ (pend = [] ∧ ∃ r, rows = r :: rows' ∧ out = row :: pend')) ∧ P = GP W it x dx n go' pend') (S := fun o1 => pend = [] ∧ rows = [] ∧ o1 = (it, .prop (LItP (rows.map V.dat))) :: o) hh ?_ H ht ?_ ?_ ?_
  · show A.depth < 1000
    (first | decide | exact Nat.le_trans (by assumption) (by decide) | lia | omega)
  · intro gs hP s' H' t'
    exact hP A.in1 fz s' ga g _ rows col out hh (by show A.depth < 500; (first | decide | exact Nat.le_trans (by assumption) (by decide) | lia | omega)) hcol H' t' List.mem_cons_self (List.mem_cons_of_mem _ hx) (List.mem_cons_of_mem _ hdx) hdue
  · rintro v b P' o1 fz' s' k' H' t' rb ⟨go', pend', rows', row, o', rfl, rfl, u, hn', rfl⟩
    rw [upd_head hn u] at H'
    exact hy fz' v s' go' pend' rows' row k' H' t' rb hn'
  · rintro o1 fz' s' k' H' t' ⟨h1, h2, rfl⟩
    exact hr fz' s' k' H' t' h1 h2
/-- a wrapper is asked for its next -/
theorem next_wrap2 {x dx it ga : Addr} {g n : Nat} {go o : Own} {rows pend out : List PyData} {col : Nat} {Q : V → Own → Prop} (hh : A.handled = none) (hd : A.depth < 400) (hcol : 0 < col) (hperm : own.Perm ((ga, .gen g (GP W it x dx (n + 1) go pend)) :: (go ++ (it, .prop (LItP (rows.map V.dat))) :: o)))
    (hx : (x, Ob.obj (instObj 113 dx)) ∈ o) (hdx : (dx, Ob.att (attC col)) ∈ o) (hdue : ∀ r rs, rows = r :: rs → DueR col r out)
    (hy : ∀ go' pend' rows' row, ((pend = row :: pend' ∧ rows' = rows) ∨ (pend = [] ∧ ∃ r, rows = r :: rows' ∧ out = row :: pend')) → Q (.dat row) ((ga, .gen g (GP W it x dx n go' pend')) :: (go' ++ (it, .prop (LItP (rows'.map V.dat))) :: o)))
    (hr : pend = [] → rows = [] → Q .none ((ga, .gen g (· = .finished)) :: (it, .prop (LItP (rows.map V.dat))) :: o)) : SL W A RV (fun vs => call (.builtin "next") vs) [.ref ga, .none] own Q := SL2 fun fz s v w H ht r1 r2 => by
  cases r1.val_inv
  rw [r2.none_inv]
  have H1 := H.perm hperm
  have hg := H1.isGen List.mem_cons_self
  refine next_entry hg.typeIs slot_gen_next.lookup (wrap_next (A := A.in1) hh hd hcol H1 ht hx hdx hdue ?_ ?_)
  · intro fz' v s' go' pend' rows' row k' H' t' rb hn
    exact ⟨fz', _, _, k', H', rb, hy go' pend' rows' row hn⟩
  · intro fz' s' k' H' t' h1 h2
    exact ⟨fz', _, _, k', H', .dat .none, hr h1 h2⟩
theorem list_loop {x dx it ga S : Addr} {g : Nat} {col : Nat} {Q : Own → Prop} {o : Own} (hh : A.handled = none) (hd : A.depth < 400) (hcol : 0 < col) (hx : (x, Ob.obj (instObj 113 dx)) ∈ o) (hdx : (dx, Ob.att (attC col)) ∈ o) :
    ∀ (n : Nat) (rows pend outs : List PyData) (go own' : Own) (l : List PyData), Alls col rows outs → pend.length + outs.length + 1 ≤ n → l.length + pend.length + outs.length + 1 ≤ 100000 →
      own'.Perm ((ga, .gen g (GP W it x dx n go pend)) :: (go ++ (it, .prop (LItP (rows.map V.dat))) :: o)) →
      Q ((ga, .gen g (· = .finished)) :: (it, .prop (LItP [])) :: (S, .list ((l ++ pend ++ outs).map V.dat)) :: o) → XL W A S ga .none own' (l.map V.dat) Q
  | 0, rows, pend, outs, go, own', l, ha, hn, hz, hp, q => absurd hn (by (first | decide | exact Nat.le_trans (by assumption) (by decide) | lia | omega))
  | n + 1, rows, pend, outs, go, own', l, ha, hn, hz, hp, q => by
    refine XL_turn (by rw [sizeLine_eq, List.length_map]; (first | decide | exact Nat.le_trans (by assumption) (by decide) | lia | omega)) fun fz s H ht => ?_
    have hp1 : ((S, Ob.list (l.map V.dat)) :: own').Perm ((ga, .gen g (GP W it x dx (n + 1) go pend)) :: (go ++ (it, .prop (LItP (rows.map V.dat))) :: (S, .list (l.map V.dat)) :: o)) :=
      (List.Perm.cons _ hp).trans ((List.Perm.swap ..).trans (List.Perm.cons _ (List.perm_middle.symm.trans (List.Perm.append_left go (List.Perm.swap ..)))))
    obtain ⟨out, hdue, hnx⟩ : ∃ out, (∀ r rs, rows = r :: rs → DueR col r out) ∧ ∀ r rs, rows = r :: rs → ∃ outs', outs = out ++ outs' ∧ Alls col rs outs' := by
      cases ha with
      | nil => exact ⟨[], fun r rs e => (nomatch e), fun r rs e => (nomatch e)⟩
      | @cons _ _ out _ h1 h2 h3 =>
        refine ⟨out, fun r rs e => ?_, fun r rs e => ?_⟩
        · cases e; exact h1
        · cases e; exact ⟨_, rfl, h3⟩
    refine wrap_next (A := A.in1) hh hd hcol (H.perm hp1) ht (List.mem_cons_of_mem _ hx) (List.mem_cons_of_mem _ hdx) hdue ?_ ?_
    · intro fz' v s' go' pend' rows' row k' H' t' rb hc
      have hp2 : ((ga, Ob.gen g (GP W it x dx n go' pend')) :: (go' ++ (it, Ob.prop (LItP (rows'.map V.dat))) :: (S, Ob.list (l.map V.dat)) :: o)).Perm ((S, .list (l.map V.dat)) :: ((ga, .gen g (GP W it x dx n go' pend')) :: (go' ++ (it, .prop (LItP (rows'.map V.dat))) :: o))) :=
        (List.Perm.cons _ ((List.Perm.append_left go' (List.Perm.swap ..)).trans List.perm_middle)).trans (List.Perm.swap ..)
      refine ⟨fz', .dat row, _, k', H'.perm hp2, t', rb, ?_⟩
      rw [show l.map V.dat ++ [V.dat row] = (l ++ [row]).map V.dat by simp]
      rcases hc with ⟨rfl, rfl⟩ | ⟨rfl, r, rfl, rfl⟩
      · refine list_loop hh hd hcol hx hdx n rows' pend' outs go' _ (l ++ [row]) ha (by simp only [List.length_cons] at hn; (first | decide | exact Nat.le_trans (by assumption) (by decide) | lia | omega)) (by simp only [List.length_cons, List.length_append, List.length_nil] at hz ⊢; (first | decide | exact Nat.le_trans (by assumption) (by decide) | lia | omega)) (.refl _) ?_
        simpa using q
      · obtain ⟨outs', rfl, ha'⟩ := hnx r rows' rfl
        refine list_loop hh hd hcol hx hdx n rows' pend' outs' go' _ (l ++ [row]) ha' (by simp only [List.length_cons, List.length_append, List.length_nil] at hn; (first | decide | exact Nat.le_trans (by assumption) (by decide) | lia | omega)) (by simp only [List.length_cons, List.length_append, List.length_nil] at hz ⊢; (first | decide | exact Nat.le_trans (by assumption) (by decide) | lia | omega)) (.refl _) ?_
        simpa using q
    · intro fz' s' k' H' t' h1 h2
      subst h1 h2
      cases ha
      refine ⟨fz', _, k', H', t', ?_⟩
      simpa using q
/-- list(wrapper) -/
theorem list_wrap {x dx it ga : Addr} {g n : Nat} {col : Nat} {Q : V → Own → Prop} {go o : Own} {rows pend outs : List PyData} (hh : A.handled = none) (hd : A.depth < 400) (hcol : 0 < col) (hx : (x, Ob.obj (instObj 113 dx)) ∈ o) (hdx : (dx, Ob.att (attC col)) ∈ o)
    (ha : Alls col rows outs) (hn : pend.length + outs.length + 1 ≤ n) (hz : pend.length + outs.length + 1 ≤ 100000) (hp : own.Perm ((ga, .gen g (GP W it x dx n go pend)) :: (go ++ (it, .prop (LItP (rows.map V.dat))) :: o)))
    (h : ∀ S, Q (.ref S) ((ga, .gen g (· = .finished)) :: (it, .prop (LItP [])) :: (S, .list ((pend ++ outs).map V.dat)) :: o)) : SL W A RV (fun vs => call (.type "list") vs) [.ref ga] own Q :=
  call_listG (hp.mem_iff.mpr List.mem_cons_self) fun S => list_loop (A := A.in1) hh hd hcol hx hdx n rows pend outs go own [] ha hn (by simpa using hz) hp (by simpa using h S)
theorem due_ok {r : RowT} (h : RowOk r) : r.l.2.1.length ≤ 1 ∧ r.r.2.1.length ≤ 1 ∧ r.l.2.2.length ≤ 10 ∧ r.r.2.2.length ≤ 10 := by
  obtain ⟨⟨h1, h2, _⟩, ⟨h3, h4, _⟩, _⟩ := h
  have a : r.l.2.1.length ≤ 1 := by rcases h1 with h | ⟨m, h, _⟩ <;> rw [h] <;> simp
  have b : r.r.2.1.length ≤ 1 := by rcases h3 with h | ⟨m, h, _⟩ <;> rw [h] <;> simp
  exact ⟨a, b, by (first | decide | exact Nat.le_trans (by assumption) (by decide) | lia | omega), by (first | decide | exact Nat.le_trans (by assumption) (by decide) | lia | omega)⟩
theorem due_len {r : RowT} (h : RowOk r) (col : Nat) : 1 ≤ (dueL r.flag r.l r.r col).length ∧ (dueL r.flag r.l r.r col).length ≤ 11 := by
  obtain ⟨_, _, d3, d4⟩ := due_ok h
  unfold dueL
  rw [zip_pad, List.length_map, List.length_range]
  have h1 := side_len (nO := r.l.1) (mark := r.l.2.1) (col := if isNoneD r.flag then 9 else col) d3
  have h2 := side_len (nO := r.r.1) (mark := r.r.2.1) (col := if isNoneD r.flag then 9 else col) d4
  (first | decide | exact Nat.le_trans (by assumption) (by decide) | lia | omega)
theorem due_head {r : RowT} (h : RowOk r) : (dueL r.flag r.l r.r 9)[0]? = some (rowW r) := by
  have := due_len h 9
  unfold rowW
  cases e : dueL r.flag r.l r.r 9 with
  | nil => rw [e] at this; simp at this
  | cons a l => rfl
theorem SG.perm {α β : Type} {R : Heap → β → α → Prop} {t : Sem α} {own own' : Own} {Q : β → Own → Prop} (k : own.Perm own') (h : SG W A R t own' Q) : SG W A R t own Q :=
  fun fz s H ht => h fz s (H.perm k) ht
theorem perm_w (E : Own) {go o : Own} {a b : Addr × Ob} : (E ++ a :: b :: (go ++ o)).Perm (a :: (go ++ b :: (E ++ o))) :=
  List.perm_middle.trans (List.Perm.cons _ (List.perm_middle.trans ((List.Perm.cons _ (List.perm_append_comm_assoc ..)).trans List.perm_middle.symm)))
section
variable {L wt w rd co ga well x dx : Addr} {g m : Nat} {go o : Own} {ws rs cs : List V} {tq : Str} {ts : Scope} {tc : Value} {tb : List Stmt}
noncomputable abbrev locL (xs : List Int) (rows : List RowT) (co rd wt : Addr) (read : Nat) : List (Str × V) := [(Str.ofString "numbers", V.lst (xs.map PyData.int)), (Str.ofString "rows", V.lst (rows.map rowD)), (Str.ofString "columns", V.ref co), (Str.ofString "readers", V.ref rd), (Str.ofString "waiting", V.ref wt), (Str.ofString "read", V.int read)]
theorem turn_read (hK : K01 W) (hT : txtO (W.K.lookup 139) = some (tq, ts, tc, tb))
    (hA : A.handled = none) (hd : A.depth < 330) (hu : A.units < 200) {xs : List Int} {rows : List RowT} {read : Nat} {p : List PyData} {n : Int} {k c : Nat} (hk : k < 3) (hrows : rows.length ≤ 72) (hread : read < rows.length) (hrok : ∀ r ∈ rows, RowOk r)
    (hws : ws[k]? = some (.ref w)) (hrs : rs[k]? = some (.ref ga)) (hcs : cs[k / 2]? = some (.int c)) (hwl : ws.length = 3) (hrl : rs.length = 3) (hcl : cs.length = 2) (hc : 0 < c) (hc9 : c ≤ 9) (hp : p.length ≤ 11) (hpo : ∀ d ∈ p, Ok 50 d) (hdo : ∀ r ∈ rows, ∀ d ∈ dueL r.flag r.l r.r c, Ok 50 d)
    (hx : (x, Ob.obj (instObj 113 dx)) ∈ o) (hdx : (dx, Ob.att (attC c)) ∈ o) {Q : Fl → Own → Prop}
    (hQ : ∀ w' p' go' read' ws' row, ((p = row :: p' ∧ read' = read ∧ ws' = ws ∧ w' = w) ∨ (p = [] ∧ read' = read + 1 ∧ ws' = ws.set k (.ref w') ∧ ∃ r, rows[read]? = some r ∧ dueL r.flag r.l r.r c = row :: p')) →
      Q .next ((L, .ns (locL xs rows co rd wt read' ++ [(Str.ofString "x", V.int n), (Str.ofString "k", V.int k)])) :: (wt, .list ws') :: (w', .list (p'.map V.dat)) :: (rd, .list rs) :: (co, .list cs) :: (ga, .gen g (GP W well x dx m go' p')) :: (well, .prop (LItP (((rows.drop read').map rowW).map V.dat))) :: (go' ++ o))) :
    SXs W A (envX tq ts L 139 tc [(Str.ofString "sheets", L + 2), (Str.ofString "well", L + 1)]) (ifB (nthS (forB (nthS tb 8)) 1))
      ((L, .ns (locL xs rows co rd wt read ++ [(Str.ofString "x", V.int n), (Str.ofString "k", V.int k)])) :: (wt, .list ws) :: (w, .list (p.map V.dat)) :: (rd, .list rs) :: (co, .list cs) :: (ga, .gen g (GP W well x dx (m + 1) go p)) :: (well, .prop (LItP (((rows.drop read).map rowW).map V.dat))) :: (go ++ o)) Q := by
  rw [K_of (a := 139) hK rfl] at hT
  change some (_, _, _, _) = _ at hT
  cases hT
  dsimp only [lawS, fdB, fdS, clB, PySem.Challenge.pw_dm0066_01, nthS, forT, forI, forB, forP, ifT, ifB, ifE, ifP]
  (first | dsimp only [List.cons_append, List.nil_append] | simp only [List.cons_append, List.nil_append])
  have hpl : ∀ l : List V, place (k : Int) l.length = k := fun l => by unfold place; rw [if_neg (by (first | decide | exact Nat.le_trans (by assumption) (by decide) | lia | omega))]; rfl
  have hrec : recursionLimit = 1000 := rfl
  have hcline : cLine = 9900 := rfl
  refine SXs_cons ?_
  refine SX_If ?_
  refine ST_Compare ?_
  refine SE_Subscript ?_
  refine SE_Name ?_ (by decide +kernel)
  refine SN_loc rfl rfl (by (with_reducible repeat first | exact List.mem_cons_self | refine List.mem_cons_of_mem _ ?_ | assumption | exact mem_mid' | exact mem_mid (by assumption))) (by with_reducible rfl) (by (with_reducible repeat first | exact List.mem_cons_self | refine List.mem_cons_of_mem _ ?_ | assumption | exact mem_mid' | exact mem_mid (by assumption))) ?_
  refine SE_Name ?_ (by decide +kernel)
  refine SN_loc rfl rfl (by (with_reducible repeat first | exact List.mem_cons_self | refine List.mem_cons_of_mem _ ?_ | assumption | exact mem_mid' | exact mem_mid (by assumption))) (by with_reducible rfl) (by (with_reducible repeat first | exact List.mem_cons_self | refine List.mem_cons_of_mem _ ?_ | assumption | exact mem_mid' | exact mem_mid (by assumption))) ?_
  refine sub_own (d := .ref w) (by (with_reducible repeat first | exact List.mem_cons_self | refine List.mem_cons_of_mem _ ?_ | assumption | exact mem_mid' | exact mem_mid (by assumption))) (by (first | decide | exact Nat.le_trans (by assumption) (by decide) | lia | omega)) (by (first | decide | exact Nat.le_trans (by assumption) (by decide) | lia | omega)) (by rw [sizeLine_eq]; (first | decide | exact Nat.le_trans (by assumption) (by decide) | lia | omega)) (by rw [hpl]; exact hws) ?_
  refine SE_ListF ?_
  refine SEs_nil ?_
  with_reducible refine ⟨_, by with_reducible ((first | exact AllDat.map _ | repeat first | exact AllDat.nil | with_reducible apply AllDat.cons)), by ((rw [sizeLine_eq]; simp)), ?_⟩
  refine cmp_eqON (by (with_reducible repeat first | exact List.mem_cons_self | refine List.mem_cons_of_mem _ ?_ | assumption | exact mem_mid' | exact mem_mid (by assumption))) ((ok_list hpo).mono (by (first | decide | exact Nat.le_trans (by assumption) (by decide) | lia | omega))) (by (first | decide | exact Nat.le_trans (by assumption) (by decide) | lia | omega)) ?_
  with_reducible refine tr_bool ?_
  obtain ⟨r, hr⟩ : ∃ r, rows[read]? = some r := ⟨_, List.getElem?_eq_getElem hread⟩
  have hro := hrok r (List.mem_of_getElem? hr)
  have hdr : rows.drop read = r :: rows.drop (read + 1) := by rw [List.drop_eq_getElem_cons hread]; congr 1; rw [List.getElem?_eq_getElem hread] at hr; exact Option.some.inj hr
  rcases p with _ | ⟨row, p⟩
  · rw [show decide (([] : List PyData) = []) = true from rfl]
    obtain ⟨d1, d2, d3, d4⟩ := due_ok hro
    with_reducible refine ite_tt' ?_
    refine SXs_cons ?_
    refine SX_AssignSub ?_
    refine SE_Call ?_
    refine SE_Name ?_ (by decide +kernel)
    refine SN_global rfl rfl rfl (nsIn_of (by assumption) rfl) ?_
    with_reducible refine ⟨_, rfl, ?_⟩
    refine SEs_cons ?_
    refine SE_Subscript ?_
    refine SE_Name ?_ (by decide +kernel)
    refine SN_loc rfl rfl (by (with_reducible repeat first | exact List.mem_cons_self | refine List.mem_cons_of_mem _ ?_ | assumption | exact mem_mid' | exact mem_mid (by assumption))) (by with_reducible rfl) (by (with_reducible repeat first | exact List.mem_cons_self | refine List.mem_cons_of_mem _ ?_ | assumption | exact mem_mid' | exact mem_mid (by assumption))) ?_
    refine SE_Name ?_ (by decide +kernel)
    refine SN_loc rfl rfl (by (with_reducible repeat first | exact List.mem_cons_self | refine List.mem_cons_of_mem _ ?_ | assumption | exact mem_mid' | exact mem_mid (by assumption))) (by with_reducible rfl) (by (with_reducible repeat first | exact List.mem_cons_self | refine List.mem_cons_of_mem _ ?_ | assumption | exact mem_mid' | exact mem_mid (by assumption))) ?_
    refine sub_lst (d := rowD r) (by rw [List.length_map]; (first | decide | exact Nat.le_trans (by assumption) (by decide) | lia | omega)) (by rw [List.length_map]; (first | decide | exact Nat.le_trans (by assumption) (by decide) | lia | omega)) (by rw [sizeLine_eq, List.length_map]; (first | decide | exact Nat.le_trans (by assumption) (by decide) | lia | omega)) (by unfold place; rw [if_neg (by (first | decide | exact Nat.le_trans (by assumption) (by decide) | lia | omega)), Int.toNat_natCast, List.getElem?_map, hr]; rfl) ?_
    refine SEs_cons ?_
    refine SE_Subscript ?_
    refine SE_Name ?_ (by decide +kernel)
    refine SN_loc rfl rfl (by (with_reducible repeat first | exact List.mem_cons_self | refine List.mem_cons_of_mem _ ?_ | assumption | exact mem_mid' | exact mem_mid (by assumption))) (by with_reducible rfl) (by (with_reducible repeat first | exact List.mem_cons_self | refine List.mem_cons_of_mem _ ?_ | assumption | exact mem_mid' | exact mem_mid (by assumption))) ?_
    refine SE_BinOp ?_
    refine SE_Name ?_ (by decide +kernel)
    refine SN_loc rfl rfl (by (with_reducible repeat first | exact List.mem_cons_self | refine List.mem_cons_of_mem _ ?_ | assumption | exact mem_mid' | exact mem_mid (by assumption))) (by with_reducible rfl) (by (with_reducible repeat first | exact List.mem_cons_self | refine List.mem_cons_of_mem _ ?_ | assumption | exact mem_mid' | exact mem_mid (by assumption))) ?_
    refine SE_int ?_
    refine op_div (by decide) (by decide) ?_
    refine sub_own (d := .int c) (by (with_reducible repeat first | exact List.mem_cons_self | refine List.mem_cons_of_mem _ ?_ | assumption | exact mem_mid' | exact mem_mid (by assumption))) (by (first | decide | exact Nat.le_trans (by assumption) (by decide) | lia | omega)) (by (first | decide | exact Nat.le_trans (by assumption) (by decide) | lia | omega)) (by rw [sizeLine_eq]; (first | decide | exact Nat.le_trans (by assumption) (by decide) | lia | omega)) (by rw [show (k : Int) / 2 = ((k / 2 : Nat) : Int) by (first | decide | exact Nat.le_trans (by assumption) (by decide) | lia | omega)]; unfold place; rw [if_neg (by (first | decide | exact Nat.le_trans (by assumption) (by decide) | lia | omega)), Int.toNat_natCast]; exact hcs) ?_
    refine SEs_nil ?_
    refine ⟨kp_K (by rw [hK]; rfl), SLC.call ((c_due hK hA (by (first | decide | exact Nat.le_trans (by assumption) (by decide) | lia | omega)) (by (first | decide | exact Nat.le_trans (by assumption) (by decide) | lia | omega)) r.l r.r r.flag d1 d2 d3 d4 c hc (by (first | decide | exact Nat.le_trans (by assumption) (by decide) | lia | omega))).mono ?_)⟩
    rintro v o ⟨w', rfl, rfl⟩
    refine SE_Name ?_ (by decide +kernel)
    refine SN_loc rfl rfl (by (with_reducible repeat first | exact List.mem_cons_self | refine List.mem_cons_of_mem _ ?_ | assumption | exact mem_mid' | exact mem_mid (by assumption))) (by with_reducible rfl) (by (with_reducible repeat first | exact List.mem_cons_self | refine List.mem_cons_of_mem _ ?_ | assumption | exact mem_mid' | exact mem_mid (by assumption))) ?_
    refine SE_Name ?_ (by decide +kernel)
    refine SN_loc rfl rfl (by (with_reducible repeat first | exact List.mem_cons_self | refine List.mem_cons_of_mem _ ?_ | assumption | exact mem_mid' | exact mem_mid (by assumption))) (by with_reducible rfl) (by (with_reducible repeat first | exact List.mem_cons_self | refine List.mem_cons_of_mem _ ?_ | assumption | exact mem_mid' | exact mem_mid (by assumption))) ?_
    with_reducible refine ⟨_, rfl, ?_⟩
    refine set_own (l := ws) (by (first | decide | exact Nat.le_trans (by assumption) (by decide) | lia | omega)) (by (first | decide | exact Nat.le_trans (by assumption) (by decide) | lia | omega)) (by rw [sizeLine_eq]; (first | decide | exact Nat.le_trans (by assumption) (by decide) | lia | omega)) (by (with_reducible repeat first | exact Upd.here | exact Upd.mid | apply Upd.there)) ?_
    rw [Int.toNat_natCast]
    refine SXs_cons ?_
    refine SX_Aug ?_
    refine SN_loc rfl rfl (by (with_reducible repeat first | exact List.mem_cons_self | refine List.mem_cons_of_mem _ ?_ | assumption | exact mem_mid' | exact mem_mid (by assumption))) (by with_reducible rfl) (by (with_reducible repeat first | exact List.mem_cons_self | refine List.mem_cons_of_mem _ ?_ | assumption | exact mem_mid' | exact mem_mid (by assumption))) ?_
    refine SE_int ?_
    with_reducible refine op_iadd ?_
    refine SS_loc rfl rfl (by (with_reducible repeat first | exact List.mem_cons_self | refine List.mem_cons_of_mem _ ?_ | assumption | exact mem_mid' | exact mem_mid (by assumption))) (by with_reducible rfl) (by (with_reducible repeat first | exact Put.here | exact Put.new | apply Put.there)) (by (((first | dsimp only [List.map_cons, List.map_nil] | simp only [List.map_cons, List.map_nil]); decide +kernel))) (by (with_reducible repeat first | exact Upd.here | exact Upd.mid | apply Upd.there)) ?_
    refine SXs_nil ?_
    refine SXs_cons ?_
    refine SX_If ?_
    refine ST_Compare ?_
    refine SE_Call ?_
    refine SE_Name ?_ (by decide +kernel)
    refine SN_builtin rfl rfl rfl rfl (nsIn_of (by assumption) rfl) rfl (by decide +kernel) ?_
    with_reducible refine ⟨_, rfl, ?_⟩
    refine SEs_cons ?_
    refine SE_Subscript ?_
    refine SE_Name ?_ (by decide +kernel)
    refine SN_loc rfl rfl (by (with_reducible repeat first | exact List.mem_cons_self | refine List.mem_cons_of_mem _ ?_ | assumption | exact mem_mid' | exact mem_mid (by assumption))) (by with_reducible rfl) (by (with_reducible repeat first | exact List.mem_cons_self | refine List.mem_cons_of_mem _ ?_ | assumption | exact mem_mid' | exact mem_mid (by assumption))) ?_
    refine SE_Name ?_ (by decide +kernel)
    refine SN_loc rfl rfl (by (with_reducible repeat first | exact List.mem_cons_self | refine List.mem_cons_of_mem _ ?_ | assumption | exact mem_mid' | exact mem_mid (by assumption))) (by with_reducible rfl) (by (with_reducible repeat first | exact List.mem_cons_self | refine List.mem_cons_of_mem _ ?_ | assumption | exact mem_mid' | exact mem_mid (by assumption))) ?_
    refine sub_own (d := .ref ga) (by (with_reducible repeat first | exact List.mem_cons_self | refine List.mem_cons_of_mem _ ?_ | assumption | exact mem_mid' | exact mem_mid (by assumption))) (by (first | decide | exact Nat.le_trans (by assumption) (by decide) | lia | omega)) (by (first | decide | exact Nat.le_trans (by assumption) (by decide) | lia | omega)) (by rw [sizeLine_eq]; (first | decide | exact Nat.le_trans (by assumption) (by decide) | lia | omega)) (by rw [hpl]; exact hrs) ?_
    refine SEs_cons ?_
    refine SE_none ?_
    refine SEs_nil ?_
    with_reducible refine ⟨kp_builtin, ?_⟩
    rw [show ((read : Nat) : Int) + 1 = ((read + 1 : Nat) : Int) from rfl]
    have hdw : ∀ r' rs', (rows.drop read).map rowW = r' :: rs' → DueR c r' (dueL r.flag r.l r.r c) := by
      intro r' rs' e
      rw [hdr, List.map_cons] at e
      cases e
      exact due_is hro hc
    refine next_wrap2 (col := c) (out := dueL r.flag r.l r.r c) hA (by (first | decide | exact Nat.le_trans (by assumption) (by decide) | lia | omega)) hc (perm_w [(w', Ob.list ((dueL r.flag r.l r.r c).map V.dat)), (L, Ob.ns [(Str.ofString "numbers", V.lst (xs.map PyData.int)), (Str.ofString "rows", V.lst (rows.map rowD)), (Str.ofString "columns", V.ref co), (Str.ofString "readers", V.ref rd), (Str.ofString "waiting", V.ref wt), (Str.ofString "read", V.int ((read + 1 : Nat) : Int)), (Str.ofString "x", V.int n), (Str.ofString "k", V.int k)]), (wt, Ob.list (ws.set k (.ref w'))), (w, Ob.list (([] : List PyData).map V.dat)), (rd, Ob.list rs), (co, Ob.list cs)]) (by simp [hx]) (by simp [hdx]) hdw ?_ ?_
    · intro go' pend' rows' row' hcs'
      rcases hcs' with ⟨e1, _⟩ | ⟨_, r', e2, e3⟩
      · cases e1
      · rw [hdr, List.map_cons] at e2
        injection e2 with e4 e5
        subst e5
        have dl := due_len hro c
        have hdo' := hdo r (List.mem_of_getElem? hr)
        refine SG.perm (perm_w _).symm ?_
        rw [e3] at dl hdo' ⊢
        simp only [List.cons_append, List.nil_append, List.map_cons]
        refine SG.perm ((List.Perm.swap ..).trans (List.Perm.cons _ (List.Perm.swap ..))) (SG.wk (.keep .refl (.keep .refl (.keep .refl (.drop .refl)))) ?_)
        refine SE_Meth ?_
        refine SE_Subscript ?_
        refine SE_Name ?_ (by decide +kernel)
        refine SN_loc rfl rfl (by (with_reducible repeat first | exact List.mem_cons_self | refine List.mem_cons_of_mem _ ?_ | assumption | exact mem_mid' | exact mem_mid (by assumption))) (by with_reducible rfl) (by (with_reducible repeat first | exact List.mem_cons_self | refine List.mem_cons_of_mem _ ?_ | assumption | exact mem_mid' | exact mem_mid (by assumption))) ?_
        refine SE_Name ?_ (by decide +kernel)
        refine SN_loc rfl rfl (by (with_reducible repeat first | exact List.mem_cons_self | refine List.mem_cons_of_mem _ ?_ | assumption | exact mem_mid' | exact mem_mid (by assumption))) (by with_reducible rfl) (by (with_reducible repeat first | exact List.mem_cons_self | refine List.mem_cons_of_mem _ ?_ | assumption | exact mem_mid' | exact mem_mid (by assumption))) ?_
        refine sub_own (d := .ref w') (by (with_reducible repeat first | exact List.mem_cons_self | refine List.mem_cons_of_mem _ ?_ | assumption | exact mem_mid' | exact mem_mid (by assumption))) (by (first | decide | exact Nat.le_trans (by assumption) (by decide) | lia | omega)) (by rw [List.length_set]; (first | decide | exact Nat.le_trans (by assumption) (by decide) | lia | omega)) (by rw [sizeLine_eq, List.length_set]; (first | decide | exact Nat.le_trans (by assumption) (by decide) | lia | omega)) (by rw [hpl, List.getElem?_set_self (by (first | decide | exact Nat.le_trans (by assumption) (by decide) | lia | omega))]) ?_
        refine mth_pop (by (with_reducible repeat first | exact List.mem_cons_self | refine List.mem_cons_of_mem _ ?_ | assumption | exact mem_mid' | exact mem_mid (by assumption))) ?_
        refine SEs_cons ?_
        refine SE_int ?_
        refine SEs_nil ?_
        with_reducible refine ⟨kp_builtin, ?_⟩
        refine call_pop0 (by (with_reducible repeat first | exact Upd.here | exact Upd.mid | apply Upd.there)) (by rw [sizeLine_eq, List.length_map]; simp only [List.length_cons] at dl; (first | decide | exact Nat.le_trans (by assumption) (by decide) | lia | omega)) ?_
        refine cmp_neR rfl ((hdo' _ List.mem_cons_self).mono (by (first | decide | exact Nat.le_trans (by assumption) (by decide) | lia | omega))) (by (first | decide | exact Nat.le_trans (by assumption) (by decide) | lia | omega)) ?_
        with_reducible refine tr_bool ?_
        with_reducible refine ite_ff' ?_
        refine SXs_nil ?_
        refine SXs_nil ?_
        exact hQ w' pend' go' (read + 1) (ws.set k (.ref w')) row' (.inr ⟨rfl, rfl, rfl, r, hr, e3⟩)
    · intro _ e; rw [hdr] at e; cases e
  · rw [show decide ((row :: p : List PyData) = []) = false from rfl]
    with_reducible refine ite_ff' ?_
    refine SXs_nil ?_
    refine SXs_cons ?_
    refine SX_If ?_
    refine ST_Compare ?_
    refine SE_Call ?_
    refine SE_Name ?_ (by decide +kernel)
    refine SN_builtin rfl rfl rfl rfl (nsIn_of (by assumption) rfl) rfl (by decide +kernel) ?_
    with_reducible refine ⟨_, rfl, ?_⟩
    refine SEs_cons ?_
    refine SE_Subscript ?_
    refine SE_Name ?_ (by decide +kernel)
    refine SN_loc rfl rfl (by (with_reducible repeat first | exact List.mem_cons_self | refine List.mem_cons_of_mem _ ?_ | assumption | exact mem_mid' | exact mem_mid (by assumption))) (by with_reducible rfl) (by (with_reducible repeat first | exact List.mem_cons_self | refine List.mem_cons_of_mem _ ?_ | assumption | exact mem_mid' | exact mem_mid (by assumption))) ?_
    refine SE_Name ?_ (by decide +kernel)
    refine SN_loc rfl rfl (by (with_reducible repeat first | exact List.mem_cons_self | refine List.mem_cons_of_mem _ ?_ | assumption | exact mem_mid' | exact mem_mid (by assumption))) (by with_reducible rfl) (by (with_reducible repeat first | exact List.mem_cons_self | refine List.mem_cons_of_mem _ ?_ | assumption | exact mem_mid' | exact mem_mid (by assumption))) ?_
    refine sub_own (d := .ref ga) (by (with_reducible repeat first | exact List.mem_cons_self | refine List.mem_cons_of_mem _ ?_ | assumption | exact mem_mid' | exact mem_mid (by assumption))) (by (first | decide | exact Nat.le_trans (by assumption) (by decide) | lia | omega)) (by (first | decide | exact Nat.le_trans (by assumption) (by decide) | lia | omega)) (by rw [sizeLine_eq]; (first | decide | exact Nat.le_trans (by assumption) (by decide) | lia | omega)) (by rw [hpl]; exact hrs) ?_
    refine SEs_cons ?_
    refine SE_none ?_
    refine SEs_nil ?_
    with_reducible refine ⟨kp_builtin, ?_⟩
    have hdw : ∀ r' rs', (rows.drop read).map rowW = r' :: rs' → DueR c r' (dueL r.flag r.l r.r c) := by
      intro r' rs' e
      rw [hdr, List.map_cons] at e
      cases e
      exact due_is hro hc
    refine next_wrap2 (col := c) (out := dueL r.flag r.l r.r c) hA (by (first | decide | exact Nat.le_trans (by assumption) (by decide) | lia | omega)) hc (perm_w [(L, Ob.ns [(Str.ofString "numbers", V.lst (xs.map PyData.int)), (Str.ofString "rows", V.lst (rows.map rowD)), (Str.ofString "columns", V.ref co), (Str.ofString "readers", V.ref rd), (Str.ofString "waiting", V.ref wt), (Str.ofString "read", V.int read), (Str.ofString "x", V.int n), (Str.ofString "k", V.int k)]), (wt, Ob.list ws), (w, Ob.list ((row :: p).map V.dat)), (rd, Ob.list rs), (co, Ob.list cs)]) (by simp [hx]) (by simp [hdx]) hdw ?_ ?_
    · intro go' pend' rows' row' hcs'
      rcases hcs' with ⟨e1, rfl⟩ | ⟨e1, _⟩
      · cases e1
        refine SG.perm (perm_w _).symm ?_
        simp only [List.cons_append, List.nil_append, List.map_cons]
        refine SE_Meth ?_
        refine SE_Subscript ?_
        refine SE_Name ?_ (by decide +kernel)
        refine SN_loc rfl rfl (by (with_reducible repeat first | exact List.mem_cons_self | refine List.mem_cons_of_mem _ ?_ | assumption | exact mem_mid' | exact mem_mid (by assumption))) (by with_reducible rfl) (by (with_reducible repeat first | exact List.mem_cons_self | refine List.mem_cons_of_mem _ ?_ | assumption | exact mem_mid' | exact mem_mid (by assumption))) ?_
        refine SE_Name ?_ (by decide +kernel)
        refine SN_loc rfl rfl (by (with_reducible repeat first | exact List.mem_cons_self | refine List.mem_cons_of_mem _ ?_ | assumption | exact mem_mid' | exact mem_mid (by assumption))) (by with_reducible rfl) (by (with_reducible repeat first | exact List.mem_cons_self | refine List.mem_cons_of_mem _ ?_ | assumption | exact mem_mid' | exact mem_mid (by assumption))) ?_
        refine sub_own (d := .ref w) (by (with_reducible repeat first | exact List.mem_cons_self | refine List.mem_cons_of_mem _ ?_ | assumption | exact mem_mid' | exact mem_mid (by assumption))) (by (first | decide | exact Nat.le_trans (by assumption) (by decide) | lia | omega)) (by (first | decide | exact Nat.le_trans (by assumption) (by decide) | lia | omega)) (by rw [sizeLine_eq]; (first | decide | exact Nat.le_trans (by assumption) (by decide) | lia | omega)) (by rw [hpl]; exact hws) ?_
        refine mth_pop (by (with_reducible repeat first | exact List.mem_cons_self | refine List.mem_cons_of_mem _ ?_ | assumption | exact mem_mid' | exact mem_mid (by assumption))) ?_
        refine SEs_cons ?_
        refine SE_int ?_
        refine SEs_nil ?_
        with_reducible refine ⟨kp_builtin, ?_⟩
        refine call_pop0 (by (with_reducible repeat first | exact Upd.here | exact Upd.mid | apply Upd.there)) (by rw [sizeLine_eq, List.length_map]; simp only [List.length_cons] at hp; (first | decide | exact Nat.le_trans (by assumption) (by decide) | lia | omega)) ?_
        refine cmp_neR rfl ((hpo _ List.mem_cons_self).mono (by (first | decide | exact Nat.le_trans (by assumption) (by decide) | lia | omega))) (by (first | decide | exact Nat.le_trans (by assumption) (by decide) | lia | omega)) ?_
        with_reducible refine tr_bool ?_
        with_reducible refine ite_ff' ?_
        refine SXs_nil ?_
        refine SXs_nil ?_
        exact hQ w p go' read ws row (.inl ⟨rfl, rfl, rfl, rfl⟩)
      · cases e1
    · intro e; cases e
end
section
variable {L wt rd co well D x0 x1 d0 d1 : Addr} {o : Own} {tq : Str} {ts : Scope} {tc : Value} {tb : List Stmt}
theorem turn_pull (hK : K01 W) (hT : txtO (W.K.lookup 139) = some (tq, ts, tc, tb))
    (hA : A.handled = none) (hd : A.depth < 330) (hu : A.units < 200) {xs : List Int} {rows : List RowT} {read : Nat} {n : Int} {k : Nat} (hrows : rows.length ≤ 72) (hread : read < rows.length) (hrok : ∀ r ∈ rows, RowOk r)
    (hdo : ∀ r ∈ rows, ∀ d ∈ dueL r.flag r.l r.r 9, Ok 50 d) {Q : Fl → Own → Prop}
    (hQ : ∀ E l, Q .next ((E, .list l) :: (L, .ns (locL xs rows co rd wt (read + 1) ++ [(Str.ofString "x", V.int n), (Str.ofString "k", V.int k)])) :: (L + 1, .cell (some (.ref well))) :: (well, .prop (LItP (((rows.drop (read + 1)).map rowW).map V.dat))) :: o)) :
    SXs W A (envX tq ts L 139 tc [(Str.ofString "sheets", L + 2), (Str.ofString "well", L + 1)]) (ifE (nthS (ifE (nthS (forB (nthS tb 8)) 1)) 0))
      ((L, .ns (locL xs rows co rd wt read ++ [(Str.ofString "x", V.int n), (Str.ofString "k", V.int k)])) :: (L + 1, .cell (some (.ref well))) :: (well, .prop (LItP (((rows.drop read).map rowW).map V.dat))) :: o) Q := by
  rw [K_of (a := 139) hK rfl] at hT
  change some (_, _, _, _) = _ at hT
  cases hT
  dsimp only [lawS, fdB, fdS, clB, PySem.Challenge.pw_dm0066_01, nthS, forT, forI, forB, forP, ifT, ifB, ifE, ifP]
  obtain ⟨r, hr⟩ : ∃ r, rows[read]? = some r := ⟨_, List.getElem?_eq_getElem hread⟩
  have hro := hrok r (List.mem_of_getElem? hr)
  have hdr : rows.drop read = r :: rows.drop (read + 1) := by rw [List.drop_eq_getElem_cons hread]; congr 1; rw [List.getElem?_eq_getElem hread] at hr; exact Option.some.inj hr
  have hrec : recursionLimit = 1000 := rfl
  have hcline : cLine = 9900 := rfl
  obtain ⟨e1, e2, e3, e4⟩ := due_ok hro
  have dl := due_len hro 9
  rw [hdr]
  simp only [List.cons_append, List.nil_append, List.map_cons]
  refine SXs_cons ?_
  refine SX_If ?_
  refine ST_Compare ?_
  refine SE_Call ?_
  refine SE_Name ?_ (by decide +kernel)
  refine SN_builtin rfl rfl rfl rfl (nsIn_of (by assumption) rfl) rfl (by decide +kernel) ?_
  with_reducible refine ⟨_, rfl, ?_⟩
  refine SEs_cons ?_
  refine SE_Name ?_ (by decide +kernel)
  refine SN_cell rfl rfl rfl (by (with_reducible repeat first | exact List.mem_cons_self | refine List.mem_cons_of_mem _ ?_ | assumption | exact mem_mid' | exact mem_mid (by assumption))) ?_
  refine SEs_cons ?_
  refine SE_none ?_
  refine SEs_nil ?_
  with_reducible refine ⟨kp_builtin, ?_⟩
  refine call_next_lit (by (with_reducible repeat first | exact Upd.here | exact Upd.mid | apply Upd.there)) ?_
  refine SE_Subscript ?_
  refine SE_Call ?_
  refine SE_Name ?_ (by decide +kernel)
  refine SN_global rfl rfl rfl (nsIn_of (by assumption) rfl) ?_
  with_reducible refine ⟨_, rfl, ?_⟩
  refine SEs_cons ?_
  refine SE_Subscript ?_
  refine SE_Name ?_ (by decide +kernel)
  refine SN_loc rfl rfl (by (with_reducible repeat first | exact List.mem_cons_self | refine List.mem_cons_of_mem _ ?_ | assumption | exact mem_mid' | exact mem_mid (by assumption))) (by with_reducible rfl) (by (with_reducible repeat first | exact List.mem_cons_self | refine List.mem_cons_of_mem _ ?_ | assumption | exact mem_mid' | exact mem_mid (by assumption))) ?_
  refine SE_Name ?_ (by decide +kernel)
  refine SN_loc rfl rfl (by (with_reducible repeat first | exact List.mem_cons_self | refine List.mem_cons_of_mem _ ?_ | assumption | exact mem_mid' | exact mem_mid (by assumption))) (by with_reducible rfl) (by (with_reducible repeat first | exact List.mem_cons_self | refine List.mem_cons_of_mem _ ?_ | assumption | exact mem_mid' | exact mem_mid (by assumption))) ?_
  refine sub_lst (d := rowD r) (by rw [List.length_map]; (first | decide | exact Nat.le_trans (by assumption) (by decide) | lia | omega)) (by rw [List.length_map]; (first | decide | exact Nat.le_trans (by assumption) (by decide) | lia | omega)) (by rw [sizeLine_eq, List.length_map]; (first | decide | exact Nat.le_trans (by assumption) (by decide) | lia | omega)) (by unfold place; rw [if_neg (by (first | decide | exact Nat.le_trans (by assumption) (by decide) | lia | omega)), Int.toNat_natCast, List.getElem?_map, hr]; rfl) ?_
  refine SEs_cons ?_
  refine SE_int ?_
  refine SEs_nil ?_
  refine ⟨kp_K (by rw [hK]; rfl), SLC.call ((c_due hK hA (by (first | decide | exact Nat.le_trans (by assumption) (by decide) | lia | omega)) (by (first | decide | exact Nat.le_trans (by assumption) (by decide) | lia | omega)) r.l r.r r.flag e1 e2 e3 e4 9 (by (first | decide | exact Nat.le_trans (by assumption) (by decide) | lia | omega)) (by (first | decide | exact Nat.le_trans (by assumption) (by decide) | lia | omega))).mono ?_)⟩
  rintro v o ⟨E, rfl, rfl⟩
  refine SE_int ?_
  refine sub_own (d := .dat (rowW r)) (by (with_reducible repeat first | exact List.mem_cons_self | refine List.mem_cons_of_mem _ ?_ | assumption | exact mem_mid' | exact mem_mid (by assumption))) (by (first | decide | exact Nat.le_trans (by assumption) (by decide) | lia | omega)) (by rw [List.length_map]; (first | decide | exact Nat.le_trans (by assumption) (by decide) | lia | omega)) (by rw [sizeLine_eq, List.length_map]; (first | decide | exact Nat.le_trans (by assumption) (by decide) | lia | omega)) (by rw [show place 0 _ = 0 from rfl, List.getElem?_map, due_head hro]; rfl) ?_
  refine cmp_neR rfl ((hdo r (List.mem_of_getElem? hr) _ (List.mem_of_getElem? (due_head hro))).mono (by (first | decide | exact Nat.le_trans (by assumption) (by decide) | lia | omega))) (by (first | decide | exact Nat.le_trans (by assumption) (by decide) | lia | omega)) ?_
  with_reducible refine tr_bool ?_
  with_reducible refine ite_ff' ?_
  refine SXs_nil ?_
  refine SXs_cons ?_
  refine SX_Aug ?_
  refine SN_loc rfl rfl (by (with_reducible repeat first | exact List.mem_cons_self | refine List.mem_cons_of_mem _ ?_ | assumption | exact mem_mid' | exact mem_mid (by assumption))) (by with_reducible rfl) (by (with_reducible repeat first | exact List.mem_cons_self | refine List.mem_cons_of_mem _ ?_ | assumption | exact mem_mid' | exact mem_mid (by assumption))) ?_
  refine SE_int ?_
  with_reducible refine op_iadd ?_
  refine SS_loc rfl rfl (by (with_reducible repeat first | exact List.mem_cons_self | refine List.mem_cons_of_mem _ ?_ | assumption | exact mem_mid' | exact mem_mid (by assumption))) (by with_reducible rfl) (by (with_reducible repeat first | exact Put.here | exact Put.new | apply Put.there)) (by (((first | dsimp only [List.map_cons, List.map_nil] | simp only [List.map_cons, List.map_nil]); decide +kernel))) (by (with_reducible repeat first | exact Upd.here | exact Upd.mid | apply Upd.there)) ?_
  refine SXs_nil ?_
  exact hQ E _
theorem turn_col (hK : K01 W) (hT : txtO (W.K.lookup 139) = some (tq, ts, tc, tb))
    (hA : A.handled = none) (hd : A.depth < 330) (hu : A.units < 200) {xs : List Int} {rows : List RowT} {read : Nat} {n : Int} {k c0 c1 : Nat} {Q : Fl → Own → Prop}
    (hQ : ∀ c : Nat, 1 ≤ c → c ≤ 4 → (Q .next ((L, .ns (locL xs rows co rd wt read ++ [(Str.ofString "x", V.int n), (Str.ofString "k", V.int k)])) :: (co, .list [.int c, .int c1]) :: (L + 2, .cell (some (.ref D))) :: (D, .list [.ref x0, .ref x1]) :: (x0, .obj (instObj 113 d0)) :: (d0, .att (attC c)) :: (x1, .obj (instObj 113 d1)) :: (d1, .att (attC c1)) :: o) ∧
      Q .next ((L, .ns (locL xs rows co rd wt read ++ [(Str.ofString "x", V.int n), (Str.ofString "k", V.int k)])) :: (co, .list [.int c0, .int c]) :: (L + 2, .cell (some (.ref D))) :: (D, .list [.ref x0, .ref x1]) :: (x0, .obj (instObj 113 d0)) :: (d0, .att (attC c0)) :: (x1, .obj (instObj 113 d1)) :: (d1, .att (attC c)) :: o))) :
    SXs W A (envX tq ts L 139 tc [(Str.ofString "sheets", L + 2), (Str.ofString "well", L + 1)]) (ifB (nthS (ifE (nthS (forB (nthS tb 8)) 1)) 0))
      ((L, .ns (locL xs rows co rd wt read ++ [(Str.ofString "x", V.int n), (Str.ofString "k", V.int k)])) :: (co, .list [.int c0, .int c1]) :: (L + 2, .cell (some (.ref D))) :: (D, .list [.ref x0, .ref x1]) :: (x0, .obj (instObj 113 d0)) :: (d0, .att (attC c0)) :: (x1, .obj (instObj 113 d1)) :: (d1, .att (attC c1)) :: o) Q := by
  rw [K_of (a := 139) hK rfl] at hT
  change some (_, _, _, _) = _ at hT
  cases hT
  dsimp only [lawS, fdB, fdS, clB, PySem.Challenge.pw_dm0066_01, nthS, forT, forI, forB, forP, ifT, ifB, ifE, ifP]
  obtain ⟨c, hc⟩ : ∃ c : Nat, 1 + n / 10 % 4 = (c : Int) := ⟨(1 + n / 10 % 4).toNat, by (first | decide | exact Nat.le_trans (by assumption) (by decide) | lia | omega)⟩
  have hq := hQ c (by (first | decide | exact Nat.le_trans (by assumption) (by decide) | lia | omega)) (by (first | decide | exact Nat.le_trans (by assumption) (by decide) | lia | omega))
  (first | dsimp only [List.cons_append, List.nil_append] | simp only [List.cons_append, List.nil_append])
  refine SXs_cons (SX_AssignSub ?_)
  refine SE_BinOp ?_
  refine SE_int ?_
  refine SE_BinOp ?_
  refine SE_BinOp ?_
  refine SE_Name ?_ (by decide +kernel)
  refine SN_loc rfl rfl (by (with_reducible repeat first | exact List.mem_cons_self | refine List.mem_cons_of_mem _ ?_ | assumption | exact mem_mid' | exact mem_mid (by assumption))) (by with_reducible rfl) (by (with_reducible repeat first | exact List.mem_cons_self | refine List.mem_cons_of_mem _ ?_ | assumption | exact mem_mid' | exact mem_mid (by assumption))) ?_
  refine SE_int ?_
  refine op_div (by decide) (by decide) ?_
  refine SE_int ?_
  refine op_mod (by decide) ?_
  with_reducible refine op_add ?_
  refine SE_Name ?_ (by decide +kernel)
  refine SN_loc rfl rfl (by (with_reducible repeat first | exact List.mem_cons_self | refine List.mem_cons_of_mem _ ?_ | assumption | exact mem_mid' | exact mem_mid (by assumption))) (by with_reducible rfl) (by (with_reducible repeat first | exact List.mem_cons_self | refine List.mem_cons_of_mem _ ?_ | assumption | exact mem_mid' | exact mem_mid (by assumption))) ?_
  refine SE_BinOp ?_
  refine SE_BinOp ?_
  refine SE_Name ?_ (by decide +kernel)
  refine SN_loc rfl rfl (by (with_reducible repeat first | exact List.mem_cons_self | refine List.mem_cons_of_mem _ ?_ | assumption | exact mem_mid' | exact mem_mid (by assumption))) (by with_reducible rfl) (by (with_reducible repeat first | exact List.mem_cons_self | refine List.mem_cons_of_mem _ ?_ | assumption | exact mem_mid' | exact mem_mid (by assumption))) ?_
  refine SE_int ?_
  rw [hc]
  refine op_div (by decide) (by decide) ?_
  refine SE_int ?_
  refine op_mod (by decide) ?_
  with_reducible refine ⟨_, rfl, ?_⟩
  rcases (by (first | decide | exact Nat.le_trans (by assumption) (by decide) | lia | omega) : n / 5 % 2 = 0 ∨ n / 5 % 2 = 1) with hj | hj
  · refine set_own (l := [.int c0, .int c1]) (by (first | decide | exact Nat.le_trans (by assumption) (by decide) | lia | omega)) (by (first | dsimp only [List.length_cons, List.length_nil] | simp only [List.length_cons, List.length_nil]); (first | decide | exact Nat.le_trans (by assumption) (by decide) | lia | omega)) (by ((rw [sizeLine_eq]; simp))) (by (with_reducible repeat first | exact Upd.here | exact Upd.mid | apply Upd.there)) ?_
    rw [hj, show ([V.int c0, V.int c1] : List V).set (Int.toNat 0) (.int c) = [V.int c, V.int c1] from rfl]
    refine SXs_cons ?_
    refine SX_AssignAttr ?_
    refine SE_Subscript ?_
    refine SE_Name ?_ (by decide +kernel)
    refine SN_loc rfl rfl (by (with_reducible repeat first | exact List.mem_cons_self | refine List.mem_cons_of_mem _ ?_ | assumption | exact mem_mid' | exact mem_mid (by assumption))) (by with_reducible rfl) (by (with_reducible repeat first | exact List.mem_cons_self | refine List.mem_cons_of_mem _ ?_ | assumption | exact mem_mid' | exact mem_mid (by assumption))) ?_
    refine SE_BinOp ?_
    refine SE_BinOp ?_
    refine SE_Name ?_ (by decide +kernel)
    refine SN_loc rfl rfl (by (with_reducible repeat first | exact List.mem_cons_self | refine List.mem_cons_of_mem _ ?_ | assumption | exact mem_mid' | exact mem_mid (by assumption))) (by with_reducible rfl) (by (with_reducible repeat first | exact List.mem_cons_self | refine List.mem_cons_of_mem _ ?_ | assumption | exact mem_mid' | exact mem_mid (by assumption))) ?_
    refine SE_int ?_
    refine op_div (by decide) (by decide) ?_
    refine SE_int ?_
    refine op_mod (by decide) ?_
    rw [hj]
    refine sub_own (d := .int c) (by (with_reducible repeat first | exact List.mem_cons_self | refine List.mem_cons_of_mem _ ?_ | assumption | exact mem_mid' | exact mem_mid (by assumption))) (by (first | dsimp only [List.length_cons, List.length_nil] | simp only [List.length_cons, List.length_nil]); (first | decide | exact Nat.le_trans (by assumption) (by decide) | lia | omega)) (by (first | dsimp only [List.length_cons, List.length_nil] | simp only [List.length_cons, List.length_nil]); (first | decide | exact Nat.le_trans (by assumption) (by decide) | lia | omega)) (by ((rw [sizeLine_eq]; simp))) rfl ?_
    refine SE_Subscript ?_
    refine SE_Name ?_ (by decide +kernel)
    refine SN_cell rfl rfl rfl (by (with_reducible repeat first | exact List.mem_cons_self | refine List.mem_cons_of_mem _ ?_ | assumption | exact mem_mid' | exact mem_mid (by assumption))) ?_
    refine SE_BinOp ?_
    refine SE_BinOp ?_
    refine SE_Name ?_ (by decide +kernel)
    refine SN_loc rfl rfl (by (with_reducible repeat first | exact List.mem_cons_self | refine List.mem_cons_of_mem _ ?_ | assumption | exact mem_mid' | exact mem_mid (by assumption))) (by with_reducible rfl) (by (with_reducible repeat first | exact List.mem_cons_self | refine List.mem_cons_of_mem _ ?_ | assumption | exact mem_mid' | exact mem_mid (by assumption))) ?_
    refine SE_int ?_
    refine op_div (by decide) (by decide) ?_
    refine SE_int ?_
    refine op_mod (by decide) ?_
    rw [hj]
    refine sub_own (d := .ref x0) (by (with_reducible repeat first | exact List.mem_cons_self | refine List.mem_cons_of_mem _ ?_ | assumption | exact mem_mid' | exact mem_mid (by assumption))) (by (first | dsimp only [List.length_cons, List.length_nil] | simp only [List.length_cons, List.length_nil]); (first | decide | exact Nat.le_trans (by assumption) (by decide) | lia | omega)) (by (first | dsimp only [List.length_cons, List.length_nil] | simp only [List.length_cons, List.length_nil]); (first | decide | exact Nat.le_trans (by assumption) (by decide) | lia | omega)) (by ((rw [sizeLine_eq]; simp))) rfl ?_
    with_reducible refine ⟨_, rfl, ?_⟩
    refine do_setattr (cls01 hK) (by rw [hK]; rfl) (by (with_reducible repeat first | exact List.mem_cons_self | refine List.mem_cons_of_mem _ ?_ | assumption | exact mem_mid' | exact mem_mid (by assumption))) (by (with_reducible repeat first | exact List.mem_cons_self | refine List.mem_cons_of_mem _ ?_ | assumption | exact mem_mid' | exact mem_mid (by assumption))) (by (with_reducible repeat first | exact Put.here | exact Put.new | apply Put.there)) (by (((first | dsimp only [List.map_cons, List.map_nil] | simp only [List.map_cons, List.map_nil]); decide +kernel))) (by simp) (by (with_reducible repeat first | exact Upd.here | exact Upd.mid | apply Upd.there)) ?_
    refine SXs_nil ?_
    exact hq.1
  · refine set_own (l := [.int c0, .int c1]) (by (first | decide | exact Nat.le_trans (by assumption) (by decide) | lia | omega)) (by (first | dsimp only [List.length_cons, List.length_nil] | simp only [List.length_cons, List.length_nil]); (first | decide | exact Nat.le_trans (by assumption) (by decide) | lia | omega)) (by ((rw [sizeLine_eq]; simp))) (by (with_reducible repeat first | exact Upd.here | exact Upd.mid | apply Upd.there)) ?_
    rw [hj, show ([V.int c0, V.int c1] : List V).set (Int.toNat 1) (.int c) = [V.int c0, V.int c] from rfl]
    refine SXs_cons ?_
    refine SX_AssignAttr ?_
    refine SE_Subscript ?_
    refine SE_Name ?_ (by decide +kernel)
    refine SN_loc rfl rfl (by (with_reducible repeat first | exact List.mem_cons_self | refine List.mem_cons_of_mem _ ?_ | assumption | exact mem_mid' | exact mem_mid (by assumption))) (by with_reducible rfl) (by (with_reducible repeat first | exact List.mem_cons_self | refine List.mem_cons_of_mem _ ?_ | assumption | exact mem_mid' | exact mem_mid (by assumption))) ?_
    refine SE_BinOp ?_
    refine SE_BinOp ?_
    refine SE_Name ?_ (by decide +kernel)
    refine SN_loc rfl rfl (by (with_reducible repeat first | exact List.mem_cons_self | refine List.mem_cons_of_mem _ ?_ | assumption | exact mem_mid' | exact mem_mid (by assumption))) (by with_reducible rfl) (by (with_reducible repeat first | exact List.mem_cons_self | refine List.mem_cons_of_mem _ ?_ | assumption | exact mem_mid' | exact mem_mid (by assumption))) ?_
    refine SE_int ?_
    refine op_div (by decide) (by decide) ?_
    refine SE_int ?_
    refine op_mod (by decide) ?_
    rw [hj]
    refine sub_own (d := .int c) (by (with_reducible repeat first | exact List.mem_cons_self | refine List.mem_cons_of_mem _ ?_ | assumption | exact mem_mid' | exact mem_mid (by assumption))) (by (first | dsimp only [List.length_cons, List.length_nil] | simp only [List.length_cons, List.length_nil]); (first | decide | exact Nat.le_trans (by assumption) (by decide) | lia | omega)) (by (first | dsimp only [List.length_cons, List.length_nil] | simp only [List.length_cons, List.length_nil]); (first | decide | exact Nat.le_trans (by assumption) (by decide) | lia | omega)) (by ((rw [sizeLine_eq]; simp))) rfl ?_
    refine SE_Subscript ?_
    refine SE_Name ?_ (by decide +kernel)
    refine SN_cell rfl rfl rfl (by (with_reducible repeat first | exact List.mem_cons_self | refine List.mem_cons_of_mem _ ?_ | assumption | exact mem_mid' | exact mem_mid (by assumption))) ?_
    refine SE_BinOp ?_
    refine SE_BinOp ?_
    refine SE_Name ?_ (by decide +kernel)
    refine SN_loc rfl rfl (by (with_reducible repeat first | exact List.mem_cons_self | refine List.mem_cons_of_mem _ ?_ | assumption | exact mem_mid' | exact mem_mid (by assumption))) (by with_reducible rfl) (by (with_reducible repeat first | exact List.mem_cons_self | refine List.mem_cons_of_mem _ ?_ | assumption | exact mem_mid' | exact mem_mid (by assumption))) ?_
    refine SE_int ?_
    refine op_div (by decide) (by decide) ?_
    refine SE_int ?_
    refine op_mod (by decide) ?_
    rw [hj]
    refine sub_own (d := .ref x1) (by (with_reducible repeat first | exact List.mem_cons_self | refine List.mem_cons_of_mem _ ?_ | assumption | exact mem_mid' | exact mem_mid (by assumption))) (by (first | dsimp only [List.length_cons, List.length_nil] | simp only [List.length_cons, List.length_nil]); (first | decide | exact Nat.le_trans (by assumption) (by decide) | lia | omega)) (by (first | dsimp only [List.length_cons, List.length_nil] | simp only [List.length_cons, List.length_nil]); (first | decide | exact Nat.le_trans (by assumption) (by decide) | lia | omega)) (by ((rw [sizeLine_eq]; simp))) rfl ?_
    with_reducible refine ⟨_, rfl, ?_⟩
    refine do_setattr (cls01 hK) (by rw [hK]; rfl) (by (with_reducible repeat first | exact List.mem_cons_self | refine List.mem_cons_of_mem _ ?_ | assumption | exact mem_mid' | exact mem_mid (by assumption))) (by (with_reducible repeat first | exact List.mem_cons_self | refine List.mem_cons_of_mem _ ?_ | assumption | exact mem_mid' | exact mem_mid (by assumption))) (by (with_reducible repeat first | exact Put.here | exact Put.new | apply Put.there)) (by (((first | dsimp only [List.map_cons, List.map_nil] | simp only [List.map_cons, List.map_nil]); decide +kernel))) (by simp) (by (with_reducible repeat first | exact Upd.here | exact Upd.mid | apply Upd.there)) ?_
    refine SXs_nil ?_
    exact hq.2
end
theorem SG.permPost {α β : Type} {R : Heap → β → α → Prop} {t : Sem α} {own : Own} {Q : β → Own → Prop} (h : SG W A R t own (fun b o => ∃ o1, o.Perm o1 ∧ Q b o1)) : SG W A R t own Q := fun fz s H ht => by
  refine wp_then (h fz s H ht) ht fun fz1 va a o1 s1 k1 H1 t1 r1 q1 => ?_
  obtain ⟨o2, hp, q⟩ := q1
  exact ⟨fz1, a, o2, k1, H1.perm hp, r1, q⟩
/-- what changes in the loop -/
structure LS where
  read : Nat
  c0 : Nat
  c1 : Nat
  w0 : Addr
  w1 : Addr
  w2 : Addr
  p0 : List PyData
  p1 : List PyData
  p2 : List PyData
  go0 : Own
  go1 : Own
  go2 : Own
  m0 : Nat
  m1 : Nat
  m2 : Nat
structure LSOk (rows : List RowT) (left : Nat) (z : LS) : Prop where
  rd : z.read + left ≤ rows.length
  c0 : 1 ≤ z.c0 ∧ z.c0 ≤ 4
  c1 : 1 ≤ z.c1 ∧ z.c1 ≤ 4
  l0 : z.p0.length ≤ 11
  l1 : z.p1.length ≤ 11
  l2 : z.p2.length ≤ 11
  k0 : ∀ d ∈ z.p0, Ok 50 d
  k1 : ∀ d ∈ z.p1, Ok 50 d
  k2 : ∀ d ∈ z.p2, Ok 50 d
  m0 : left + 2000 ≤ z.m0
  m1 : left + 2000 ≤ z.m1
  m2 : left + 2000 ≤ z.m2
section
variable {L wt rd co well D x0 x1 d0 d1 g0 g1 g2 : Addr} {n0 n1 n2 : Nat} {tq : Str} {ts : Scope} {tc : Value} {tb : List Stmt}
/-- the things of the law, the list of names apart -/
noncomputable abbrev stT (W : Wd) (L wt rd co well D x0 x1 d0 d1 g0 g1 g2 : Addr) (n0 n1 n2 : Nat) (rows : List RowT) (z : LS) (own : Own) : Own :=
  (wt, .list [.ref z.w0, .ref z.w1, .ref z.w2]) :: (z.w0, .list (z.p0.map V.dat)) :: (z.w1, .list (z.p1.map V.dat)) :: (z.w2, .list (z.p2.map V.dat)) :: (rd, .list [.ref g0, .ref g1, .ref g2]) :: (D, .list [.ref x0, .ref x1]) ::
  (x1, .obj (instObj 113 d1)) :: (d1, .att (attC z.c1)) :: (x0, .obj (instObj 113 d0)) :: (d0, .att (attC z.c0)) :: (co, .list [.int z.c0, .int z.c1]) :: (well, .prop (LItP (((rows.drop z.read).map rowW).map V.dat))) :: (L + 2, .cell (some (.ref D))) :: (L + 1, .cell (some (.ref well))) ::
  (g2, .gen n2 (GP W well x1 d1 z.m2 z.go2 z.p2)) :: (g1, .gen n1 (GP W well x0 d0 z.m1 z.go1 z.p1)) :: (g0, .gen n0 (GP W well x0 d0 z.m0 z.go0 z.p0)) :: (z.go0 ++ (z.go1 ++ (z.go2 ++ own)))
theorem perm_split {P F E go T : Own} (h : P.Perm (F ++ E)) : (P ++ (go ++ T)).Perm (F ++ (go ++ (E ++ T))) :=
  (h.append_right _).trans (by rw [List.append_assoc]; exact List.Perm.append_left F (List.perm_append_comm_assoc ..))
theorem turn_0 (hK : K01 W) (hT : txtO (W.K.lookup 139) = some (tq, ts, tc, tb))
    (hA : A.handled = none) (hd : A.depth < 330) (hu : A.units < 200) {xs : List Int} {rows : List RowT} {z : LS} {left : Nat} {n : Int} {it : Addr} {r : List V} (hrows : rows.length ≤ 72) (hrok : ∀ r ∈ rows, RowOk r) (ok : LSOk rows (left + 1) z)
    (hdo : ∀ r ∈ rows, ∀ c : Nat, ∀ d ∈ dueL r.flag r.l r.r c, Ok 50 d) {Q : Fl → Own → Prop}
    (hQ : ∀ o z', LSOk rows left z' → o.Perm ((it, Ob.it r) :: (L, Ob.ns (locL xs rows co rd wt z'.read ++ [(Str.ofString "x", V.int n), (Str.ofString "k", V.int ((0 : Nat) : Int))])) :: stT W L wt rd co well D x0 x1 d0 d1 g0 g1 g2 n0 n1 n2 rows z' own) → Q .next o) :
    SXs W A (envX tq ts L 139 tc [(Str.ofString "sheets", L + 2), (Str.ofString "well", L + 1)]) (ifB (nthS (forB (nthS tb 8)) 1))
      ((it, Ob.it r) :: (L, Ob.ns (locL xs rows co rd wt z.read ++ [(Str.ofString "x", V.int n), (Str.ofString "k", V.int ((0 : Nat) : Int))])) :: stT W L wt rd co well D x0 x1 d0 d1 g0 g1 g2 n0 n1 n2 rows z own) Q := by
  have okr := ok.rd
  obtain ⟨m, hm⟩ : ∃ m, z.m0 = m + 1 := ⟨z.m0 - 1, by have := ok.m0; (first | decide | exact Nat.le_trans (by assumption) (by decide) | lia | omega)⟩
  have hP : ((it, Ob.it r) :: (L, Ob.ns (locL xs rows co rd wt z.read ++ [(Str.ofString "x", V.int n), (Str.ofString "k", V.int ((0 : Nat) : Int))])) :: stT W L wt rd co well D x0 x1 d0 d1 g0 g1 g2 n0 n1 n2 rows z own).Perm ([(L, Ob.ns (locL xs rows co rd wt z.read ++ [(Str.ofString "x", V.int n), (Str.ofString "k", V.int ((0 : Nat) : Int))])), (wt, Ob.list [.ref z.w0, .ref z.w1, .ref z.w2]), (z.w0, Ob.list (z.p0.map V.dat)), (rd, Ob.list [.ref g0, .ref g1, .ref g2]), (co, Ob.list [.int z.c0, .int z.c1]), (g0, Ob.gen n0 (GP W well x0 d0 (m + 1) z.go0 z.p0)), (well, Ob.prop (LItP (((rows.drop z.read).map rowW).map V.dat)))] ++ (z.go0 ++ ([(it, Ob.it r), (z.w1, Ob.list (z.p1.map V.dat)), (z.w2, Ob.list (z.p2.map V.dat)), (D, Ob.list [.ref x0, .ref x1]), (x1, Ob.obj (instObj 113 d1)), (d1, Ob.att (attC z.c1)), (x0, Ob.obj (instObj 113 d0)), (d0, Ob.att (attC z.c0)), (L + 2, Ob.cell (some (.ref D))), (L + 1, Ob.cell (some (.ref well))), (g2, Ob.gen n2 (GP W well x1 d1 z.m2 z.go2 z.p2)), (g1, Ob.gen n1 (GP W well x0 d0 z.m1 z.go1 z.p1))] ++ (z.go1 ++ (z.go2 ++ own))))) := by
    unfold stT
    rw [hm]
    exact (List.Perm.append_left [(it, Ob.it r), (L, Ob.ns (locL xs rows co rd wt z.read ++ [(Str.ofString "x", V.int n), (Str.ofString "k", V.int ((0 : Nat) : Int))])), (wt, Ob.list [.ref z.w0, .ref z.w1, .ref z.w2]), (z.w0, Ob.list (z.p0.map V.dat)), (z.w1, Ob.list (z.p1.map V.dat)), (z.w2, Ob.list (z.p2.map V.dat)), (rd, Ob.list [.ref g0, .ref g1, .ref g2]), (D, Ob.list [.ref x0, .ref x1]), (x1, Ob.obj (instObj 113 d1)), (d1, Ob.att (attC z.c1)), (x0, Ob.obj (instObj 113 d0)), (d0, Ob.att (attC z.c0)), (co, Ob.list [.int z.c0, .int z.c1]), (well, Ob.prop (LItP (((rows.drop z.read).map rowW).map V.dat))), (L + 2, Ob.cell (some (.ref D))), (L + 1, Ob.cell (some (.ref well))), (g2, Ob.gen n2 (GP W well x1 d1 z.m2 z.go2 z.p2)), (g1, Ob.gen n1 (GP W well x0 d0 z.m1 z.go1 z.p1)), (g0, Ob.gen n0 (GP W well x0 d0 (m + 1) z.go0 z.p0))] (.refl _)).trans (perm_split (by (with_reducible repeat first | exact List.Perm.refl _ | refine (Take.perm (by (with_reducible repeat first | exact Take.here | apply Take.there))).trans (List.Perm.cons _ ?_))))
  refine SG.perm hP (turn_read (w := z.w0) (ga := g0) (x := x0) (dx := d0) (c := z.c0) (k := 0) hK hT hA hd hu (by (first | decide | exact Nat.le_trans (by assumption) (by decide) | lia | omega)) hrows (by (first | decide | exact Nat.le_trans (by assumption) (by decide) | lia | omega)) hrok rfl rfl rfl rfl rfl rfl (by have := ok.c0; have := ok.c1; (first | decide | exact Nat.le_trans (by assumption) (by decide) | lia | omega)) (by have := ok.c0; have := ok.c1; (first | decide | exact Nat.le_trans (by assumption) (by decide) | lia | omega)) ok.l0 ok.k0 (fun r hr => hdo r hr _) (by simp) (by simp) ?_)
  intro w' p' go' read' ws' row hc
  have hz : LSOk rows left { z with read := read', w0 := w', p0 := p', go0 := go', m0 := m } ∧ ws' = [.ref w', .ref z.w1, .ref z.w2] := by
    rcases hc with ⟨e1, rfl, rfl, rfl⟩ | ⟨e1, rfl, rfl, r, hr, e2⟩
    · have hl := ok.l0; have hk := ok.k0
      rw [e1] at hl hk
      simp only [List.length_cons] at hl
      refine ⟨⟨?_, ok.c0, ok.c1, by show p'.length ≤ 11; (first | decide | exact Nat.le_trans (by assumption) (by decide) | lia | omega), ok.l1, ok.l2, fun d hd => hk d (List.mem_cons_of_mem _ hd), ok.k1, ok.k2, by show left + 2000 ≤ m; have := ok.m0; (first | decide | exact Nat.le_trans (by assumption) (by decide) | lia | omega), by have := ok.m1; show left + 2000 ≤ z.m1; (first | decide | exact Nat.le_trans (by assumption) (by decide) | lia | omega), by have := ok.m2; show left + 2000 ≤ z.m2; (first | decide | exact Nat.le_trans (by assumption) (by decide) | lia | omega)⟩, rfl⟩
      · show z.read + left ≤ rows.length; (first | decide | exact Nat.le_trans (by assumption) (by decide) | lia | omega)
    · have hl := due_len (hrok r (List.mem_of_getElem? hr)) z.c0; have hk := hdo r (List.mem_of_getElem? hr) z.c0
      rw [e2] at hl hk
      simp only [List.length_cons] at hl
      refine ⟨⟨?_, ok.c0, ok.c1, by show p'.length ≤ 11; (first | decide | exact Nat.le_trans (by assumption) (by decide) | lia | omega), ok.l1, ok.l2, fun d hd => hk d (List.mem_cons_of_mem _ hd), ok.k1, ok.k2, by show left + 2000 ≤ m; have := ok.m0; (first | decide | exact Nat.le_trans (by assumption) (by decide) | lia | omega), by have := ok.m1; show left + 2000 ≤ z.m1; (first | decide | exact Nat.le_trans (by assumption) (by decide) | lia | omega), by have := ok.m2; show left + 2000 ≤ z.m2; (first | decide | exact Nat.le_trans (by assumption) (by decide) | lia | omega)⟩, rfl⟩
      · show z.read + 1 + left ≤ rows.length; (first | decide | exact Nat.le_trans (by assumption) (by decide) | lia | omega)
  refine hQ _ _ hz.1 ?_
  rw [hz.2]
  have hP2 : ([(L, Ob.ns (locL xs rows co rd wt read' ++ [(Str.ofString "x", V.int n), (Str.ofString "k", V.int ((0 : Nat) : Int))])), (wt, Ob.list [.ref w', .ref z.w1, .ref z.w2]), (w', Ob.list (p'.map V.dat)), (rd, Ob.list [.ref g0, .ref g1, .ref g2]), (co, Ob.list [.int z.c0, .int z.c1]), (g0, Ob.gen n0 (GP W well x0 d0 m go' p')), (well, Ob.prop (LItP (((rows.drop read').map rowW).map V.dat)))] ++ (go' ++ ([(it, Ob.it r), (z.w1, Ob.list (z.p1.map V.dat)), (z.w2, Ob.list (z.p2.map V.dat)), (D, Ob.list [.ref x0, .ref x1]), (x1, Ob.obj (instObj 113 d1)), (d1, Ob.att (attC z.c1)), (x0, Ob.obj (instObj 113 d0)), (d0, Ob.att (attC z.c0)), (L + 2, Ob.cell (some (.ref D))), (L + 1, Ob.cell (some (.ref well))), (g2, Ob.gen n2 (GP W well x1 d1 z.m2 z.go2 z.p2)), (g1, Ob.gen n1 (GP W well x0 d0 z.m1 z.go1 z.p1))] ++ (z.go1 ++ (z.go2 ++ own))))).Perm ([(it, Ob.it r), (L, Ob.ns (locL xs rows co rd wt read' ++ [(Str.ofString "x", V.int n), (Str.ofString "k", V.int ((0 : Nat) : Int))])), (wt, Ob.list [.ref w', .ref z.w1, .ref z.w2]), (w', Ob.list (p'.map V.dat)), (z.w1, Ob.list (z.p1.map V.dat)), (z.w2, Ob.list (z.p2.map V.dat)), (rd, Ob.list [.ref g0, .ref g1, .ref g2]), (D, Ob.list [.ref x0, .ref x1]), (x1, Ob.obj (instObj 113 d1)), (d1, Ob.att (attC z.c1)), (x0, Ob.obj (instObj 113 d0)), (d0, Ob.att (attC z.c0)), (co, Ob.list [.int z.c0, .int z.c1]), (well, Ob.prop (LItP (((rows.drop read').map rowW).map V.dat))), (L + 2, Ob.cell (some (.ref D))), (L + 1, Ob.cell (some (.ref well))), (g2, Ob.gen n2 (GP W well x1 d1 z.m2 z.go2 z.p2)), (g1, Ob.gen n1 (GP W well x0 d0 z.m1 z.go1 z.p1)), (g0, Ob.gen n0 (GP W well x0 d0 m go' p'))] ++ (go' ++ (z.go1 ++ (z.go2 ++ own)))) := (perm_split (by (with_reducible repeat first | exact List.Perm.refl _ | refine (Take.perm (by (with_reducible repeat first | exact Take.here | apply Take.there))).trans (List.Perm.cons _ ?_)))).symm
  exact hP2.trans (List.Perm.append_left [(it, Ob.it r), (L, Ob.ns (locL xs rows co rd wt read' ++ [(Str.ofString "x", V.int n), (Str.ofString "k", V.int ((0 : Nat) : Int))])), (wt, Ob.list [.ref w', .ref z.w1, .ref z.w2]), (w', Ob.list (p'.map V.dat)), (z.w1, Ob.list (z.p1.map V.dat)), (z.w2, Ob.list (z.p2.map V.dat)), (rd, Ob.list [.ref g0, .ref g1, .ref g2]), (D, Ob.list [.ref x0, .ref x1]), (x1, Ob.obj (instObj 113 d1)), (d1, Ob.att (attC z.c1)), (x0, Ob.obj (instObj 113 d0)), (d0, Ob.att (attC z.c0)), (co, Ob.list [.int z.c0, .int z.c1]), (well, Ob.prop (LItP (((rows.drop read').map rowW).map V.dat))), (L + 2, Ob.cell (some (.ref D))), (L + 1, Ob.cell (some (.ref well))), (g2, Ob.gen n2 (GP W well x1 d1 z.m2 z.go2 z.p2)), (g1, Ob.gen n1 (GP W well x0 d0 z.m1 z.go1 z.p1)), (g0, Ob.gen n0 (GP W well x0 d0 m go' p'))] (.refl _))
theorem turn_1 (hK : K01 W) (hT : txtO (W.K.lookup 139) = some (tq, ts, tc, tb))
    (hA : A.handled = none) (hd : A.depth < 330) (hu : A.units < 200) {xs : List Int} {rows : List RowT} {z : LS} {left : Nat} {n : Int} {it : Addr} {r : List V} (hrows : rows.length ≤ 72) (hrok : ∀ r ∈ rows, RowOk r) (ok : LSOk rows (left + 1) z)
    (hdo : ∀ r ∈ rows, ∀ c : Nat, ∀ d ∈ dueL r.flag r.l r.r c, Ok 50 d) {Q : Fl → Own → Prop}
    (hQ : ∀ o z', LSOk rows left z' → o.Perm ((it, Ob.it r) :: (L, Ob.ns (locL xs rows co rd wt z'.read ++ [(Str.ofString "x", V.int n), (Str.ofString "k", V.int ((1 : Nat) : Int))])) :: stT W L wt rd co well D x0 x1 d0 d1 g0 g1 g2 n0 n1 n2 rows z' own) → Q .next o) :
    SXs W A (envX tq ts L 139 tc [(Str.ofString "sheets", L + 2), (Str.ofString "well", L + 1)]) (ifB (nthS (forB (nthS tb 8)) 1))
      ((it, Ob.it r) :: (L, Ob.ns (locL xs rows co rd wt z.read ++ [(Str.ofString "x", V.int n), (Str.ofString "k", V.int ((1 : Nat) : Int))])) :: stT W L wt rd co well D x0 x1 d0 d1 g0 g1 g2 n0 n1 n2 rows z own) Q := by
  have okr := ok.rd
  obtain ⟨m, hm⟩ : ∃ m, z.m1 = m + 1 := ⟨z.m1 - 1, by have := ok.m1; (first | decide | exact Nat.le_trans (by assumption) (by decide) | lia | omega)⟩
  have hP : ((it, Ob.it r) :: (L, Ob.ns (locL xs rows co rd wt z.read ++ [(Str.ofString "x", V.int n), (Str.ofString "k", V.int ((1 : Nat) : Int))])) :: stT W L wt rd co well D x0 x1 d0 d1 g0 g1 g2 n0 n1 n2 rows z own).Perm ([(L, Ob.ns (locL xs rows co rd wt z.read ++ [(Str.ofString "x", V.int n), (Str.ofString "k", V.int ((1 : Nat) : Int))])), (wt, Ob.list [.ref z.w0, .ref z.w1, .ref z.w2]), (z.w1, Ob.list (z.p1.map V.dat)), (rd, Ob.list [.ref g0, .ref g1, .ref g2]), (co, Ob.list [.int z.c0, .int z.c1]), (g1, Ob.gen n1 (GP W well x0 d0 (m + 1) z.go1 z.p1)), (well, Ob.prop (LItP (((rows.drop z.read).map rowW).map V.dat)))] ++ (z.go1 ++ ([(it, Ob.it r), (z.w0, Ob.list (z.p0.map V.dat)), (z.w2, Ob.list (z.p2.map V.dat)), (D, Ob.list [.ref x0, .ref x1]), (x1, Ob.obj (instObj 113 d1)), (d1, Ob.att (attC z.c1)), (x0, Ob.obj (instObj 113 d0)), (d0, Ob.att (attC z.c0)), (L + 2, Ob.cell (some (.ref D))), (L + 1, Ob.cell (some (.ref well))), (g2, Ob.gen n2 (GP W well x1 d1 z.m2 z.go2 z.p2)), (g0, Ob.gen n0 (GP W well x0 d0 z.m0 z.go0 z.p0))] ++ (z.go0 ++ (z.go2 ++ own))))) := by
    unfold stT
    rw [hm]
    exact (List.Perm.append_left [(it, Ob.it r), (L, Ob.ns (locL xs rows co rd wt z.read ++ [(Str.ofString "x", V.int n), (Str.ofString "k", V.int ((1 : Nat) : Int))])), (wt, Ob.list [.ref z.w0, .ref z.w1, .ref z.w2]), (z.w0, Ob.list (z.p0.map V.dat)), (z.w1, Ob.list (z.p1.map V.dat)), (z.w2, Ob.list (z.p2.map V.dat)), (rd, Ob.list [.ref g0, .ref g1, .ref g2]), (D, Ob.list [.ref x0, .ref x1]), (x1, Ob.obj (instObj 113 d1)), (d1, Ob.att (attC z.c1)), (x0, Ob.obj (instObj 113 d0)), (d0, Ob.att (attC z.c0)), (co, Ob.list [.int z.c0, .int z.c1]), (well, Ob.prop (LItP (((rows.drop z.read).map rowW).map V.dat))), (L + 2, Ob.cell (some (.ref D))), (L + 1, Ob.cell (some (.ref well))), (g2, Ob.gen n2 (GP W well x1 d1 z.m2 z.go2 z.p2)), (g1, Ob.gen n1 (GP W well x0 d0 (m + 1) z.go1 z.p1)), (g0, Ob.gen n0 (GP W well x0 d0 z.m0 z.go0 z.p0))] (List.perm_append_comm_assoc ..)).trans (perm_split (by (with_reducible repeat first | exact List.Perm.refl _ | refine (Take.perm (by (with_reducible repeat first | exact Take.here | apply Take.there))).trans (List.Perm.cons _ ?_))))
  refine SG.perm hP (turn_read (w := z.w1) (ga := g1) (x := x0) (dx := d0) (c := z.c0) (k := 1) hK hT hA hd hu (by (first | decide | exact Nat.le_trans (by assumption) (by decide) | lia | omega)) hrows (by (first | decide | exact Nat.le_trans (by assumption) (by decide) | lia | omega)) hrok rfl rfl rfl rfl rfl rfl (by have := ok.c0; have := ok.c1; (first | decide | exact Nat.le_trans (by assumption) (by decide) | lia | omega)) (by have := ok.c0; have := ok.c1; (first | decide | exact Nat.le_trans (by assumption) (by decide) | lia | omega)) ok.l1 ok.k1 (fun r hr => hdo r hr _) (by simp) (by simp) ?_)
  intro w' p' go' read' ws' row hc
  have hz : LSOk rows left { z with read := read', w1 := w', p1 := p', go1 := go', m1 := m } ∧ ws' = [.ref z.w0, .ref w', .ref z.w2] := by
    rcases hc with ⟨e1, rfl, rfl, rfl⟩ | ⟨e1, rfl, rfl, r, hr, e2⟩
    · have hl := ok.l1; have hk := ok.k1
      rw [e1] at hl hk
      simp only [List.length_cons] at hl
      refine ⟨⟨?_, ok.c0, ok.c1, ok.l0, by show p'.length ≤ 11; (first | decide | exact Nat.le_trans (by assumption) (by decide) | lia | omega), ok.l2, ok.k0, fun d hd => hk d (List.mem_cons_of_mem _ hd), ok.k2, by have := ok.m0; show left + 2000 ≤ z.m0; (first | decide | exact Nat.le_trans (by assumption) (by decide) | lia | omega), by show left + 2000 ≤ m; have := ok.m1; (first | decide | exact Nat.le_trans (by assumption) (by decide) | lia | omega), by have := ok.m2; show left + 2000 ≤ z.m2; (first | decide | exact Nat.le_trans (by assumption) (by decide) | lia | omega)⟩, rfl⟩
      · show z.read + left ≤ rows.length; (first | decide | exact Nat.le_trans (by assumption) (by decide) | lia | omega)
    · have hl := due_len (hrok r (List.mem_of_getElem? hr)) z.c0; have hk := hdo r (List.mem_of_getElem? hr) z.c0
      rw [e2] at hl hk
      simp only [List.length_cons] at hl
      refine ⟨⟨?_, ok.c0, ok.c1, ok.l0, by show p'.length ≤ 11; (first | decide | exact Nat.le_trans (by assumption) (by decide) | lia | omega), ok.l2, ok.k0, fun d hd => hk d (List.mem_cons_of_mem _ hd), ok.k2, by have := ok.m0; show left + 2000 ≤ z.m0; (first | decide | exact Nat.le_trans (by assumption) (by decide) | lia | omega), by show left + 2000 ≤ m; have := ok.m1; (first | decide | exact Nat.le_trans (by assumption) (by decide) | lia | omega), by have := ok.m2; show left + 2000 ≤ z.m2; (first | decide | exact Nat.le_trans (by assumption) (by decide) | lia | omega)⟩, rfl⟩
      · show z.read + 1 + left ≤ rows.length; (first | decide | exact Nat.le_trans (by assumption) (by decide) | lia | omega)
  refine hQ _ _ hz.1 ?_
  rw [hz.2]
  have hP2 : ([(L, Ob.ns (locL xs rows co rd wt read' ++ [(Str.ofString "x", V.int n), (Str.ofString "k", V.int ((1 : Nat) : Int))])), (wt, Ob.list [.ref z.w0, .ref w', .ref z.w2]), (w', Ob.list (p'.map V.dat)), (rd, Ob.list [.ref g0, .ref g1, .ref g2]), (co, Ob.list [.int z.c0, .int z.c1]), (g1, Ob.gen n1 (GP W well x0 d0 m go' p')), (well, Ob.prop (LItP (((rows.drop read').map rowW).map V.dat)))] ++ (go' ++ ([(it, Ob.it r), (z.w0, Ob.list (z.p0.map V.dat)), (z.w2, Ob.list (z.p2.map V.dat)), (D, Ob.list [.ref x0, .ref x1]), (x1, Ob.obj (instObj 113 d1)), (d1, Ob.att (attC z.c1)), (x0, Ob.obj (instObj 113 d0)), (d0, Ob.att (attC z.c0)), (L + 2, Ob.cell (some (.ref D))), (L + 1, Ob.cell (some (.ref well))), (g2, Ob.gen n2 (GP W well x1 d1 z.m2 z.go2 z.p2)), (g0, Ob.gen n0 (GP W well x0 d0 z.m0 z.go0 z.p0))] ++ (z.go0 ++ (z.go2 ++ own))))).Perm ([(it, Ob.it r), (L, Ob.ns (locL xs rows co rd wt read' ++ [(Str.ofString "x", V.int n), (Str.ofString "k", V.int ((1 : Nat) : Int))])), (wt, Ob.list [.ref z.w0, .ref w', .ref z.w2]), (z.w0, Ob.list (z.p0.map V.dat)), (w', Ob.list (p'.map V.dat)), (z.w2, Ob.list (z.p2.map V.dat)), (rd, Ob.list [.ref g0, .ref g1, .ref g2]), (D, Ob.list [.ref x0, .ref x1]), (x1, Ob.obj (instObj 113 d1)), (d1, Ob.att (attC z.c1)), (x0, Ob.obj (instObj 113 d0)), (d0, Ob.att (attC z.c0)), (co, Ob.list [.int z.c0, .int z.c1]), (well, Ob.prop (LItP (((rows.drop read').map rowW).map V.dat))), (L + 2, Ob.cell (some (.ref D))), (L + 1, Ob.cell (some (.ref well))), (g2, Ob.gen n2 (GP W well x1 d1 z.m2 z.go2 z.p2)), (g1, Ob.gen n1 (GP W well x0 d0 m go' p')), (g0, Ob.gen n0 (GP W well x0 d0 z.m0 z.go0 z.p0))] ++ (go' ++ (z.go0 ++ (z.go2 ++ own)))) := (perm_split (by (with_reducible repeat first | exact List.Perm.refl _ | refine (Take.perm (by (with_reducible repeat first | exact Take.here | apply Take.there))).trans (List.Perm.cons _ ?_)))).symm
  exact hP2.trans (List.Perm.append_left [(it, Ob.it r), (L, Ob.ns (locL xs rows co rd wt read' ++ [(Str.ofString "x", V.int n), (Str.ofString "k", V.int ((1 : Nat) : Int))])), (wt, Ob.list [.ref z.w0, .ref w', .ref z.w2]), (z.w0, Ob.list (z.p0.map V.dat)), (w', Ob.list (p'.map V.dat)), (z.w2, Ob.list (z.p2.map V.dat)), (rd, Ob.list [.ref g0, .ref g1, .ref g2]), (D, Ob.list [.ref x0, .ref x1]), (x1, Ob.obj (instObj 113 d1)), (d1, Ob.att (attC z.c1)), (x0, Ob.obj (instObj 113 d0)), (d0, Ob.att (attC z.c0)), (co, Ob.list [.int z.c0, .int z.c1]), (well, Ob.prop (LItP (((rows.drop read').map rowW).map V.dat))), (L + 2, Ob.cell (some (.ref D))), (L + 1, Ob.cell (some (.ref well))), (g2, Ob.gen n2 (GP W well x1 d1 z.m2 z.go2 z.p2)), (g1, Ob.gen n1 (GP W well x0 d0 m go' p')), (g0, Ob.gen n0 (GP W well x0 d0 z.m0 z.go0 z.p0))] (List.perm_append_comm_assoc ..))
theorem turn_2 (hK : K01 W) (hT : txtO (W.K.lookup 139) = some (tq, ts, tc, tb))
    (hA : A.handled = none) (hd : A.depth < 330) (hu : A.units < 200) {xs : List Int} {rows : List RowT} {z : LS} {left : Nat} {n : Int} {it : Addr} {r : List V} (hrows : rows.length ≤ 72) (hrok : ∀ r ∈ rows, RowOk r) (ok : LSOk rows (left + 1) z)
    (hdo : ∀ r ∈ rows, ∀ c : Nat, ∀ d ∈ dueL r.flag r.l r.r c, Ok 50 d) {Q : Fl → Own → Prop}
    (hQ : ∀ o z', LSOk rows left z' → o.Perm ((it, Ob.it r) :: (L, Ob.ns (locL xs rows co rd wt z'.read ++ [(Str.ofString "x", V.int n), (Str.ofString "k", V.int ((2 : Nat) : Int))])) :: stT W L wt rd co well D x0 x1 d0 d1 g0 g1 g2 n0 n1 n2 rows z' own) → Q .next o) :
    SXs W A (envX tq ts L 139 tc [(Str.ofString "sheets", L + 2), (Str.ofString "well", L + 1)]) (ifB (nthS (forB (nthS tb 8)) 1))
      ((it, Ob.it r) :: (L, Ob.ns (locL xs rows co rd wt z.read ++ [(Str.ofString "x", V.int n), (Str.ofString "k", V.int ((2 : Nat) : Int))])) :: stT W L wt rd co well D x0 x1 d0 d1 g0 g1 g2 n0 n1 n2 rows z own) Q := by
  have okr := ok.rd
  obtain ⟨m, hm⟩ : ∃ m, z.m2 = m + 1 := ⟨z.m2 - 1, by have := ok.m2; (first | decide | exact Nat.le_trans (by assumption) (by decide) | lia | omega)⟩
  have hP : ((it, Ob.it r) :: (L, Ob.ns (locL xs rows co rd wt z.read ++ [(Str.ofString "x", V.int n), (Str.ofString "k", V.int ((2 : Nat) : Int))])) :: stT W L wt rd co well D x0 x1 d0 d1 g0 g1 g2 n0 n1 n2 rows z own).Perm ([(L, Ob.ns (locL xs rows co rd wt z.read ++ [(Str.ofString "x", V.int n), (Str.ofString "k", V.int ((2 : Nat) : Int))])), (wt, Ob.list [.ref z.w0, .ref z.w1, .ref z.w2]), (z.w2, Ob.list (z.p2.map V.dat)), (rd, Ob.list [.ref g0, .ref g1, .ref g2]), (co, Ob.list [.int z.c0, .int z.c1]), (g2, Ob.gen n2 (GP W well x1 d1 (m + 1) z.go2 z.p2)), (well, Ob.prop (LItP (((rows.drop z.read).map rowW).map V.dat)))] ++ (z.go2 ++ ([(it, Ob.it r), (z.w0, Ob.list (z.p0.map V.dat)), (z.w1, Ob.list (z.p1.map V.dat)), (D, Ob.list [.ref x0, .ref x1]), (x1, Ob.obj (instObj 113 d1)), (d1, Ob.att (attC z.c1)), (x0, Ob.obj (instObj 113 d0)), (d0, Ob.att (attC z.c0)), (L + 2, Ob.cell (some (.ref D))), (L + 1, Ob.cell (some (.ref well))), (g1, Ob.gen n1 (GP W well x0 d0 z.m1 z.go1 z.p1)), (g0, Ob.gen n0 (GP W well x0 d0 z.m0 z.go0 z.p0))] ++ (z.go0 ++ (z.go1 ++ own))))) := by
    unfold stT
    rw [hm]
    exact (List.Perm.append_left [(it, Ob.it r), (L, Ob.ns (locL xs rows co rd wt z.read ++ [(Str.ofString "x", V.int n), (Str.ofString "k", V.int ((2 : Nat) : Int))])), (wt, Ob.list [.ref z.w0, .ref z.w1, .ref z.w2]), (z.w0, Ob.list (z.p0.map V.dat)), (z.w1, Ob.list (z.p1.map V.dat)), (z.w2, Ob.list (z.p2.map V.dat)), (rd, Ob.list [.ref g0, .ref g1, .ref g2]), (D, Ob.list [.ref x0, .ref x1]), (x1, Ob.obj (instObj 113 d1)), (d1, Ob.att (attC z.c1)), (x0, Ob.obj (instObj 113 d0)), (d0, Ob.att (attC z.c0)), (co, Ob.list [.int z.c0, .int z.c1]), (well, Ob.prop (LItP (((rows.drop z.read).map rowW).map V.dat))), (L + 2, Ob.cell (some (.ref D))), (L + 1, Ob.cell (some (.ref well))), (g2, Ob.gen n2 (GP W well x1 d1 (m + 1) z.go2 z.p2)), (g1, Ob.gen n1 (GP W well x0 d0 z.m1 z.go1 z.p1)), (g0, Ob.gen n0 (GP W well x0 d0 z.m0 z.go0 z.p0))] (((List.Perm.append_left _ (List.perm_append_comm_assoc ..)).trans (List.perm_append_comm_assoc ..)))).trans (perm_split (by (with_reducible repeat first | exact List.Perm.refl _ | refine (Take.perm (by (with_reducible repeat first | exact Take.here | apply Take.there))).trans (List.Perm.cons _ ?_))))
  refine SG.perm hP (turn_read (w := z.w2) (ga := g2) (x := x1) (dx := d1) (c := z.c1) (k := 2) hK hT hA hd hu (by (first | decide | exact Nat.le_trans (by assumption) (by decide) | lia | omega)) hrows (by (first | decide | exact Nat.le_trans (by assumption) (by decide) | lia | omega)) hrok rfl rfl rfl rfl rfl rfl (by have := ok.c0; have := ok.c1; (first | decide | exact Nat.le_trans (by assumption) (by decide) | lia | omega)) (by have := ok.c0; have := ok.c1; (first | decide | exact Nat.le_trans (by assumption) (by decide) | lia | omega)) ok.l2 ok.k2 (fun r hr => hdo r hr _) (by simp) (by simp) ?_)
  intro w' p' go' read' ws' row hc
  have hz : LSOk rows left { z with read := read', w2 := w', p2 := p', go2 := go', m2 := m } ∧ ws' = [.ref z.w0, .ref z.w1, .ref w'] := by
    rcases hc with ⟨e1, rfl, rfl, rfl⟩ | ⟨e1, rfl, rfl, r, hr, e2⟩
    · have hl := ok.l2; have hk := ok.k2
      rw [e1] at hl hk
      simp only [List.length_cons] at hl
      refine ⟨⟨?_, ok.c0, ok.c1, ok.l0, ok.l1, by show p'.length ≤ 11; (first | decide | exact Nat.le_trans (by assumption) (by decide) | lia | omega), ok.k0, ok.k1, fun d hd => hk d (List.mem_cons_of_mem _ hd), by have := ok.m0; show left + 2000 ≤ z.m0; (first | decide | exact Nat.le_trans (by assumption) (by decide) | lia | omega), by have := ok.m1; show left + 2000 ≤ z.m1; (first | decide | exact Nat.le_trans (by assumption) (by decide) | lia | omega), by show left + 2000 ≤ m; have := ok.m2; (first | decide | exact Nat.le_trans (by assumption) (by decide) | lia | omega)⟩, rfl⟩
      · show z.read + left ≤ rows.length; (first | decide | exact Nat.le_trans (by assumption) (by decide) | lia | omega)
    · have hl := due_len (hrok r (List.mem_of_getElem? hr)) z.c1; have hk := hdo r (List.mem_of_getElem? hr) z.c1
      rw [e2] at hl hk
      simp only [List.length_cons] at hl
      refine ⟨⟨?_, ok.c0, ok.c1, ok.l0, ok.l1, by show p'.length ≤ 11; (first | decide | exact Nat.le_trans (by assumption) (by decide) | lia | omega), ok.k0, ok.k1, fun d hd => hk d (List.mem_cons_of_mem _ hd), by have := ok.m0; show left + 2000 ≤ z.m0; (first | decide | exact Nat.le_trans (by assumption) (by decide) | lia | omega), by have := ok.m1; show left + 2000 ≤ z.m1; (first | decide | exact Nat.le_trans (by assumption) (by decide) | lia | omega), by show left + 2000 ≤ m; have := ok.m2; (first | decide | exact Nat.le_trans (by assumption) (by decide) | lia | omega)⟩, rfl⟩
      · show z.read + 1 + left ≤ rows.length; (first | decide | exact Nat.le_trans (by assumption) (by decide) | lia | omega)
  refine hQ _ _ hz.1 ?_
  rw [hz.2]
  have hP2 : ([(L, Ob.ns (locL xs rows co rd wt read' ++ [(Str.ofString "x", V.int n), (Str.ofString "k", V.int ((2 : Nat) : Int))])), (wt, Ob.list [.ref z.w0, .ref z.w1, .ref w']), (w', Ob.list (p'.map V.dat)), (rd, Ob.list [.ref g0, .ref g1, .ref g2]), (co, Ob.list [.int z.c0, .int z.c1]), (g2, Ob.gen n2 (GP W well x1 d1 m go' p')), (well, Ob.prop (LItP (((rows.drop read').map rowW).map V.dat)))] ++ (go' ++ ([(it, Ob.it r), (z.w0, Ob.list (z.p0.map V.dat)), (z.w1, Ob.list (z.p1.map V.dat)), (D, Ob.list [.ref x0, .ref x1]), (x1, Ob.obj (instObj 113 d1)), (d1, Ob.att (attC z.c1)), (x0, Ob.obj (instObj 113 d0)), (d0, Ob.att (attC z.c0)), (L + 2, Ob.cell (some (.ref D))), (L + 1, Ob.cell (some (.ref well))), (g1, Ob.gen n1 (GP W well x0 d0 z.m1 z.go1 z.p1)), (g0, Ob.gen n0 (GP W well x0 d0 z.m0 z.go0 z.p0))] ++ (z.go0 ++ (z.go1 ++ own))))).Perm ([(it, Ob.it r), (L, Ob.ns (locL xs rows co rd wt read' ++ [(Str.ofString "x", V.int n), (Str.ofString "k", V.int ((2 : Nat) : Int))])), (wt, Ob.list [.ref z.w0, .ref z.w1, .ref w']), (z.w0, Ob.list (z.p0.map V.dat)), (z.w1, Ob.list (z.p1.map V.dat)), (w', Ob.list (p'.map V.dat)), (rd, Ob.list [.ref g0, .ref g1, .ref g2]), (D, Ob.list [.ref x0, .ref x1]), (x1, Ob.obj (instObj 113 d1)), (d1, Ob.att (attC z.c1)), (x0, Ob.obj (instObj 113 d0)), (d0, Ob.att (attC z.c0)), (co, Ob.list [.int z.c0, .int z.c1]), (well, Ob.prop (LItP (((rows.drop read').map rowW).map V.dat))), (L + 2, Ob.cell (some (.ref D))), (L + 1, Ob.cell (some (.ref well))), (g2, Ob.gen n2 (GP W well x1 d1 m go' p')), (g1, Ob.gen n1 (GP W well x0 d0 z.m1 z.go1 z.p1)), (g0, Ob.gen n0 (GP W well x0 d0 z.m0 z.go0 z.p0))] ++ (go' ++ (z.go0 ++ (z.go1 ++ own)))) := (perm_split (by (with_reducible repeat first | exact List.Perm.refl _ | refine (Take.perm (by (with_reducible repeat first | exact Take.here | apply Take.there))).trans (List.Perm.cons _ ?_)))).symm
  exact hP2.trans (List.Perm.append_left [(it, Ob.it r), (L, Ob.ns (locL xs rows co rd wt read' ++ [(Str.ofString "x", V.int n), (Str.ofString "k", V.int ((2 : Nat) : Int))])), (wt, Ob.list [.ref z.w0, .ref z.w1, .ref w']), (z.w0, Ob.list (z.p0.map V.dat)), (z.w1, Ob.list (z.p1.map V.dat)), (w', Ob.list (p'.map V.dat)), (rd, Ob.list [.ref g0, .ref g1, .ref g2]), (D, Ob.list [.ref x0, .ref x1]), (x1, Ob.obj (instObj 113 d1)), (d1, Ob.att (attC z.c1)), (x0, Ob.obj (instObj 113 d0)), (d0, Ob.att (attC z.c0)), (co, Ob.list [.int z.c0, .int z.c1]), (well, Ob.prop (LItP (((rows.drop read').map rowW).map V.dat))), (L + 2, Ob.cell (some (.ref D))), (L + 1, Ob.cell (some (.ref well))), (g2, Ob.gen n2 (GP W well x1 d1 m go' p')), (g1, Ob.gen n1 (GP W well x0 d0 z.m1 z.go1 z.p1)), (g0, Ob.gen n0 (GP W well x0 d0 z.m0 z.go0 z.p0))] (((List.perm_append_comm_assoc ..).trans (List.Perm.append_left _ (List.perm_append_comm_assoc ..)))))
end
theorem zipT_ok {n : Nat} {flag : PyData} (hf : Ok (n + 2) flag) : ∀ {a b : List PyData}, (∀ d ∈ a, Ok (n + 2) d) → (∀ d ∈ b, Ok (n + 2) d) → ∀ d ∈ zipT flag a b, Ok (n + 3) d := by
  have hp : Ok (n + 2) padD := ok_tuple fun d hd => by
    simp only [List.mem_cons, List.not_mem_nil, or_false] at hd
    rcases hd with rfl | rfl
    · exact ok_str (by simp)
    · exact ok_str (by simp)
  have h3 : ∀ {x y : PyData}, Ok (n + 2) x → Ok (n + 2) y → Ok (n + 3) (.tuple [x, y, flag]) := fun hx hy => ok_tuple fun d hd => by
    simp only [List.mem_cons, List.not_mem_nil, or_false] at hd
    rcases hd with rfl | rfl | rfl
    · exact hx
    · exact hy
    · exact hf
  intro a
  induction a with
  | nil =>
    intro b
    induction b with
    | nil => intro _ _ d hd; simp [zT0] at hd
    | cons y b ih =>
      intro ha hb d hd
      rw [zT2] at hd
      rcases List.mem_cons.mp hd with rfl | hd
      · exact h3 hp (hb _ List.mem_cons_self)
      · exact ih ha (fun d h => hb d (List.mem_cons_of_mem _ h)) d hd
  | cons x a ih =>
    intro b ha hb d hd
    cases b with
    | nil =>
      rw [zT1] at hd
      rcases List.mem_cons.mp hd with rfl | hd
      · exact h3 (ha _ List.mem_cons_self) hp
      · exact ih (fun d h => ha d (List.mem_cons_of_mem _ h)) hb d hd
    | cons y b =>
      rw [zT3] at hd
      rcases List.mem_cons.mp hd with rfl | hd
      · exact h3 (ha _ List.mem_cons_self) (hb _ List.mem_cons_self)
      · exact ih (fun d h => ha d (List.mem_cons_of_mem _ h)) (fun d h => hb d (List.mem_cons_of_mem _ h)) d hd
theorem side_ok {n : Nat} {l : LineT} (h : LineOk l) (col : Nat) : ∀ d ∈ sideP l.1 l.2.1 l.2.2 col, Ok (n + 2) d := by
  obtain ⟨nO, mark, signs⟩ := l
  obtain ⟨hm, hsl, hs⟩ := h
  dsimp only at hm hsl hs ⊢
  have h2 : ∀ {x y : PyData}, Ok (n + 1) x → Ok (n + 1) y → Ok (n + 2) (.tuple [x, y]) := fun hx hy => ok_tuple fun d hd => by
    simp only [List.mem_cons, List.not_mem_nil, or_false] at hd
    rcases hd with rfl | rfl
    · exact hx
    · exact hy
  cases nO with
  | none =>
    intro d hd
    simp only [sideP, List.mem_cons, List.not_mem_nil, or_false] at hd
    subst hd
    exact h2 (ok_str (by simp)) (ok_str (by simp))
  | some i =>
    intro d hd
    unfold sideP pcs at hd
    obtain ⟨k, _, rfl⟩ := List.mem_map.mp hd
    unfold pcsAt
    refine h2 ?_ (ok_str fun c hc => ?_)
    · split
      · exact ok_int
      · exact ok_str (by simp)
    · have hmm : ∀ c ∈ mark, c < 1114112 := by
        rcases hm with rfl | ⟨m, rfl, h1, h2⟩
        · simp
        · intro c hc
          simp only [List.mem_cons, List.not_mem_nil, or_false] at hc
          (first | decide | exact Nat.le_trans (by assumption) (by decide) | lia | omega)
      have hss : ∀ c ∈ (signs.drop (k * col)).take col, c < 1114112 := fun c hc => by
        have := (hs c (List.mem_of_mem_drop (List.mem_of_mem_take hc))).2
        (first | decide | exact Nat.le_trans (by assumption) (by decide) | lia | omega)
      unfold wrapM at hc
      split at hc
      · exact hss c hc
      · simp only [List.mem_append, List.mem_cons, List.not_mem_nil, or_false] at hc
        rcases hc with ((rfl | h) | h) | rfl
        · (first | decide | exact Nat.le_trans (by assumption) (by decide) | lia | omega)
        · exact hmm c h
        · exact hss c h
        · (first | decide | exact Nat.le_trans (by assumption) (by decide) | lia | omega)
theorem due_all {r : RowT} (h : RowOk r) (c : Nat) : ∀ d ∈ dueL r.flag r.l r.r c, Ok 50 d := by
  obtain ⟨h1, h2, h3⟩ := h
  have hf : Ok 2 r.flag := by
    unfold FlagOk at h3
    simp only [List.mem_cons, List.not_mem_nil, or_false] at h3
    rcases h3 with e | e | e | e | e | e <;> rw [e]
    · exact ok_bool
    · exact ok_bool
    · exact ok_str (by simp)
    · exact ok_none
    · exact ok_int
    · exact ok_str (by simp)
  unfold dueL
  intro d hd
  exact (zipT_ok (n := 0) hf (side_ok h1 _) (side_ok h2 _) d hd).mono (by (first | decide | exact Nat.le_trans (by assumption) (by decide) | lia | omega))
section
variable {L wt rd co well D x0 x1 d0 d1 g0 g1 g2 : Addr} {n0 n1 n2 : Nat} {tq : Str} {ts : Scope} {tc : Value} {tb : List Stmt}
theorem loop1 (hK : K01 W) (hT : txtO (W.K.lookup 139) = some (tq, ts, tc, tb))
    (hA : A.handled = none) (hd : A.depth < 330) (hu : A.units < 200) {xs : List Int} {rows : List RowT} {z : LS} (hrows : rows.length ≤ 72) (hrok : ∀ r ∈ rows, RowOk r) (ok : LSOk rows xs.length z) {Q : Fl → Own → Prop}
    (hQ : ∀ z', LSOk rows 0 z' → Q .next ((L, Ob.ns (locL xs rows co rd wt z'.read)) :: stT W L wt rd co well D x0 x1 d0 d1 g0 g1 g2 n0 n1 n2 rows z' own)) :
    SX W A (envX tq ts L 139 tc [(Str.ofString "sheets", L + 2), (Str.ofString "well", L + 1)]) (nthS tb 8)
      ((L, Ob.ns (locL xs rows co rd wt z.read)) :: stT W L wt rd co well D x0 x1 d0 d1 g0 g1 g2 n0 n1 n2 rows z own) Q := by
  have hdo : ∀ r ∈ rows, ∀ c : Nat, ∀ d ∈ dueL r.flag r.l r.r c, Ok 50 d := fun r hr c => due_all (hrok r hr) c
  rw [K_of (a := 139) hK rfl] at hT
  change some (_, _, _, _) = _ at hT
  cases hT
  dsimp only [lawS, fdB, fdS, clB, PySem.Challenge.pw_dm0066_01, nthS, forT, forI, forB, forP, ifT, ifB, ifE, ifP]
  have hT0 := (congrArg txtO (K_of (a := 139) hK rfl)).trans (show _ = some (_, _, _, _) from rfl)
  refine SX_For hA ?_
  refine SE_Name ?_ (by decide +kernel)
  refine SN_loc rfl rfl (by (with_reducible repeat first | exact List.mem_cons_self | refine List.mem_cons_of_mem _ ?_ | assumption | exact mem_mid' | exact mem_mid (by assumption))) (by with_reducible rfl) (by (with_reducible repeat first | exact List.mem_cons_self | refine List.mem_cons_of_mem _ ?_ | assumption | exact mem_mid' | exact mem_mid (by assumption))) ?_
  refine it_list fun it => ⟨it, _, _, rfl, rfl, fun l o => ∃ (post : List Int) (z : LS), l = (post.map PyData.int).map V.dat ∧ LSOk rows post.length z ∧ o = (L, Ob.ns (locL xs rows co rd wt z.read)) :: stT W L wt rd co well D x0 x1 d0 d1 g0 g1 g2 n0 n1 n2 rows z own, ⟨xs, z, rfl, ok, rfl⟩, ?_, ?_⟩
  · clear ok z
    rintro v r o ⟨post, z, hl, ok, rfl⟩
    cases post with
    | nil => cases hl
    | cons n post =>
      injection hl with e1 e2
      subst e1 e2
      rw [List.length_cons] at ok
      have okr := ok.rd
      refine SA_Name ?_
      refine SS_loc (L := L) rfl rfl (by (with_reducible repeat first | exact List.mem_cons_self | refine List.mem_cons_of_mem _ ?_ | assumption | exact mem_mid' | exact mem_mid (by assumption))) (by with_reducible rfl) (by (with_reducible repeat first | exact Put.here | exact Put.new | apply Put.there)) (by (((first | dsimp only [List.map_cons, List.map_nil] | simp only [List.map_cons, List.map_nil]); decide +kernel))) (by (with_reducible repeat first | exact Upd.here | exact Upd.mid | apply Upd.there)) ?_
      refine SG.permPost ?_
      refine SXs_cons ?_
      refine SX_Assign ?_
      refine SE_BinOp ?_
      refine SE_Name ?_ (by decide +kernel)
      refine SN_loc rfl rfl (by (with_reducible repeat first | exact List.mem_cons_self | refine List.mem_cons_of_mem _ ?_ | assumption | exact mem_mid' | exact mem_mid (by assumption))) (by with_reducible rfl) (by (with_reducible repeat first | exact List.mem_cons_self | refine List.mem_cons_of_mem _ ?_ | assumption | exact mem_mid' | exact mem_mid (by assumption))) ?_
      refine SE_int ?_
      refine op_mod (by decide) ?_
      obtain ⟨k, hk, hk5⟩ : ∃ k : Nat, n % 5 = (k : Int) ∧ k < 5 := ⟨(n % 5).toNat, by (first | decide | exact Nat.le_trans (by assumption) (by decide) | lia | omega), by (first | decide | exact Nat.le_trans (by assumption) (by decide) | lia | omega)⟩
      rw [hk]
      refine SS_loc rfl rfl (by (with_reducible repeat first | exact List.mem_cons_self | refine List.mem_cons_of_mem _ ?_ | assumption | exact mem_mid' | exact mem_mid (by assumption))) (by with_reducible rfl) (by (with_reducible repeat first | exact Put.here | exact Put.new | apply Put.there)) (by (((first | dsimp only [List.map_cons, List.map_nil] | simp only [List.map_cons, List.map_nil]); decide +kernel))) (by (with_reducible repeat first | exact Upd.here | exact Upd.mid | apply Upd.there)) ?_
      refine SXs_cons ?_
      refine SX_If ?_
      refine ST_Compare ?_
      refine SE_Name ?_ (by decide +kernel)
      refine SN_loc rfl rfl (by (with_reducible repeat first | exact List.mem_cons_self | refine List.mem_cons_of_mem _ ?_ | assumption | exact mem_mid' | exact mem_mid (by assumption))) (by with_reducible rfl) (by (with_reducible repeat first | exact List.mem_cons_self | refine List.mem_cons_of_mem _ ?_ | assumption | exact mem_mid' | exact mem_mid (by assumption))) ?_
      refine SE_int ?_
      with_reducible refine cmp_lt ?_
      with_reducible refine tr_bool ?_
      have hcases : k = 0 ∨ k = 1 ∨ k = 2 ∨ k = 3 ∨ k = 4 := by (first | decide | exact Nat.le_trans (by assumption) (by decide) | lia | omega)
      rcases hcases with rfl | rfl | rfl | rfl | rfl
      · rw [show decide (((0 : Nat) : Int) < 3) = true from rfl]
        refine ite_tt' ?_
        refine turn_0 hK hT0 hA hd hu hrows hrok ok hdo ?_
        intro o z' ok' hp
        exact SXs_nil ⟨_, hp, _, .keep .refl (.keep (.ns (List.sublist_append_left _ _)) .refl), post, z', rfl, ok', rfl⟩
      · rw [show decide (((1 : Nat) : Int) < 3) = true from rfl]
        refine ite_tt' ?_
        refine turn_1 hK hT0 hA hd hu hrows hrok ok hdo ?_
        intro o z' ok' hp
        exact SXs_nil ⟨_, hp, _, .keep .refl (.keep (.ns (List.sublist_append_left _ _)) .refl), post, z', rfl, ok', rfl⟩
      · rw [show decide (((2 : Nat) : Int) < 3) = true from rfl]
        refine ite_tt' ?_
        refine turn_2 hK hT0 hA hd hu hrows hrok ok hdo ?_
        intro o z' ok' hp
        exact SXs_nil ⟨_, hp, _, .keep .refl (.keep (.ns (List.sublist_append_left _ _)) .refl), post, z', rfl, ok', rfl⟩
      · rw [show decide (((3 : Nat) : Int) < 3) = false from rfl]
        refine ite_ff' ?_
        refine SXs_cons ?_
        refine SX_If ?_
        refine ST_Compare ?_
        refine SE_Name ?_ (by decide +kernel)
        refine SN_loc rfl rfl (by (with_reducible repeat first | exact List.mem_cons_self | refine List.mem_cons_of_mem _ ?_ | assumption | exact mem_mid' | exact mem_mid (by assumption))) (by with_reducible rfl) (by (with_reducible repeat first | exact List.mem_cons_self | refine List.mem_cons_of_mem _ ?_ | assumption | exact mem_mid' | exact mem_mid (by assumption))) ?_
        refine SE_int ?_
        with_reducible refine cmp_eqI ?_
        with_reducible refine tr_bool ?_
        rw [show decide (((3 : Nat) : Int) = 3) = true from rfl]
        refine ite_tt' ?_
        refine SG.perm (by dsimp only [List.cons_append, List.nil_append]; (iterate 7 (refine (Take.perm (by (with_reducible repeat first | exact Take.here | apply Take.there))).trans (List.Perm.cons _ ?_))); exact Take.perm (by (with_reducible repeat first | exact Take.here | apply Take.there))) (turn_col (xs := xs) (rows := rows) (wt := wt) (rd := rd) (co := co) (read := z.read) (n := n) (k := 3) (L := L) (D := D) (x0 := x0) (x1 := x1) (d0 := d0) (d1 := d1) (c0 := z.c0) (c1 := z.c1) hK hT0 hA hd hu ?_)
        intro c hc1 hc4
        refine ⟨?_, ?_⟩
        · refine SXs_nil (SXs_nil ⟨(it, Ob.it ((post.map PyData.int).map V.dat)) :: (L, Ob.ns (locL xs rows co rd wt z.read ++ [(Str.ofString "x", V.int n), (Str.ofString "k", V.int ((3 : Nat) : Int))])) :: stT W L wt rd co well D x0 x1 d0 d1 g0 g1 g2 n0 n1 n2 rows { z with c0 := c } own, ?_, _, .keep .refl (.keep (.ns (List.sublist_append_left _ _)) .refl), post, { z with c0 := c }, rfl, ⟨by show z.read + post.length ≤ rows.length; (first | decide | exact Nat.le_trans (by assumption) (by decide) | lia | omega), ⟨hc1, hc4⟩, ok.c1, ok.l0, ok.l1, ok.l2, ok.k0, ok.k1, ok.k2, Nat.le_trans (by (first | decide | exact Nat.le_trans (by assumption) (by decide) | lia | omega)) ok.m0, Nat.le_trans (by (first | decide | exact Nat.le_trans (by assumption) (by decide) | lia | omega)) ok.m1, Nat.le_trans (by (first | decide | exact Nat.le_trans (by assumption) (by decide) | lia | omega)) ok.m2⟩, rfl⟩)
          dsimp only [stT, List.cons_append, List.nil_append]
          (with_reducible repeat first | exact List.Perm.refl _ | refine (Take.perm (by (with_reducible repeat first | exact Take.here | apply Take.there))).trans (List.Perm.cons _ ?_))
        · refine SXs_nil (SXs_nil ⟨(it, Ob.it ((post.map PyData.int).map V.dat)) :: (L, Ob.ns (locL xs rows co rd wt z.read ++ [(Str.ofString "x", V.int n), (Str.ofString "k", V.int ((3 : Nat) : Int))])) :: stT W L wt rd co well D x0 x1 d0 d1 g0 g1 g2 n0 n1 n2 rows { z with c1 := c } own, ?_, _, .keep .refl (.keep (.ns (List.sublist_append_left _ _)) .refl), post, { z with c1 := c }, rfl, ⟨by show z.read + post.length ≤ rows.length; (first | decide | exact Nat.le_trans (by assumption) (by decide) | lia | omega), ok.c0, ⟨hc1, hc4⟩, ok.l0, ok.l1, ok.l2, ok.k0, ok.k1, ok.k2, Nat.le_trans (by (first | decide | exact Nat.le_trans (by assumption) (by decide) | lia | omega)) ok.m0, Nat.le_trans (by (first | decide | exact Nat.le_trans (by assumption) (by decide) | lia | omega)) ok.m1, Nat.le_trans (by (first | decide | exact Nat.le_trans (by assumption) (by decide) | lia | omega)) ok.m2⟩, rfl⟩)
          dsimp only [stT, List.cons_append, List.nil_append]
          (with_reducible repeat first | exact List.Perm.refl _ | refine (Take.perm (by (with_reducible repeat first | exact Take.here | apply Take.there))).trans (List.Perm.cons _ ?_))
      · rw [show decide (((4 : Nat) : Int) < 3) = false from rfl]
        refine ite_ff' ?_
        refine SXs_cons ?_
        refine SX_If ?_
        refine ST_Compare ?_
        refine SE_Name ?_ (by decide +kernel)
        refine SN_loc rfl rfl (by (with_reducible repeat first | exact List.mem_cons_self | refine List.mem_cons_of_mem _ ?_ | assumption | exact mem_mid' | exact mem_mid (by assumption))) (by with_reducible rfl) (by (with_reducible repeat first | exact List.mem_cons_self | refine List.mem_cons_of_mem _ ?_ | assumption | exact mem_mid' | exact mem_mid (by assumption))) ?_
        refine SE_int ?_
        with_reducible refine cmp_eqI ?_
        with_reducible refine tr_bool ?_
        rw [show decide (((4 : Nat) : Int) = 3) = false from rfl]
        refine ite_ff' ?_
        refine SG.perm (by dsimp only [List.cons_append, List.nil_append]; (iterate 2 (refine (Take.perm (by (with_reducible repeat first | exact Take.here | apply Take.there))).trans (List.Perm.cons _ ?_))); exact Take.perm (by (with_reducible repeat first | exact Take.here | apply Take.there))) (turn_pull (xs := xs) (rows := rows) (wt := wt) (rd := rd) (co := co) (read := z.read) (n := n) (k := 4) (L := L) (well := well) hK hT0 hA hd hu hrows (by (first | decide | exact Nat.le_trans (by assumption) (by decide) | lia | omega)) hrok (fun r hr => hdo r hr 9) ?_)
        intro E l
        refine SXs_nil (SXs_nil ⟨(E, .list l) :: (it, Ob.it ((post.map PyData.int).map V.dat)) :: (L, Ob.ns (locL xs rows co rd wt (z.read + 1) ++ [(Str.ofString "x", V.int n), (Str.ofString "k", V.int ((4 : Nat) : Int))])) :: stT W L wt rd co well D x0 x1 d0 d1 g0 g1 g2 n0 n1 n2 rows { z with read := z.read + 1 } own, ?_, _, .drop (.keep .refl (.keep (.ns (List.sublist_append_left _ _)) .refl)), post, { z with read := z.read + 1 }, rfl, ⟨by show z.read + 1 + post.length ≤ rows.length; (first | decide | exact Nat.le_trans (by assumption) (by decide) | lia | omega), ok.c0, ok.c1, ok.l0, ok.l1, ok.l2, ok.k0, ok.k1, ok.k2, Nat.le_trans (by (first | decide | exact Nat.le_trans (by assumption) (by decide) | lia | omega)) ok.m0, Nat.le_trans (by (first | decide | exact Nat.le_trans (by assumption) (by decide) | lia | omega)) ok.m1, Nat.le_trans (by (first | decide | exact Nat.le_trans (by assumption) (by decide) | lia | omega)) ok.m2⟩, rfl⟩)
        dsimp only [stT, List.cons_append, List.nil_append]
        (with_reducible repeat first | exact List.Perm.refl _ | refine (Take.perm (by (with_reducible repeat first | exact Take.here | apply Take.there))).trans (List.Perm.cons _ ?_))
  · rintro o ⟨post, z', hl, ok', rfl⟩
    cases post with
    | nil => exact hQ z' ok'
    | cons n post => cases hl
end
theorem cut_from {α : Type} (l : List α) (k : Nat) (h : k ≤ l.length) : cutL l (some (k : Int)) none = l.drop k := by
  unfold cutL
  have e : clipAt l.length (k : Int) = k := by unfold clipAt; (first | decide | exact Nat.le_trans (by assumption) (by decide) | lia | omega)
  simp only [Option.elim, e]
  exact List.take_of_length_le (by rw [List.length_drop]; (first | decide | exact Nat.le_trans (by assumption) (by decide) | lia | omega))
noncomputable abbrev dueT (c : Nat) (r : RowT) : List PyData := dueL r.flag r.l r.r c
theorem alls_of {c : Nat} (hc : 0 < c) : ∀ {l : List RowT}, (∀ r ∈ l, RowOk r) → Alls c (l.map rowW) (l.flatMap (dueT c))
  | [], _ => .nil
  | r :: l, h => by
    rw [List.map_cons, List.flatMap_cons]
    have hr := h r List.mem_cons_self
    refine .cons (due_is hr hc) (fun e => ?_) (alls_of hc fun r hr => h r (List.mem_cons_of_mem _ hr))
    have : 1 ≤ (dueT c r).length := (due_len hr c).1
    rw [e] at this
    simp at this
theorem due_sum {c : Nat} : ∀ {l : List RowT}, (∀ r ∈ l, RowOk r) → (l.flatMap (dueT c)).length ≤ 11 * l.length
  | [], _ => by simp
  | r :: l, h => by
    rw [List.flatMap_cons, List.length_append, List.length_cons]
    have : (dueT c r).length ≤ 11 := (due_len (h r List.mem_cons_self) c).2
    have := due_sum (c := c) (l := l) fun r hr => h r (List.mem_cons_of_mem _ hr)
    (first | decide | exact Nat.le_trans (by assumption) (by decide) | lia | omega)
theorem own_reads3 {fz : Heap} {s : Shared} (H : Hold W fz own s) {D a0 a1 a2 : Addr} {l0 l1 l2 : List PyData} (hm : (D, Ob.list [.ref a0, .ref a1, .ref a2]) ∈ own) (h0 : (a0, Ob.list (l0.map V.dat)) ∈ own) (h1 : (a1, Ob.list (l1.map V.dat)) ∈ own) (h2 : (a2, Ob.list (l2.map V.dat)) ∈ own) :
    ∃ as, Reads s.heap (.ref D) (.list [.list l0, .list l1, .list l2]) as := by
  obtain ⟨o, ho, vs, n, rfl, rs⟩ := H.get hm
  cases rs with | cons r0 rs => cases rs with | cons r1 rs => cases rs with | cons r2 rs =>
  cases rs
  cases r0.val_inv
  cases r1.val_inv
  cases r2.val_inv
  obtain ⟨as0, ra0⟩ := own_reads H h0
  obtain ⟨as1, ra1⟩ := own_reads H h1
  obtain ⟨as2, ra2⟩ := own_reads H h2
  exact ⟨_, .list ho rfl rfl (.cons ra0 (.cons ra1 (.cons ra2 .nil)))⟩
theorem cmp_eq3 {D a0 a1 a2 E b0 b1 b2 : Addr} {l0 l1 l2 : List PyData} {Q : V → Own → Prop} (hm : (D, Ob.list [.ref a0, .ref a1, .ref a2]) ∈ own) (h0 : (a0, Ob.list (l0.map V.dat)) ∈ own) (h1 : (a1, Ob.list (l1.map V.dat)) ∈ own) (h2 : (a2, Ob.list (l2.map V.dat)) ∈ own)
    (hm' : (E, Ob.list [.ref b0, .ref b1, .ref b2]) ∈ own) (h0' : (b0, Ob.list (l0.map V.dat)) ∈ own) (h1' : (b1, Ob.list (l1.map V.dat)) ∈ own) (h2' : (b2, Ob.list (l2.map V.dat)) ∈ own)
    (ok0 : ∀ d ∈ l0, Ok 50 d) (ok1 : ∀ d ∈ l1, Ok 50 d) (ok2 : ∀ d ∈ l2, Ok 50 d) (hu : A.units + 64 < cLine) (h : Q (.bool true) own) : S2 W A RV (compareOp .Eq) (.ref D) (.ref E) own Q := fun fz s v u H _ r1 r2 => by
  cases r1.val_inv
  cases r2.val_inv
  obtain ⟨as, ra⟩ := own_reads3 H hm h0 h1 h2
  obtain ⟨bs, rb⟩ := own_reads3 H hm' h0' h1' h2'
  have ok : Ok 52 (.list [.list l0, .list l1, .list l2]) := ok_list fun d hd => by
    simp only [List.mem_cons, List.not_mem_nil, or_false] at hd
    rcases hd with rfl | rfl | rfl
    · exact ok_list ok0
    · exact ok_list ok1
    · exact ok_list ok2
  refine SeqAt.compareEq_reads ra rb ok.1 ok.1 (by have := ok.2; (first | decide | exact Nat.le_trans (by assumption) (by decide) | lia | omega)) ?_
  rw [SeqAt.eqv_refl _ ok.1]
  exact at_tok H _ (.dat (.bool _)) h
section
variable {L wt rd co well D x0 x1 d0 d1 g0 g1 g2 : Addr} {n0 n1 n2 : Nat} {tq : Str} {ts : Scope} {tc : Value} {tb : List Stmt}
noncomputable abbrev stR (W : Wd) (L rd co well D x0 x1 d0 d1 g0 g1 g2 : Addr) (n0 n1 n2 : Nat) (rows : List RowT) (z : LS) (own : Own) : Own :=
  (z.w1, .list (z.p1.map V.dat)) :: (z.w2, .list (z.p2.map V.dat)) :: (rd, .list [.ref g0, .ref g1, .ref g2]) :: (D, .list [.ref x0, .ref x1]) ::
  (x1, .obj (instObj 113 d1)) :: (d1, .att (attC z.c1)) :: (x0, .obj (instObj 113 d0)) :: (d0, .att (attC z.c0)) :: (co, .list [.int z.c0, .int z.c1]) :: (well, .prop (LItP (((rows.drop z.read).map rowW).map V.dat))) :: (L + 2, .cell (some (.ref D))) :: (L + 1, .cell (some (.ref well))) ::
  (g2, .gen n2 (GP W well x1 d1 z.m2 z.go2 z.p2)) :: (g1, .gen n1 (GP W well x0 d0 z.m1 z.go1 z.p1)) :: (g0, .gen n0 (GP W well x0 d0 z.m0 z.go0 z.p0)) :: (z.go0 ++ (z.go1 ++ (z.go2 ++ own)))
theorem rest1 (hK : K01 W) (hT : txtO (W.K.lookup 139) = some (tq, ts, tc, tb))
    (hA : A.handled = none) (hd : A.depth < 330) (hu : A.units < 200) {xs : List Int} {rows : List RowT} {z : LS} (hrows : rows.length ≤ 72) (hrok : ∀ r ∈ rows, RowOk r) (ok : LSOk rows 0 z) {Q : Fl → Own → Prop}
    (hQ : ∀ o, Q (.ret (.bool true)) o) :
    SXs W A (envX tq ts L 139 tc [(Str.ofString "sheets", L + 2), (Str.ofString "well", L + 1)]) [nthS tb 9, nthS tb 10]
      ((L, Ob.ns (locL xs rows co rd wt z.read)) :: stT W L wt rd co well D x0 x1 d0 d1 g0 g1 g2 n0 n1 n2 rows z own) Q := by
  have okr := ok.rd
  have hc0 := ok.c0
  have hc1 := ok.c1
  have hrec : recursionLimit = 1000 := rfl
  have hcline : cLine = 9900 := rfl
  have hl0 := ok.l0
  have hl1 := ok.l1
  have hl2 := ok.l2
  have hm0 := ok.m0
  have hm1 := ok.m1
  have hm2 := ok.m2
  rw [K_of (a := 139) hK rfl] at hT
  change some (_, _, _, _) = _ at hT
  cases hT
  dsimp only [lawS, fdB, fdS, clB, PySem.Challenge.pw_dm0066_01, nthS, forT, forI, forB, forP, ifT, ifB, ifE, ifP]
  refine SXs_cons (SX_For hA ?_)
  refine SE_SliceL ?_
  refine SE_Name ?_ (by decide +kernel)
  refine SN_loc rfl rfl (by (with_reducible repeat first | exact List.mem_cons_self | refine List.mem_cons_of_mem _ ?_ | assumption | exact mem_mid' | exact mem_mid (by assumption))) (by with_reducible rfl) (by (with_reducible repeat first | exact List.mem_cons_self | refine List.mem_cons_of_mem _ ?_ | assumption | exact mem_mid' | exact mem_mid (by assumption))) ?_
  refine SPt_some ?_
  refine SE_Name ?_ (by decide +kernel)
  refine SN_loc rfl rfl (by (with_reducible repeat first | exact List.mem_cons_self | refine List.mem_cons_of_mem _ ?_ | assumption | exact mem_mid' | exact mem_mid (by assumption))) (by with_reducible rfl) (by (with_reducible repeat first | exact List.mem_cons_self | refine List.mem_cons_of_mem _ ?_ | assumption | exact mem_mid' | exact mem_mid (by assumption))) ?_
  with_reducible refine ⟨_, rfl, ?_⟩
  refine SPt_none ?_
  with_reducible refine ⟨_, rfl, ?_⟩
  refine ⟨by rw [sizeLine_eq, List.length_map]; (first | decide | exact Nat.le_trans (by assumption) (by decide) | lia | omega), ?_⟩
  rw [cut_from (rows.map rowD) z.read (by rw [List.length_map]; (first | decide | exact Nat.le_trans (by assumption) (by decide) | lia | omega)), ← List.map_drop]
  refine it_list fun it => ⟨it, _, _, rfl, rfl, fun l o => ∃ (pre post : List RowT), rows.drop z.read = pre ++ post ∧ l = (post.map rowD).map V.dat ∧ o = (L, Ob.ns (locL xs rows co rd wt z.read)) :: (wt, Ob.list [.ref z.w0, .ref z.w1, .ref z.w2]) :: (z.w0, Ob.list ((z.p0 ++ pre.flatMap (dueT z.c0)).map V.dat)) :: stR W L rd co well D x0 x1 d0 d1 g0 g1 g2 n0 n1 n2 rows z own, ?_, ?_, ?_⟩
  · exact ⟨[], rows.drop z.read, rfl, rfl, by rw [List.flatMap_nil, List.append_nil]⟩
  · rintro v r o ⟨pre, post, hpp, hl, rfl⟩
    cases post with
    | nil => cases hl
    | cons row post =>
      injection hl with e1 e2
      subst e1 e2
      have hmem : ∀ r ∈ pre ++ row :: post, RowOk r := fun r hr => hrok r (by rw [← hpp] at hr; exact List.mem_of_mem_drop hr)
      have hro := hmem row (by simp)
      have hsum := due_sum (c := z.c0) (l := pre) fun r hr => hmem r (by simp [hr])
      have hpl : pre.length ≤ 72 := by
        have := congrArg List.length hpp
        rw [List.length_drop, List.length_append, List.length_cons] at this
        (first | decide | exact Nat.le_trans (by assumption) (by decide) | lia | omega)
      have dl := due_len hro z.c0
      obtain ⟨b1, b2, b3, b4⟩ := due_ok hro
      refine SA_Name ?_
      refine SS_loc (L := L) rfl rfl (by (with_reducible repeat first | exact List.mem_cons_self | refine List.mem_cons_of_mem _ ?_ | assumption | exact mem_mid' | exact mem_mid (by assumption))) (by with_reducible rfl) (by (with_reducible repeat first | exact Put.here | exact Put.new | apply Put.there)) (by (((first | dsimp only [List.map_cons, List.map_nil] | simp only [List.map_cons, List.map_nil]); decide +kernel))) (by (with_reducible repeat first | exact Upd.here | exact Upd.mid | apply Upd.there)) ?_
      refine SXs_cons (SX_AugSub ?_)
      refine SE_Name ?_ (by decide +kernel)
      refine SN_loc rfl rfl (by (with_reducible repeat first | exact List.mem_cons_self | refine List.mem_cons_of_mem _ ?_ | assumption | exact mem_mid' | exact mem_mid (by assumption))) (by with_reducible rfl) (by (with_reducible repeat first | exact List.mem_cons_self | refine List.mem_cons_of_mem _ ?_ | assumption | exact mem_mid' | exact mem_mid (by assumption))) ?_
      refine SE_int ?_
      refine get_own (x := .ref z.w0) (by (with_reducible repeat first | exact List.mem_cons_self | refine List.mem_cons_of_mem _ ?_ | assumption | exact mem_mid' | exact mem_mid (by assumption))) (by (first | decide | exact Nat.le_trans (by assumption) (by decide) | lia | omega)) (by (first | dsimp only [List.length_cons, List.length_nil] | simp only [List.length_cons, List.length_nil]); (first | decide | exact Nat.le_trans (by assumption) (by decide) | lia | omega)) (by ((rw [sizeLine_eq]; simp))) rfl ?_
      refine SE_Call ?_
      refine SE_Name ?_ (by decide +kernel)
      refine SN_global rfl rfl rfl (nsIn_of (by assumption) rfl) ?_
      with_reducible refine ⟨_, rfl, ?_⟩
      refine SEs_cons ?_
      refine SE_Name ?_ (by decide +kernel)
      refine SN_loc rfl rfl (by (with_reducible repeat first | exact List.mem_cons_self | refine List.mem_cons_of_mem _ ?_ | assumption | exact mem_mid' | exact mem_mid (by assumption))) (by with_reducible rfl) (by (with_reducible repeat first | exact List.mem_cons_self | refine List.mem_cons_of_mem _ ?_ | assumption | exact mem_mid' | exact mem_mid (by assumption))) ?_
      refine SEs_cons ?_
      refine SE_Subscript ?_
      refine SE_Name ?_ (by decide +kernel)
      refine SN_loc rfl rfl (by (with_reducible repeat first | exact List.mem_cons_self | refine List.mem_cons_of_mem _ ?_ | assumption | exact mem_mid' | exact mem_mid (by assumption))) (by with_reducible rfl) (by (with_reducible repeat first | exact List.mem_cons_self | refine List.mem_cons_of_mem _ ?_ | assumption | exact mem_mid' | exact mem_mid (by assumption))) ?_
      refine SE_int ?_
      refine sub_own (d := .int z.c0) (by (with_reducible repeat first | exact List.mem_cons_self | refine List.mem_cons_of_mem _ ?_ | assumption | exact mem_mid' | exact mem_mid (by assumption))) (by (first | dsimp only [List.length_cons, List.length_nil] | simp only [List.length_cons, List.length_nil]); (first | decide | exact Nat.le_trans (by assumption) (by decide) | lia | omega)) (by (first | dsimp only [List.length_cons, List.length_nil] | simp only [List.length_cons, List.length_nil]); (first | decide | exact Nat.le_trans (by assumption) (by decide) | lia | omega)) (by ((rw [sizeLine_eq]; simp))) rfl ?_
      refine SEs_nil ?_
      refine ⟨kp_K (by rw [hK]; rfl), SLC.call ((c_due hK hA (by (first | decide | exact Nat.le_trans (by assumption) (by decide) | lia | omega)) (by (first | decide | exact Nat.le_trans (by assumption) (by decide) | lia | omega)) row.l row.r row.flag b1 b2 b3 b4 z.c0 (by (first | decide | exact Nat.le_trans (by assumption) (by decide) | lia | omega)) (by (first | decide | exact Nat.le_trans (by assumption) (by decide) | lia | omega))).mono ?_)⟩
      rintro v o ⟨E, rfl, rfl⟩
      refine op_iaddO (by (with_reducible repeat first | exact List.mem_cons_self | refine List.mem_cons_of_mem _ ?_ | assumption | exact mem_mid' | exact mem_mid (by assumption))) (by (with_reducible repeat first | exact Upd.here | exact Upd.mid | apply Upd.there)) (by rw [sizeLine_eq, List.length_map, List.length_map, List.length_append]; (first | decide | exact Nat.le_trans (by assumption) (by decide) | lia | omega)) ?_
      refine ⟨_, rfl, set_own (l := [.ref z.w0, .ref z.w1, .ref z.w2]) (by (first | decide | exact Nat.le_trans (by assumption) (by decide) | lia | omega)) (by (first | dsimp only [List.length_cons, List.length_nil] | simp only [List.length_cons, List.length_nil]); (first | decide | exact Nat.le_trans (by assumption) (by decide) | lia | omega)) (by ((rw [sizeLine_eq]; simp))) (by (with_reducible repeat first | exact Upd.here | exact Upd.mid | apply Upd.there)) ?_⟩
      refine SXs_nil ⟨_, .drop (.keep .refl (.keep (.ns (List.sublist_append_left (locL xs rows co rd wt z.read) [_])) .refl)), pre ++ [row], post, by rw [hpp]; simp, rfl, ?_⟩
      rw [List.flatMap_append, List.flatMap_cons, List.flatMap_nil, List.append_nil, ← List.append_assoc, List.map_append (l₁ := z.p0 ++ _)]
      rfl
  · rintro o ⟨pre, post, hpp, hl, rfl⟩
    cases post with
    | cons n post => cases hl
    | nil =>
    rw [List.append_nil] at hpp
    subst hpp
    have hmem : ∀ r ∈ rows.drop z.read, RowOk r := fun r hr => hrok r (List.mem_of_mem_drop hr)
    have hsum := due_sum (c := z.c0) hmem
    rw [List.length_drop] at hsum
    have hall := alls_of (c := z.c0) (by (first | decide | exact Nat.le_trans (by assumption) (by decide) | lia | omega)) hmem
    have hok : ∀ d ∈ (rows.drop z.read).flatMap (dueT z.c0), Ok 50 d := fun d hd => by
      obtain ⟨r, hr, hd⟩ := List.mem_flatMap.mp hd
      exact due_all (hmem r hr) _ d hd
    generalize htot : (rows.drop z.read).flatMap (dueT z.c0) = tot at hsum hall hok ⊢
    refine SXs_cons (SX_Return (SE_Compare (SE_CompX rfl (by decide +kernel) rfl (by decide +kernel) ?_)))
    refine SE_Name ?_ (by decide +kernel)
    refine SN_loc rfl rfl (by (with_reducible repeat first | exact List.mem_cons_self | refine List.mem_cons_of_mem _ ?_ | assumption | exact mem_mid' | exact mem_mid (by assumption))) (by with_reducible rfl) (by (with_reducible repeat first | exact List.mem_cons_self | refine List.mem_cons_of_mem _ ?_ | assumption | exact mem_mid' | exact mem_mid (by assumption))) ?_
    refine iter_own (by (with_reducible repeat first | exact List.mem_cons_self | refine List.mem_cons_of_mem _ ?_ | assumption | exact mem_mid' | exact mem_mid (by assumption))) fun it1 => ⟨it1, _, _, rfl, rfl, self_oit, fun C D3 => ?_⟩
    refine CLX_step (steps_own (by (with_reducible repeat first | exact List.mem_cons_self | refine List.mem_cons_of_mem _ ?_ | assumption | exact mem_mid' | exact mem_mid (by assumption))) rfl) ?_
    refine SA_Name ?_
    refine SS_loc rfl rfl (by (with_reducible repeat first | exact List.mem_cons_self | refine List.mem_cons_of_mem _ ?_ | assumption | exact mem_mid' | exact mem_mid (by assumption))) (by with_reducible rfl) (by (with_reducible repeat first | exact Put.here | exact Put.new | apply Put.there)) (by (((first | dsimp only [List.map_cons, List.map_nil] | simp only [List.map_cons, List.map_nil]); decide +kernel))) (by (with_reducible repeat first | exact Upd.here | exact Upd.mid | apply Upd.there)) ?_
    refine SE_Call ?_
    refine SE_Name ?_ (by decide +kernel)
    refine SN_builtin rfl rfl rfl rfl (nsIn_of (by assumption) rfl) rfl (by decide +kernel) ?_
    with_reducible refine ⟨_, rfl, ?_⟩
    refine SEs_cons ?_
    refine SE_Name ?_ (by decide +kernel)
    refine SN_loc rfl rfl (by (with_reducible repeat first | exact List.mem_cons_self | refine List.mem_cons_of_mem _ ?_ | assumption | exact mem_mid' | exact mem_mid (by assumption))) (by with_reducible rfl) (by (with_reducible repeat first | exact List.mem_cons_self | refine List.mem_cons_of_mem _ ?_ | assumption | exact mem_mid' | exact mem_mid (by assumption))) ?_
    refine SEs_nil ?_
    with_reducible refine ⟨kp_type, ?_⟩
    refine list_wrap (x := x0) (dx := d0) (it := well) (ga := g0) (g := n0) (n := z.m0) (col := z.c0) (go := z.go0) (rows := ((rows.drop z.read).map rowW)) (pend := z.p0) (outs := tot) (o := [(it1, oit rd (0 + 1)), (C, Ob.ns [(Str.ofString "reader", V.ref g0)]), (D3, Ob.list []), (L, Ob.ns (locL xs rows co rd wt z.read)), (wt, Ob.list [.ref z.w0, .ref z.w1, .ref z.w2]), (z.w0, Ob.list ((z.p0 ++ tot).map V.dat)), (z.w1, Ob.list (z.p1.map V.dat)), (z.w2, Ob.list (z.p2.map V.dat)), (rd, Ob.list [.ref g0, .ref g1, .ref g2]), (D, Ob.list [.ref x0, .ref x1]), (x1, Ob.obj (instObj 113 d1)), (d1, Ob.att (attC z.c1)), (x0, Ob.obj (instObj 113 d0)), (d0, Ob.att (attC z.c0)), (co, Ob.list [.int z.c0, .int z.c1]), (L + 2, Ob.cell (some (.ref D))), (L + 1, Ob.cell (some (.ref well))), (g2, Ob.gen n2 (GP W well x1 d1 z.m2 z.go2 z.p2)), (g1, Ob.gen n1 (GP W well x0 d0 z.m1 z.go1 z.p1))] ++ (z.go1 ++ (z.go2 ++ own))) hA (by (first | decide | exact Nat.le_trans (by assumption) (by decide) | lia | omega)) (by (first | decide | exact Nat.le_trans (by assumption) (by decide) | lia | omega)) (by dsimp only [List.cons_append, List.nil_append]; (with_reducible repeat first | exact List.mem_cons_self | refine List.mem_cons_of_mem _ ?_ | assumption | exact mem_mid' | exact mem_mid (by assumption))) (by dsimp only [List.cons_append, List.nil_append]; (with_reducible repeat first | exact List.mem_cons_self | refine List.mem_cons_of_mem _ ?_ | assumption | exact mem_mid' | exact mem_mid (by assumption)))
      hall (by (try (first | dsimp only [List.length_nil] | simp only [List.length_nil])); (first | decide | exact Nat.le_trans (by assumption) (by decide) | lia | omega)) (by (try (first | dsimp only [List.length_nil] | simp only [List.length_nil])); (first | decide | exact Nat.le_trans (by assumption) (by decide) | lia | omega)) (perm_split (P := [(it1, oit rd (0 + 1)), (C, Ob.ns [(Str.ofString "reader", V.ref g0)]), (D3, Ob.list []), (L, Ob.ns (locL xs rows co rd wt z.read)), (wt, Ob.list [.ref z.w0, .ref z.w1, .ref z.w2]), (z.w0, Ob.list ((z.p0 ++ tot).map V.dat)), (z.w1, Ob.list (z.p1.map V.dat)), (z.w2, Ob.list (z.p2.map V.dat)), (rd, Ob.list [.ref g0, .ref g1, .ref g2]), (D, Ob.list [.ref x0, .ref x1]), (x1, Ob.obj (instObj 113 d1)), (d1, Ob.att (attC z.c1)), (x0, Ob.obj (instObj 113 d0)), (d0, Ob.att (attC z.c0)), (co, Ob.list [.int z.c0, .int z.c1]), (well, Ob.prop (LItP (((rows.drop z.read).map rowW).map V.dat))), (L + 2, Ob.cell (some (.ref D))), (L + 1, Ob.cell (some (.ref well))), (g2, Ob.gen n2 (GP W well x1 d1 z.m2 z.go2 z.p2)), (g1, Ob.gen n1 (GP W well x0 d0 z.m1 z.go1 z.p1)), (g0, Ob.gen n0 (GP W well x0 d0 z.m0 z.go0 z.p0))]) (F := [(g0, Ob.gen n0 (GP W well x0 d0 z.m0 z.go0 z.p0))]) (E := [(well, Ob.prop (LItP (((rows.drop z.read).map rowW).map V.dat))), (it1, oit rd (0 + 1)), (C, Ob.ns [(Str.ofString "reader", V.ref g0)]), (D3, Ob.list []), (L, Ob.ns (locL xs rows co rd wt z.read)), (wt, Ob.list [.ref z.w0, .ref z.w1, .ref z.w2]), (z.w0, Ob.list ((z.p0 ++ tot).map V.dat)), (z.w1, Ob.list (z.p1.map V.dat)), (z.w2, Ob.list (z.p2.map V.dat)), (rd, Ob.list [.ref g0, .ref g1, .ref g2]), (D, Ob.list [.ref x0, .ref x1]), (x1, Ob.obj (instObj 113 d1)), (d1, Ob.att (attC z.c1)), (x0, Ob.obj (instObj 113 d0)), (d0, Ob.att (attC z.c0)), (co, Ob.list [.int z.c0, .int z.c1]), (L + 2, Ob.cell (some (.ref D))), (L + 1, Ob.cell (some (.ref well))), (g2, Ob.gen n2 (GP W well x1 d1 z.m2 z.go2 z.p2)), (g1, Ob.gen n1 (GP W well x0 d0 z.m1 z.go1 z.p1))]) (by (with_reducible repeat first | exact List.Perm.refl _ | refine (Take.perm (by (with_reducible repeat first | exact Take.here | apply Take.there))).trans (List.Perm.cons _ ?_)))) fun S0 => ?_
    dsimp only [List.cons_append, List.nil_append]
    refine ⟨_, _, _, _, .refl, by (with_reducible repeat first | exact Upd.here | exact Upd.mid | apply Upd.there), by ((rw [sizeLine_eq]; simp)), Take.perm (by (with_reducible repeat first | exact Take.here | apply Take.there)), ?_⟩
    refine CLX_step (steps_own (by (with_reducible repeat first | exact List.mem_cons_self | refine List.mem_cons_of_mem _ ?_ | assumption | exact mem_mid' | exact mem_mid (by assumption))) rfl) ?_
    refine SA_Name ?_
    refine SS_loc rfl rfl (by (with_reducible repeat first | exact List.mem_cons_self | refine List.mem_cons_of_mem _ ?_ | assumption | exact mem_mid' | exact mem_mid (by assumption))) (by with_reducible rfl) (by (with_reducible repeat first | exact Put.here | exact Put.new | apply Put.there)) (by (((first | dsimp only [List.map_cons, List.map_nil] | simp only [List.map_cons, List.map_nil]); decide +kernel))) (by (with_reducible repeat first | exact Upd.here | exact Upd.mid | apply Upd.there)) ?_
    refine SE_Call ?_
    refine SE_Name ?_ (by decide +kernel)
    refine SN_builtin rfl rfl rfl rfl (nsIn_of (by assumption) rfl) rfl (by decide +kernel) ?_
    with_reducible refine ⟨_, rfl, ?_⟩
    refine SEs_cons ?_
    refine SE_Name ?_ (by decide +kernel)
    refine SN_loc rfl rfl (by (with_reducible repeat first | exact List.mem_cons_self | refine List.mem_cons_of_mem _ ?_ | assumption | exact mem_mid' | exact mem_mid (by assumption))) (by with_reducible rfl) (by (with_reducible repeat first | exact List.mem_cons_self | refine List.mem_cons_of_mem _ ?_ | assumption | exact mem_mid' | exact mem_mid (by assumption))) ?_
    refine SEs_nil ?_
    with_reducible refine ⟨kp_type, ?_⟩
    refine list_wrap (x := x0) (dx := d0) (it := well) (ga := g1) (g := n1) (n := z.m1) (col := z.c0) (go := z.go1) (rows := []) (pend := z.p1) (outs := []) (o := [(it1, oit rd ((0 + 1) + 1)), (g0, Ob.gen n0 (· = .finished)), (S0, Ob.list ((z.p0 ++ tot).map V.dat)), (C, Ob.ns [(Str.ofString "reader", V.ref g1)]), (D3, Ob.list ([] ++ [V.ref S0])), (L, Ob.ns (locL xs rows co rd wt z.read)), (wt, Ob.list [.ref z.w0, .ref z.w1, .ref z.w2]), (z.w0, Ob.list ((z.p0 ++ tot).map V.dat)), (z.w1, Ob.list (z.p1.map V.dat)), (z.w2, Ob.list (z.p2.map V.dat)), (rd, Ob.list [.ref g0, .ref g1, .ref g2]), (D, Ob.list [.ref x0, .ref x1]), (x1, Ob.obj (instObj 113 d1)), (d1, Ob.att (attC z.c1)), (x0, Ob.obj (instObj 113 d0)), (d0, Ob.att (attC z.c0)), (co, Ob.list [.int z.c0, .int z.c1]), (L + 2, Ob.cell (some (.ref D))), (L + 1, Ob.cell (some (.ref well))), (g2, Ob.gen n2 (GP W well x1 d1 z.m2 z.go2 z.p2))] ++ (z.go2 ++ own)) hA (by (first | decide | exact Nat.le_trans (by assumption) (by decide) | lia | omega)) (by (first | decide | exact Nat.le_trans (by assumption) (by decide) | lia | omega)) (by dsimp only [List.cons_append, List.nil_append]; (with_reducible repeat first | exact List.mem_cons_self | refine List.mem_cons_of_mem _ ?_ | assumption | exact mem_mid' | exact mem_mid (by assumption))) (by dsimp only [List.cons_append, List.nil_append]; (with_reducible repeat first | exact List.mem_cons_self | refine List.mem_cons_of_mem _ ?_ | assumption | exact mem_mid' | exact mem_mid (by assumption)))
      .nil (by (try (first | dsimp only [List.length_nil] | simp only [List.length_nil])); (first | decide | exact Nat.le_trans (by assumption) (by decide) | lia | omega)) (by (try (first | dsimp only [List.length_nil] | simp only [List.length_nil])); (first | decide | exact Nat.le_trans (by assumption) (by decide) | lia | omega)) (perm_split (P := [(it1, oit rd ((0 + 1) + 1)), (g0, Ob.gen n0 (· = .finished)), (well, Ob.prop (LItP [])), (S0, Ob.list ((z.p0 ++ tot).map V.dat)), (C, Ob.ns [(Str.ofString "reader", V.ref g1)]), (D3, Ob.list ([] ++ [V.ref S0])), (L, Ob.ns (locL xs rows co rd wt z.read)), (wt, Ob.list [.ref z.w0, .ref z.w1, .ref z.w2]), (z.w0, Ob.list ((z.p0 ++ tot).map V.dat)), (z.w1, Ob.list (z.p1.map V.dat)), (z.w2, Ob.list (z.p2.map V.dat)), (rd, Ob.list [.ref g0, .ref g1, .ref g2]), (D, Ob.list [.ref x0, .ref x1]), (x1, Ob.obj (instObj 113 d1)), (d1, Ob.att (attC z.c1)), (x0, Ob.obj (instObj 113 d0)), (d0, Ob.att (attC z.c0)), (co, Ob.list [.int z.c0, .int z.c1]), (L + 2, Ob.cell (some (.ref D))), (L + 1, Ob.cell (some (.ref well))), (g2, Ob.gen n2 (GP W well x1 d1 z.m2 z.go2 z.p2)), (g1, Ob.gen n1 (GP W well x0 d0 z.m1 z.go1 z.p1))]) (F := [(g1, Ob.gen n1 (GP W well x0 d0 z.m1 z.go1 z.p1))]) (E := [(well, Ob.prop (LItP [])), (it1, oit rd ((0 + 1) + 1)), (g0, Ob.gen n0 (· = .finished)), (S0, Ob.list ((z.p0 ++ tot).map V.dat)), (C, Ob.ns [(Str.ofString "reader", V.ref g1)]), (D3, Ob.list ([] ++ [V.ref S0])), (L, Ob.ns (locL xs rows co rd wt z.read)), (wt, Ob.list [.ref z.w0, .ref z.w1, .ref z.w2]), (z.w0, Ob.list ((z.p0 ++ tot).map V.dat)), (z.w1, Ob.list (z.p1.map V.dat)), (z.w2, Ob.list (z.p2.map V.dat)), (rd, Ob.list [.ref g0, .ref g1, .ref g2]), (D, Ob.list [.ref x0, .ref x1]), (x1, Ob.obj (instObj 113 d1)), (d1, Ob.att (attC z.c1)), (x0, Ob.obj (instObj 113 d0)), (d0, Ob.att (attC z.c0)), (co, Ob.list [.int z.c0, .int z.c1]), (L + 2, Ob.cell (some (.ref D))), (L + 1, Ob.cell (some (.ref well))), (g2, Ob.gen n2 (GP W well x1 d1 z.m2 z.go2 z.p2))]) (by (with_reducible repeat first | exact List.Perm.refl _ | refine (Take.perm (by (with_reducible repeat first | exact Take.here | apply Take.there))).trans (List.Perm.cons _ ?_)))) fun S1 => ?_
    dsimp only [List.cons_append, List.nil_append]
    refine ⟨_, _, _, _, .refl, by (with_reducible repeat first | exact Upd.here | exact Upd.mid | apply Upd.there), by ((rw [sizeLine_eq]; simp)), Take.perm (by (with_reducible repeat first | exact Take.here | apply Take.there)), ?_⟩
    refine CLX_step (steps_own (by (with_reducible repeat first | exact List.mem_cons_self | refine List.mem_cons_of_mem _ ?_ | assumption | exact mem_mid' | exact mem_mid (by assumption))) rfl) ?_
    refine SA_Name ?_
    refine SS_loc rfl rfl (by (with_reducible repeat first | exact List.mem_cons_self | refine List.mem_cons_of_mem _ ?_ | assumption | exact mem_mid' | exact mem_mid (by assumption))) (by with_reducible rfl) (by (with_reducible repeat first | exact Put.here | exact Put.new | apply Put.there)) (by (((first | dsimp only [List.map_cons, List.map_nil] | simp only [List.map_cons, List.map_nil]); decide +kernel))) (by (with_reducible repeat first | exact Upd.here | exact Upd.mid | apply Upd.there)) ?_
    refine SE_Call ?_
    refine SE_Name ?_ (by decide +kernel)
    refine SN_builtin rfl rfl rfl rfl (nsIn_of (by assumption) rfl) rfl (by decide +kernel) ?_
    with_reducible refine ⟨_, rfl, ?_⟩
    refine SEs_cons ?_
    refine SE_Name ?_ (by decide +kernel)
    refine SN_loc rfl rfl (by (with_reducible repeat first | exact List.mem_cons_self | refine List.mem_cons_of_mem _ ?_ | assumption | exact mem_mid' | exact mem_mid (by assumption))) (by with_reducible rfl) (by (with_reducible repeat first | exact List.mem_cons_self | refine List.mem_cons_of_mem _ ?_ | assumption | exact mem_mid' | exact mem_mid (by assumption))) ?_
    refine SEs_nil ?_
    with_reducible refine ⟨kp_type, ?_⟩
    refine list_wrap (x := x1) (dx := d1) (it := well) (ga := g2) (g := n2) (n := z.m2) (col := z.c1) (go := z.go2) (rows := []) (pend := z.p2) (outs := []) (o := [(it1, oit rd (((0 + 1) + 1) + 1)), (g1, Ob.gen n1 (· = .finished)), (S1, Ob.list ((z.p1 ++ []).map V.dat)), (g0, Ob.gen n0 (· = .finished)), (S0, Ob.list ((z.p0 ++ tot).map V.dat)), (C, Ob.ns [(Str.ofString "reader", V.ref g2)]), (D3, Ob.list (([] ++ [V.ref S0]) ++ [V.ref S1])), (L, Ob.ns (locL xs rows co rd wt z.read)), (wt, Ob.list [.ref z.w0, .ref z.w1, .ref z.w2]), (z.w0, Ob.list ((z.p0 ++ tot).map V.dat)), (z.w1, Ob.list (z.p1.map V.dat)), (z.w2, Ob.list (z.p2.map V.dat)), (rd, Ob.list [.ref g0, .ref g1, .ref g2]), (D, Ob.list [.ref x0, .ref x1]), (x1, Ob.obj (instObj 113 d1)), (d1, Ob.att (attC z.c1)), (x0, Ob.obj (instObj 113 d0)), (d0, Ob.att (attC z.c0)), (co, Ob.list [.int z.c0, .int z.c1]), (L + 2, Ob.cell (some (.ref D))), (L + 1, Ob.cell (some (.ref well)))] ++ (own)) hA (by (first | decide | exact Nat.le_trans (by assumption) (by decide) | lia | omega)) (by (first | decide | exact Nat.le_trans (by assumption) (by decide) | lia | omega)) (by dsimp only [List.cons_append, List.nil_append]; (with_reducible repeat first | exact List.mem_cons_self | refine List.mem_cons_of_mem _ ?_ | assumption | exact mem_mid' | exact mem_mid (by assumption))) (by dsimp only [List.cons_append, List.nil_append]; (with_reducible repeat first | exact List.mem_cons_self | refine List.mem_cons_of_mem _ ?_ | assumption | exact mem_mid' | exact mem_mid (by assumption)))
      .nil (by (try (first | dsimp only [List.length_nil] | simp only [List.length_nil])); (first | decide | exact Nat.le_trans (by assumption) (by decide) | lia | omega)) (by (try (first | dsimp only [List.length_nil] | simp only [List.length_nil])); (first | decide | exact Nat.le_trans (by assumption) (by decide) | lia | omega)) (perm_split (P := [(it1, oit rd (((0 + 1) + 1) + 1)), (g1, Ob.gen n1 (· = .finished)), (well, Ob.prop (LItP [])), (S1, Ob.list ((z.p1 ++ []).map V.dat)), (g0, Ob.gen n0 (· = .finished)), (S0, Ob.list ((z.p0 ++ tot).map V.dat)), (C, Ob.ns [(Str.ofString "reader", V.ref g2)]), (D3, Ob.list (([] ++ [V.ref S0]) ++ [V.ref S1])), (L, Ob.ns (locL xs rows co rd wt z.read)), (wt, Ob.list [.ref z.w0, .ref z.w1, .ref z.w2]), (z.w0, Ob.list ((z.p0 ++ tot).map V.dat)), (z.w1, Ob.list (z.p1.map V.dat)), (z.w2, Ob.list (z.p2.map V.dat)), (rd, Ob.list [.ref g0, .ref g1, .ref g2]), (D, Ob.list [.ref x0, .ref x1]), (x1, Ob.obj (instObj 113 d1)), (d1, Ob.att (attC z.c1)), (x0, Ob.obj (instObj 113 d0)), (d0, Ob.att (attC z.c0)), (co, Ob.list [.int z.c0, .int z.c1]), (L + 2, Ob.cell (some (.ref D))), (L + 1, Ob.cell (some (.ref well))), (g2, Ob.gen n2 (GP W well x1 d1 z.m2 z.go2 z.p2))]) (F := [(g2, Ob.gen n2 (GP W well x1 d1 z.m2 z.go2 z.p2))]) (E := [(well, Ob.prop (LItP [])), (it1, oit rd (((0 + 1) + 1) + 1)), (g1, Ob.gen n1 (· = .finished)), (S1, Ob.list ((z.p1 ++ []).map V.dat)), (g0, Ob.gen n0 (· = .finished)), (S0, Ob.list ((z.p0 ++ tot).map V.dat)), (C, Ob.ns [(Str.ofString "reader", V.ref g2)]), (D3, Ob.list (([] ++ [V.ref S0]) ++ [V.ref S1])), (L, Ob.ns (locL xs rows co rd wt z.read)), (wt, Ob.list [.ref z.w0, .ref z.w1, .ref z.w2]), (z.w0, Ob.list ((z.p0 ++ tot).map V.dat)), (z.w1, Ob.list (z.p1.map V.dat)), (z.w2, Ob.list (z.p2.map V.dat)), (rd, Ob.list [.ref g0, .ref g1, .ref g2]), (D, Ob.list [.ref x0, .ref x1]), (x1, Ob.obj (instObj 113 d1)), (d1, Ob.att (attC z.c1)), (x0, Ob.obj (instObj 113 d0)), (d0, Ob.att (attC z.c0)), (co, Ob.list [.int z.c0, .int z.c1]), (L + 2, Ob.cell (some (.ref D))), (L + 1, Ob.cell (some (.ref well)))]) (by (with_reducible repeat first | exact List.Perm.refl _ | refine (Take.perm (by (with_reducible repeat first | exact Take.here | apply Take.there))).trans (List.Perm.cons _ ?_)))) fun S2 => ?_
    dsimp only [List.cons_append, List.nil_append]
    refine ⟨_, _, _, _, .refl, by (with_reducible repeat first | exact Upd.here | exact Upd.mid | apply Upd.there), by ((rw [sizeLine_eq]; simp)), Take.perm (by (with_reducible repeat first | exact Take.here | apply Take.there)), ?_⟩
    refine CLX_stop (stops_own hA (by (with_reducible repeat first | exact List.mem_cons_self | refine List.mem_cons_of_mem _ ?_ | assumption | exact mem_mid' | exact mem_mid (by assumption))) rfl) ?_
    refine ⟨(g2, Ob.gen n2 (· = .finished)) :: (well, Ob.prop (LItP [])) :: (S2, Ob.list ((z.p2 ++ []).map V.dat)) :: (g1, Ob.gen n1 (· = .finished)) :: (S1, Ob.list ((z.p1 ++ []).map V.dat)) :: (g0, Ob.gen n0 (· = .finished)) :: (S0, Ob.list ((z.p0 ++ tot).map V.dat)) :: (C, Ob.ns []) :: (D3, Ob.list ((([] ++ [V.ref S0]) ++ [V.ref S1]) ++ [V.ref S2])) :: (L, Ob.ns (locL xs rows co rd wt z.read)) :: (wt, Ob.list [.ref z.w0, .ref z.w1, .ref z.w2]) :: (z.w0, Ob.list ((z.p0 ++ tot).map V.dat)) :: (z.w1, Ob.list (z.p1.map V.dat)) :: (z.w2, Ob.list (z.p2.map V.dat)) :: (rd, Ob.list [.ref g0, .ref g1, .ref g2]) :: (D, Ob.list [.ref x0, .ref x1]) :: (x1, Ob.obj (instObj 113 d1)) :: (d1, Ob.att (attC z.c1)) :: (x0, Ob.obj (instObj 113 d0)) :: (d0, Ob.att (attC z.c0)) :: (co, Ob.list [.int z.c0, .int z.c1]) :: (L + 2, Ob.cell (some (.ref D))) :: (L + 1, Ob.cell (some (.ref well))) :: own, _, _, by (with_reducible repeat first | exact Wk.refl | exact Wk.nil | refine Wk.keep ObW.refl ?_ | refine Wk.keep (ObW.ns (by (with_reducible repeat first | exact List.Sublist.refl _ | exact List.nil_sublist _ | apply List.Sublist.cons_cons | apply List.Sublist.cons))) ?_ | apply Wk.drop), (Take.perm (by (with_reducible repeat first | exact Take.here | apply Take.there))).trans (List.Perm.cons _ (Take.perm (by (with_reducible repeat first | exact Take.here | apply Take.there)))), ?_⟩
    dsimp only [List.cons_append, List.nil_append]
    refine SE_Name ?_ (by decide +kernel)
    refine SN_loc rfl rfl (by (with_reducible repeat first | exact List.mem_cons_self | refine List.mem_cons_of_mem _ ?_ | assumption | exact mem_mid' | exact mem_mid (by assumption))) (by with_reducible rfl) (by (with_reducible repeat first | exact List.mem_cons_self | refine List.mem_cons_of_mem _ ?_ | assumption | exact mem_mid' | exact mem_mid (by assumption))) ?_
    rw [List.append_nil z.p1, List.append_nil z.p2]
    refine cmp_eq3 (l0 := z.p0 ++ tot) (l1 := z.p1) (l2 := z.p2) (a0 := S0) (a1 := S1) (a2 := S2) (b0 := z.w0) (b1 := z.w1) (b2 := z.w2) (by (with_reducible repeat first | exact List.mem_cons_self | refine List.mem_cons_of_mem _ ?_ | assumption | exact mem_mid' | exact mem_mid (by assumption))) (by (with_reducible repeat first | exact List.mem_cons_self | refine List.mem_cons_of_mem _ ?_ | assumption | exact mem_mid' | exact mem_mid (by assumption))) (by (with_reducible repeat first | exact List.mem_cons_self | refine List.mem_cons_of_mem _ ?_ | assumption | exact mem_mid' | exact mem_mid (by assumption))) (by (with_reducible repeat first | exact List.mem_cons_self | refine List.mem_cons_of_mem _ ?_ | assumption | exact mem_mid' | exact mem_mid (by assumption))) (by (with_reducible repeat first | exact List.mem_cons_self | refine List.mem_cons_of_mem _ ?_ | assumption | exact mem_mid' | exact mem_mid (by assumption))) (by (with_reducible repeat first | exact List.mem_cons_self | refine List.mem_cons_of_mem _ ?_ | assumption | exact mem_mid' | exact mem_mid (by assumption))) (by (with_reducible repeat first | exact List.mem_cons_self | refine List.mem_cons_of_mem _ ?_ | assumption | exact mem_mid' | exact mem_mid (by assumption))) (by (with_reducible repeat first | exact List.mem_cons_self | refine List.mem_cons_of_mem _ ?_ | assumption | exact mem_mid' | exact mem_mid (by assumption))) ?_ ok.k1 ok.k2 (by (first | decide | exact Nat.le_trans (by assumption) (by decide) | lia | omega)) ?_
    · intro d hd
      rcases List.mem_append.mp hd with h | h
      · exact ok.k0 d h
      · exact hok d h
    · exact hQ _
end
/-- of a generator less is known -/
theorem gen_wk {own own' : Own} {ga : Addr} {g : Nat} {P P' : GenState → Prop} (hP : ∀ x, P x → P' x) (u : Upd ga (.gen g P) (.gen g P') own own') : ∀ {fz : Heap} {s : Shared}, Hold W fz own s → Hold W fz own' s := fun {fz s} H => by
  have hk : own'.map (fun p => p.2.genOf) = own.map (fun p => p.2.genOf) := by
    clear H
    induction u with
    | here => rfl
    | there _ ih => rw [List.map_cons, List.map_cons, ih]
  have hfm : ∀ l : Own, l.filterMap (fun p => p.2.genOf) = (l.map (fun p => p.2.genOf)).filterMap id := fun l => by rw [List.filterMap_map]; rfl
  refine ⟨H.base, H.has, fun p hp => ?_, fun p hp => ?_, by rw [u.keys]; exact H.nd, ⟨H.gens.bare, fun p hp g' P1 e => ?_, by rw [hfm, hk, ← hfm]; exact H.gens.nd⟩, H.os⟩
  · rcases u.other p hp with rfl | h
    · obtain ⟨o, e, h⟩ := H.get u.mem
      exact ⟨o, e, h⟩
    · exact H.obs p h
  · rcases u.other p hp with rfl | h
    · exact H.out (ga, .gen g P) u.mem
    · exact H.out p h
  · rcases u.other p hp with rfl | h
    · injection e with e1 e2
      subst e1 e2
      obtain ⟨x, e, h⟩ := H.gens.st _ u.mem _ _ rfl
      exact ⟨x, e, hP x h⟩
    · exact H.gens.st p h _ _ e
theorem SG.gen {α β : Type} {R : Heap → β → α → Prop} {t : Sem α} {own own' : Own} {Q : β → Own → Prop} {ga : Addr} {g : Nat} {P P' : GenState → Prop} (u : Upd ga (.gen g P) (.gen g P') own own') (hP : ∀ x, P x → P' x) (h : SG W A R t own' Q) : SG W A R t own Q :=
  fun fz s H ht => h fz s (gen_wk hP u H) ht
set_option maxHeartbeats 4000000 in
theorem c_law (hK : K01 W) (hh : A.handled = none) (hd : A.depth < 320) (hu : A.units < 100) (ns : List Int) (hn : ns.length ≤ 63) :
    SLC W A (.ref 139) [.lst (ns.map .int)] own (fun r o => r = .bool true) := by
  refine' do_callE [Str.ofString "script"] [(Str.ofString "script", .lst (ns.map .int))] [(Str.ofString "sheets", 2, none), (Str.ofString "well", 1, none)] ?ho ?hcd (by have : recursionLimit = 1000 := rfl; omega) ?hb ?hcl ?ndc ?hkind ?hbind ?hh9 ?c1 ?c2 ?c3
  case ho => exact K_of hK rfl
  case hcd => rw [hK]; rfl
  case hb => intro s vs _ hl; obtain ⟨_, rfl⟩ := len_1 hl; exact BindsTo.of_eq rfl
  case hcl => intro L; rfl
  case ndc => (first | dsimp only [List.map_cons, List.map_nil] | simp only [List.map_cons, List.map_nil]); decide +kernel
  case hkind => (first | dsimp only [List.map_cons, List.map_nil] | simp only [List.map_cons, List.map_nil]); decide +kernel
  case hbind =>
    intro fz vs L r
    cases r with | cons r1 r => cases r; exact ⟨⟨⟨_, rfl, r1⟩, trivial⟩, rfl, rfl, trivial⟩
  case c1 => rfl
  case c2 => rfl
  case c3 => rfl
  intro L
  dsimp only [lawS, nthS, fdB, fdS, clB, PySem.Challenge.pw_dm0066_01]
  (first | dsimp only [List.map_cons, List.map_nil, List.cons_append, List.nil_append] | simp only [List.map_cons, List.map_nil, List.cons_append, List.nil_append])
  refine @deeper_gen W A _ _ _ _ _ hh ?_
  intro A' hh' hd' hu'
  have hrec : recursionLimit = 1000 := rfl
  have hcl : cLine = 9900 := rfl
  refine SXs_cons ?_
  refine SX_Assign ?_
  refine SE_BinOp ?_
  refine SE_Name ?_ (by decide +kernel)
  refine SN_loc rfl rfl (by (with_reducible repeat first | exact List.mem_cons_self | refine List.mem_cons_of_mem _ ?_ | assumption | exact mem_mid' | exact mem_mid (by assumption))) (by with_reducible rfl) (by (with_reducible repeat first | exact List.mem_cons_self | refine List.mem_cons_of_mem _ ?_ | assumption | exact mem_mid' | exact mem_mid (by assumption))) ?_
  refine SE_ListF ?_
  refine SEs_cons ?_
  refine SE_int ?_
  refine SEs_cons ?_
  refine SE_int ?_
  refine SEs_cons ?_
  refine SE_int ?_
  refine SEs_cons ?_
  refine SE_int ?_
  refine SEs_cons ?_
  refine SE_int ?_
  refine SEs_cons ?_
  refine SE_int ?_
  refine SEs_cons ?_
  refine SE_int ?_
  refine SEs_cons ?_
  refine SE_int ?_
  refine SEs_cons ?_
  refine SE_int ?_
  refine SEs_nil ?_
  with_reducible refine ⟨_, by with_reducible ((first | exact AllDat.map _ | repeat first | exact AllDat.nil | with_reducible apply AllDat.cons)), by ((rw [sizeLine_eq]; simp)), ?_⟩
  refine op_addL (by rw [sizeLine_eq]; simp only [List.length_map, List.length_cons, List.length_nil]; (first | decide | exact Nat.le_trans (by assumption) (by decide) | lia | omega)) ?_
  rw [show ns.map PyData.int ++ [PyData.int 20, PyData.int 41, PyData.int 12, PyData.int 5, PyData.int 33, PyData.int 6, PyData.int 14, PyData.int 10, PyData.int 27] = (ns ++ [20, 41, 12, 5, 33, 6, 14, 10, 27]).map PyData.int by rw [List.map_append]; rfl]
  have hns : (ns ++ [20, 41, 12, 5, 33, 6, 14, 10, 27]).length ≤ 72 := by rw [List.length_append]; (first | dsimp only [List.length_cons, List.length_nil] | simp only [List.length_cons, List.length_nil]); (first | decide | exact Nat.le_trans (by assumption) (by decide) | lia | omega)
  generalize ns ++ [20, 41, 12, 5, 33, 6, 14, 10, 27] = xs at hns ⊢
  refine SS_loc rfl rfl (by (with_reducible repeat first | exact List.mem_cons_self | refine List.mem_cons_of_mem _ ?_ | assumption | exact mem_mid' | exact mem_mid (by assumption))) (by with_reducible rfl) (by (with_reducible repeat first | exact Put.here | exact Put.new | apply Put.there)) (by (((first | dsimp only [List.map_cons, List.map_nil] | simp only [List.map_cons, List.map_nil]); decide +kernel))) (by (with_reducible repeat first | exact Upd.here | exact Upd.mid | apply Upd.there)) ?_
  refine SXs_cons ?_
  refine SX_Assign ?_
  refine SE_Call ?_
  refine SE_Name ?_ (by decide +kernel)
  refine SN_global rfl rfl rfl (nsIn_of (by assumption) rfl) ?_
  with_reducible refine ⟨_, rfl, ?_⟩
  refine SEs_cons ?_
  refine SE_Name ?_ (by decide +kernel)
  refine SN_loc rfl rfl (by (with_reducible repeat first | exact List.mem_cons_self | refine List.mem_cons_of_mem _ ?_ | assumption | exact mem_mid' | exact mem_mid (by assumption))) (by with_reducible rfl) (by (with_reducible repeat first | exact List.mem_cons_self | refine List.mem_cons_of_mem _ ?_ | assumption | exact mem_mid' | exact mem_mid (by assumption))) ?_
  refine SEs_nil ?_
  refine ⟨kp_K (by rw [hK]; rfl), SLC.call ((c_rows hK hh' (by (first | decide | exact Nat.le_trans (by assumption) (by decide) | lia | omega)) _ (by (first | decide | exact Nat.le_trans (by assumption) (by decide) | lia | omega))).mono ?_)⟩
  rintro r o ⟨rows, rfl, rfl, hrl, hrok⟩
  refine SS_loc rfl rfl (by (with_reducible repeat first | exact List.mem_cons_self | refine List.mem_cons_of_mem _ ?_ | assumption | exact mem_mid' | exact mem_mid (by assumption))) (by with_reducible rfl) (by (with_reducible repeat first | exact Put.here | exact Put.new | apply Put.there)) (by (((first | dsimp only [List.map_cons, List.map_nil] | simp only [List.map_cons, List.map_nil]); decide +kernel))) (by (with_reducible repeat first | exact Upd.here | exact Upd.mid | apply Upd.there)) ?_
  refine SXs_cons ?_
  refine SX_Assign ?_
  refine SE_Call ?_
  refine SE_Name ?_ (by decide +kernel)
  refine SN_builtin rfl rfl rfl rfl (nsIn_of (by assumption) rfl) rfl (by decide +kernel) ?_
  with_reducible refine ⟨_, rfl, ?_⟩
  refine SEs_cons ?_
  refine SE_CompMap (α := RowT) hh' rfl (by decide +kernel) rfl (by decide +kernel) ?_
  refine SE_Name ?_ (by decide +kernel)
  refine SN_loc rfl rfl (by (with_reducible repeat first | exact List.mem_cons_self | refine List.mem_cons_of_mem _ ?_ | assumption | exact mem_mid' | exact mem_mid (by assumption))) (by with_reducible rfl) (by (with_reducible repeat first | exact List.mem_cons_self | refine List.mem_cons_of_mem _ ?_ | assumption | exact mem_mid' | exact mem_mid (by assumption))) ?_
  refine it_list fun it => ⟨it, _, _, rfl, rfl, fun r => V.dat (rowD r), fun _ => true, rowW, rows, by rw [List.map_map]; rfl, by rw [sizeLine_eq]; (first | decide | exact Nat.le_trans (by assumption) (by decide) | lia | omega), ?_, ?_⟩
  · intro C D it3 r rr ys hr
    obtain ⟨d1, d2, d3, d4⟩ := due_ok (hrok r hr)
    refine SA_Name ?_
    refine SS_loc rfl rfl (by (with_reducible repeat first | exact List.mem_cons_self | refine List.mem_cons_of_mem _ ?_ | assumption | exact mem_mid' | exact mem_mid (by assumption))) (by with_reducible rfl) (by (with_reducible repeat first | exact Put.here | exact Put.new | apply Put.there)) (by ((simp only [List.map_cons, List.map_nil]; decide +kernel))) (by (with_reducible repeat first | exact Upd.here | exact Upd.mid | apply Upd.there)) ?_
    refine STs_nil ?_
    refine ⟨rfl, ?_⟩
    rw [if_pos rfl]
    refine SE_Subscript ?_
    refine SE_Call ?_
    refine SE_Name ?_ (by decide +kernel)
    refine SN_global rfl rfl rfl (nsIn_of (by assumption) rfl) ?_
    with_reducible refine ⟨_, rfl, ?_⟩
    refine SEs_cons ?_
    refine SE_Name ?_ (by decide +kernel)
    refine SN_loc rfl rfl (by (with_reducible repeat first | exact List.mem_cons_self | refine List.mem_cons_of_mem _ ?_ | assumption | exact mem_mid' | exact mem_mid (by assumption))) (by with_reducible rfl) (by (with_reducible repeat first | exact List.mem_cons_self | refine List.mem_cons_of_mem _ ?_ | assumption | exact mem_mid' | exact mem_mid (by assumption))) ?_
    refine SEs_cons ?_
    refine SE_int ?_
    refine SEs_nil ?_
    refine ⟨kp_K (by rw [hK]; rfl), SLC.call ((c_due hK hh' (by (first | decide | exact Nat.le_trans (by assumption) (by decide) | lia | omega)) (by (first | decide | exact Nat.le_trans (by assumption) (by decide) | lia | omega)) r.l r.r r.flag d1 d2 d3 d4 9 (by (first | decide | exact Nat.le_trans (by assumption) (by decide) | lia | omega)) (by (first | decide | exact Nat.le_trans (by assumption) (by decide) | lia | omega))).mono ?_)⟩
    rintro v o ⟨E, rfl, rfl⟩
    have dl := due_len (hrok r hr) 9
    refine SE_int ?_
    refine sub_own (d := .dat (rowW r)) (by (with_reducible repeat first | exact List.mem_cons_self | refine List.mem_cons_of_mem _ ?_ | assumption | exact mem_mid' | exact mem_mid (by assumption))) (by (first | decide | exact Nat.le_trans (by assumption) (by decide) | lia | omega)) (by rw [List.length_map]; (first | decide | exact Nat.le_trans (by assumption) (by decide) | lia | omega)) (by rw [sizeLine_eq, List.length_map]; (first | decide | exact Nat.le_trans (by assumption) (by decide) | lia | omega)) (by rw [show place 0 _ = 0 from rfl, List.getElem?_map, due_head (hrok r hr)]; rfl) ?_
    exact ⟨rfl, by (with_reducible repeat first | exact Wk.refl | exact Wk.nil | refine Wk.keep ObW.refl ?_ | refine Wk.keep (ObW.ns (by (with_reducible repeat first | exact List.Sublist.refl _ | exact List.nil_sublist _ | apply List.Sublist.cons_cons | apply List.Sublist.cons))) ?_ | apply Wk.drop)⟩
  rw [show rows.filter (fun _ => true) = rows from List.filter_eq_self.mpr fun _ _ => rfl]
  refine SEs_nil ?_
  with_reducible refine ⟨kp_builtin, ?_⟩
  refine call_iter fun well => ?_
  refine SS_cell rfl rfl rfl (by (with_reducible repeat first | exact Upd.here | exact Upd.mid | apply Upd.there)) ?_
  refine SXs_cons ?_
  refine SX_Assign ?_
  refine SE_List (by ((rw [sizeLine_eq]; simp))) ?_
  refine SEs_cons ?_
  refine SE_int ?_
  refine SEs_cons ?_
  refine SE_int ?_
  refine SEs_nil ?_
  refine ⟨by ((rw [sizeLine_eq]; simp)), fun co => ?_⟩
  refine SS_loc rfl rfl (by (with_reducible repeat first | exact List.mem_cons_self | refine List.mem_cons_of_mem _ ?_ | assumption | exact mem_mid' | exact mem_mid (by assumption))) (by with_reducible rfl) (by (with_reducible repeat first | exact Put.here | exact Put.new | apply Put.there)) (by (((first | dsimp only [List.map_cons, List.map_nil] | simp only [List.map_cons, List.map_nil]); decide +kernel))) (by (with_reducible repeat first | exact Upd.here | exact Upd.mid | apply Upd.there)) ?_
  refine SXs_cons ?_
  refine SX_Assign (SE_CompX rfl (by decide +kernel) rfl (by decide +kernel) ?_)
  refine SE_Name ?_ (by decide +kernel)
  refine SN_loc rfl rfl (by (with_reducible repeat first | exact List.mem_cons_self | refine List.mem_cons_of_mem _ ?_ | assumption | exact mem_mid' | exact mem_mid (by assumption))) (by with_reducible rfl) (by (with_reducible repeat first | exact List.mem_cons_self | refine List.mem_cons_of_mem _ ?_ | assumption | exact mem_mid' | exact mem_mid (by assumption))) ?_
  refine iter_own (by (with_reducible repeat first | exact List.mem_cons_self | refine List.mem_cons_of_mem _ ?_ | assumption | exact mem_mid' | exact mem_mid (by assumption))) fun it1 => ⟨it1, _, _, rfl, rfl, self_oit, fun C D => ?_⟩
  refine CLX_step (steps_own (by (with_reducible repeat first | exact List.mem_cons_self | refine List.mem_cons_of_mem _ ?_ | assumption | exact mem_mid' | exact mem_mid (by assumption))) rfl) ?_
  refine SA_Name ?_
  refine SS_loc rfl rfl (by (with_reducible repeat first | exact List.mem_cons_self | refine List.mem_cons_of_mem _ ?_ | assumption | exact mem_mid' | exact mem_mid (by assumption))) (by with_reducible rfl) (by (with_reducible repeat first | exact Put.here | exact Put.new | apply Put.there)) (by (((first | dsimp only [List.map_cons, List.map_nil] | simp only [List.map_cons, List.map_nil]); decide +kernel))) (by (with_reducible repeat first | exact Upd.here | exact Upd.mid | apply Upd.there)) ?_
  refine SE_Call ?_
  refine SE_Name ?_ (by decide +kernel)
  refine SN_global rfl rfl rfl (nsIn_of (by assumption) rfl) ?_
  with_reducible refine ⟨_, rfl, ?_⟩
  refine SEs_cons ?_
  refine SE_int ?_
  refine SEs_cons ?_
  refine SE_Name ?_ (by decide +kernel)
  refine SN_loc rfl rfl (by (with_reducible repeat first | exact List.mem_cons_self | refine List.mem_cons_of_mem _ ?_ | assumption | exact mem_mid' | exact mem_mid (by assumption))) (by with_reducible rfl) (by (with_reducible repeat first | exact List.mem_cons_self | refine List.mem_cons_of_mem _ ?_ | assumption | exact mem_mid' | exact mem_mid (by assumption))) ?_
  refine SEs_nil ?_
  refine ⟨kp_K (by rw [hK]; rfl), do_sheet2 hK hh' (by (first | decide | exact Nat.le_trans (by assumption) (by decide) | lia | omega)) fun x0 d0 => ?_⟩
  refine ⟨_, _, _, _, .refl, by (with_reducible repeat first | exact Upd.here | exact Upd.mid | apply Upd.there), by ((rw [sizeLine_eq]; simp)), Take.perm (by (with_reducible repeat first | exact Take.here | apply Take.there)), ?_⟩
  refine CLX_step (steps_own (by (with_reducible repeat first | exact List.mem_cons_self | refine List.mem_cons_of_mem _ ?_ | assumption | exact mem_mid' | exact mem_mid (by assumption))) rfl) ?_
  refine SA_Name ?_
  refine SS_loc rfl rfl (by (with_reducible repeat first | exact List.mem_cons_self | refine List.mem_cons_of_mem _ ?_ | assumption | exact mem_mid' | exact mem_mid (by assumption))) (by with_reducible rfl) (by (with_reducible repeat first | exact Put.here | exact Put.new | apply Put.there)) (by (((first | dsimp only [List.map_cons, List.map_nil] | simp only [List.map_cons, List.map_nil]); decide +kernel))) (by (with_reducible repeat first | exact Upd.here | exact Upd.mid | apply Upd.there)) ?_
  refine SE_Call ?_
  refine SE_Name ?_ (by decide +kernel)
  refine SN_global rfl rfl rfl (nsIn_of (by assumption) rfl) ?_
  with_reducible refine ⟨_, rfl, ?_⟩
  refine SEs_cons ?_
  refine SE_int ?_
  refine SEs_cons ?_
  refine SE_Name ?_ (by decide +kernel)
  refine SN_loc rfl rfl (by (with_reducible repeat first | exact List.mem_cons_self | refine List.mem_cons_of_mem _ ?_ | assumption | exact mem_mid' | exact mem_mid (by assumption))) (by with_reducible rfl) (by (with_reducible repeat first | exact List.mem_cons_self | refine List.mem_cons_of_mem _ ?_ | assumption | exact mem_mid' | exact mem_mid (by assumption))) ?_
  refine SEs_nil ?_
  refine ⟨kp_K (by rw [hK]; rfl), do_sheet2 hK hh' (by (first | decide | exact Nat.le_trans (by assumption) (by decide) | lia | omega)) fun x1 d1 => ?_⟩
  refine ⟨_, _, _, _, .refl, by (with_reducible repeat first | exact Upd.here | exact Upd.mid | apply Upd.there), by ((rw [sizeLine_eq]; simp)), Take.perm (by (with_reducible repeat first | exact Take.here | apply Take.there)), ?_⟩
  refine CLX_stop (stops_own hh' (by (with_reducible repeat first | exact List.mem_cons_self | refine List.mem_cons_of_mem _ ?_ | assumption | exact mem_mid' | exact mem_mid (by assumption))) rfl) ?_
  refine ⟨(x1, Ob.obj (instObj 113 d1)) :: (d1, Ob.att (attC 2)) :: (x0, Ob.obj (instObj 113 d0)) :: (d0, Ob.att (attC 3)) :: (C, Ob.ns []) :: (D, Ob.list [V.ref x0, V.ref x1]) :: (co, Ob.list [V.int 3, V.int 2]) :: (well, Ob.prop (LItP ((rows.map rowW).map V.dat))) :: (L, Ob.ns [(Str.ofString "numbers", V.lst (xs.map PyData.int)), (Str.ofString "rows", V.lst (rows.map rowD)), (Str.ofString "columns", V.ref co)]) :: (L + 2, Ob.cell none) :: (L + 1, Ob.cell (some (V.ref well))) :: own, _, _, by (with_reducible repeat first | exact Wk.refl | exact Wk.nil | refine Wk.keep ObW.refl ?_ | refine Wk.keep (ObW.ns (by (with_reducible repeat first | exact List.Sublist.refl _ | exact List.nil_sublist _ | apply List.Sublist.cons_cons | apply List.Sublist.cons))) ?_ | apply Wk.drop), (Take.perm (by (with_reducible repeat first | exact Take.here | apply Take.there))).trans (List.Perm.cons _ (Take.perm (by (with_reducible repeat first | exact Take.here | apply Take.there)))), ?_⟩
  refine SS_cell rfl rfl rfl (by (with_reducible repeat first | exact Upd.here | exact Upd.mid | apply Upd.there)) ?_
  refine SXs_cons ?_
  refine SX_AssignCompX rfl (by decide +kernel) rfl (by decide +kernel) rfl ?_
  refine SE_Call ?_
  refine SE_Name ?_ (by decide +kernel)
  refine SN_builtin rfl rfl rfl rfl (nsIn_of (by assumption) rfl) rfl (by decide +kernel) ?_
  with_reducible refine ⟨_, rfl, ?_⟩
  refine SEs_cons ?_
  refine SE_int ?_
  refine SEs_nil ?_
  with_reducible refine ⟨kp_type, ?_⟩
  refine call_range1 ?_
  refine it_range (n := 3) rfl rfl fun it2 => ⟨it2, _, _, rfl, rfl, self_it, fun C2 D2 => ?_⟩
  rw [show (List.map (fun j : Nat => V.int (0 + (j:Int) * 1)) (List.range 3)) = [V.int 0, V.int 1, V.int 2] from rfl]
  refine CLX_step (steps_it) ?_
  refine SA_Name ?_
  refine SS_loc rfl rfl (by (with_reducible repeat first | exact List.mem_cons_self | refine List.mem_cons_of_mem _ ?_ | assumption | exact mem_mid' | exact mem_mid (by assumption))) (by with_reducible rfl) (by (with_reducible repeat first | exact Put.here | exact Put.new | apply Put.there)) (by (((first | dsimp only [List.map_cons, List.map_nil] | simp only [List.map_cons, List.map_nil]); decide +kernel))) (by (with_reducible repeat first | exact Upd.here | exact Upd.mid | apply Upd.there)) ?_
  refine SE_Meth ?_
  refine SE_Subscript ?_
  refine SE_Name ?_ (by decide +kernel)
  refine SN_cell rfl rfl rfl (by (with_reducible repeat first | exact List.mem_cons_self | refine List.mem_cons_of_mem _ ?_ | assumption | exact mem_mid' | exact mem_mid (by assumption))) ?_
  refine SE_BinOp ?_
  refine SE_Name ?_ (by decide +kernel)
  refine SN_loc rfl rfl (by (with_reducible repeat first | exact List.mem_cons_self | refine List.mem_cons_of_mem _ ?_ | assumption | exact mem_mid' | exact mem_mid (by assumption))) (by with_reducible rfl) (by (with_reducible repeat first | exact List.mem_cons_self | refine List.mem_cons_of_mem _ ?_ | assumption | exact mem_mid' | exact mem_mid (by assumption))) ?_
  refine SE_int ?_
  refine op_div (by decide) (by decide) ?_
  refine sub_own (d := .ref x0) (by (with_reducible repeat first | exact List.mem_cons_self | refine List.mem_cons_of_mem _ ?_ | assumption | exact mem_mid' | exact mem_mid (by assumption))) (by (first | dsimp only [List.length_cons, List.length_nil] | simp only [List.length_cons, List.length_nil]); decide) (by (first | dsimp only [List.length_cons, List.length_nil] | simp only [List.length_cons, List.length_nil]); decide) (by ((rw [sizeLine_eq]; simp))) rfl ?_
  refine mth_inst (cls01 hK) (by (with_reducible repeat first | exact List.mem_cons_self | refine List.mem_cons_of_mem _ ?_ | assumption | exact mem_mid' | exact mem_mid (by assumption))) (by (with_reducible repeat first | exact List.mem_cons_self | refine List.mem_cons_of_mem _ ?_ | assumption | exact mem_mid' | exact mem_mid (by assumption))) (by rw [hK]; rfl) (by rw [hK]; rfl) (by (((first | dsimp only [List.map_cons, List.map_nil] | simp only [List.map_cons, List.map_nil]); decide +kernel))) ?_
  refine SEs_cons ?_
  refine SE_Name ?_ (by decide +kernel)
  refine SN_cell rfl rfl rfl (by (with_reducible repeat first | exact List.mem_cons_self | refine List.mem_cons_of_mem _ ?_ | assumption | exact mem_mid' | exact mem_mid (by assumption))) ?_
  refine SEs_nil ?_
  refine ⟨kp_K (by rw [hK]; rfl), SLC.call (c_wrap (dx := d0) hK (by (first | decide | exact Nat.le_trans (by assumption) (by decide) | lia | omega)) fun l0 g0 n0 => ?_)⟩
  refine ⟨_, _, _, (C2, Ob.ns [(Str.ofString "k", V.int 0)]) :: (D2, Ob.list ([] ++ [V.ref g0])) :: (D, Ob.list [V.ref x0, V.ref x1]) ::
    (x1, Ob.obj (instObj 113 d1)) :: (d1, Ob.att (attC 2)) :: (x0, Ob.obj (instObj 113 d0)) :: (d0, Ob.att (attC 3)) :: (co, Ob.list [V.int 3, V.int 2]) :: (well, Ob.prop (LItP ((rows.map rowW).map V.dat))) :: (L, Ob.ns [(Str.ofString "numbers", V.lst (xs.map PyData.int)), (Str.ofString "rows", V.lst (rows.map rowD)), (Str.ofString "columns", V.ref co)]) :: (L + 2, Ob.cell (some (V.ref D))) :: (L + 1, Ob.cell (some (V.ref well))) :: (g0, Ob.gen n0 fun st => ∀ n, GP W well x0 d0 n [(l0, .ns (locF x0 well))] [] st) :: (l0, .ns (locF x0 well)) :: own, .refl, by (with_reducible repeat first | exact Upd.here | exact Upd.mid | apply Upd.there), by ((rw [sizeLine_eq]; simp)), by (with_reducible repeat first | exact List.Perm.refl _ | refine (Take.perm (by (with_reducible repeat first | exact Take.here | apply Take.there))).trans (List.Perm.cons _ ?_)), ?_⟩
  refine CLX_step (steps_it) ?_
  refine SA_Name ?_
  refine SS_loc rfl rfl (by (with_reducible repeat first | exact List.mem_cons_self | refine List.mem_cons_of_mem _ ?_ | assumption | exact mem_mid' | exact mem_mid (by assumption))) (by with_reducible rfl) (by (with_reducible repeat first | exact Put.here | exact Put.new | apply Put.there)) (by (((first | dsimp only [List.map_cons, List.map_nil] | simp only [List.map_cons, List.map_nil]); decide +kernel))) (by (with_reducible repeat first | exact Upd.here | exact Upd.mid | apply Upd.there)) ?_
  refine SE_Meth ?_
  refine SE_Subscript ?_
  refine SE_Name ?_ (by decide +kernel)
  refine SN_cell rfl rfl rfl (by (with_reducible repeat first | exact List.mem_cons_self | refine List.mem_cons_of_mem _ ?_ | assumption | exact mem_mid' | exact mem_mid (by assumption))) ?_
  refine SE_BinOp ?_
  refine SE_Name ?_ (by decide +kernel)
  refine SN_loc rfl rfl (by (with_reducible repeat first | exact List.mem_cons_self | refine List.mem_cons_of_mem _ ?_ | assumption | exact mem_mid' | exact mem_mid (by assumption))) (by with_reducible rfl) (by (with_reducible repeat first | exact List.mem_cons_self | refine List.mem_cons_of_mem _ ?_ | assumption | exact mem_mid' | exact mem_mid (by assumption))) ?_
  refine SE_int ?_
  refine op_div (by decide) (by decide) ?_
  refine sub_own (d := .ref x0) (by (with_reducible repeat first | exact List.mem_cons_self | refine List.mem_cons_of_mem _ ?_ | assumption | exact mem_mid' | exact mem_mid (by assumption))) (by (first | dsimp only [List.length_cons, List.length_nil] | simp only [List.length_cons, List.length_nil]); decide) (by (first | dsimp only [List.length_cons, List.length_nil] | simp only [List.length_cons, List.length_nil]); decide) (by ((rw [sizeLine_eq]; simp))) rfl ?_
  refine mth_inst (cls01 hK) (by (with_reducible repeat first | exact List.mem_cons_self | refine List.mem_cons_of_mem _ ?_ | assumption | exact mem_mid' | exact mem_mid (by assumption))) (by (with_reducible repeat first | exact List.mem_cons_self | refine List.mem_cons_of_mem _ ?_ | assumption | exact mem_mid' | exact mem_mid (by assumption))) (by rw [hK]; rfl) (by rw [hK]; rfl) (by (((first | dsimp only [List.map_cons, List.map_nil] | simp only [List.map_cons, List.map_nil]); decide +kernel))) ?_
  refine SEs_cons ?_
  refine SE_Name ?_ (by decide +kernel)
  refine SN_cell rfl rfl rfl (by (with_reducible repeat first | exact List.mem_cons_self | refine List.mem_cons_of_mem _ ?_ | assumption | exact mem_mid' | exact mem_mid (by assumption))) ?_
  refine SEs_nil ?_
  refine ⟨kp_K (by rw [hK]; rfl), SLC.call (c_wrap (dx := d0) hK (by (first | decide | exact Nat.le_trans (by assumption) (by decide) | lia | omega)) fun l1 g1 n1 => ?_)⟩
  refine ⟨_, _, _, (C2, Ob.ns [(Str.ofString "k", V.int 1)]) :: (D2, Ob.list ([] ++ [V.ref g0] ++ [V.ref g1])) :: (D, Ob.list [V.ref x0, V.ref x1]) ::
    (x1, Ob.obj (instObj 113 d1)) :: (d1, Ob.att (attC 2)) :: (x0, Ob.obj (instObj 113 d0)) :: (d0, Ob.att (attC 3)) :: (co, Ob.list [V.int 3, V.int 2]) :: (well, Ob.prop (LItP ((rows.map rowW).map V.dat))) :: (L, Ob.ns [(Str.ofString "numbers", V.lst (xs.map PyData.int)), (Str.ofString "rows", V.lst (rows.map rowD)), (Str.ofString "columns", V.ref co)]) :: (L + 2, Ob.cell (some (V.ref D))) :: (L + 1, Ob.cell (some (V.ref well))) :: (g1, Ob.gen n1 fun st => ∀ n, GP W well x0 d0 n [(l1, .ns (locF x0 well))] [] st) :: (l1, .ns (locF x0 well)) :: (g0, Ob.gen n0 fun st => ∀ n, GP W well x0 d0 n [(l0, .ns (locF x0 well))] [] st) :: (l0, .ns (locF x0 well)) :: own, .refl, by (with_reducible repeat first | exact Upd.here | exact Upd.mid | apply Upd.there), by ((rw [sizeLine_eq]; simp)), by (with_reducible repeat first | exact List.Perm.refl _ | refine (Take.perm (by (with_reducible repeat first | exact Take.here | apply Take.there))).trans (List.Perm.cons _ ?_)), ?_⟩
  refine CLX_step (steps_it) ?_
  refine SA_Name ?_
  refine SS_loc rfl rfl (by (with_reducible repeat first | exact List.mem_cons_self | refine List.mem_cons_of_mem _ ?_ | assumption | exact mem_mid' | exact mem_mid (by assumption))) (by with_reducible rfl) (by (with_reducible repeat first | exact Put.here | exact Put.new | apply Put.there)) (by (((first | dsimp only [List.map_cons, List.map_nil] | simp only [List.map_cons, List.map_nil]); decide +kernel))) (by (with_reducible repeat first | exact Upd.here | exact Upd.mid | apply Upd.there)) ?_
  refine SE_Meth ?_
  refine SE_Subscript ?_
  refine SE_Name ?_ (by decide +kernel)
  refine SN_cell rfl rfl rfl (by (with_reducible repeat first | exact List.mem_cons_self | refine List.mem_cons_of_mem _ ?_ | assumption | exact mem_mid' | exact mem_mid (by assumption))) ?_
  refine SE_BinOp ?_
  refine SE_Name ?_ (by decide +kernel)
  refine SN_loc rfl rfl (by (with_reducible repeat first | exact List.mem_cons_self | refine List.mem_cons_of_mem _ ?_ | assumption | exact mem_mid' | exact mem_mid (by assumption))) (by with_reducible rfl) (by (with_reducible repeat first | exact List.mem_cons_self | refine List.mem_cons_of_mem _ ?_ | assumption | exact mem_mid' | exact mem_mid (by assumption))) ?_
  refine SE_int ?_
  refine op_div (by decide) (by decide) ?_
  refine sub_own (d := .ref x1) (by (with_reducible repeat first | exact List.mem_cons_self | refine List.mem_cons_of_mem _ ?_ | assumption | exact mem_mid' | exact mem_mid (by assumption))) (by (first | dsimp only [List.length_cons, List.length_nil] | simp only [List.length_cons, List.length_nil]); decide) (by (first | dsimp only [List.length_cons, List.length_nil] | simp only [List.length_cons, List.length_nil]); decide) (by ((rw [sizeLine_eq]; simp))) rfl ?_
  refine mth_inst (cls01 hK) (by (with_reducible repeat first | exact List.mem_cons_self | refine List.mem_cons_of_mem _ ?_ | assumption | exact mem_mid' | exact mem_mid (by assumption))) (by (with_reducible repeat first | exact List.mem_cons_self | refine List.mem_cons_of_mem _ ?_ | assumption | exact mem_mid' | exact mem_mid (by assumption))) (by rw [hK]; rfl) (by rw [hK]; rfl) (by (((first | dsimp only [List.map_cons, List.map_nil] | simp only [List.map_cons, List.map_nil]); decide +kernel))) ?_
  refine SEs_cons ?_
  refine SE_Name ?_ (by decide +kernel)
  refine SN_cell rfl rfl rfl (by (with_reducible repeat first | exact List.mem_cons_self | refine List.mem_cons_of_mem _ ?_ | assumption | exact mem_mid' | exact mem_mid (by assumption))) ?_
  refine SEs_nil ?_
  refine ⟨kp_K (by rw [hK]; rfl), SLC.call (c_wrap (dx := d1) hK (by (first | decide | exact Nat.le_trans (by assumption) (by decide) | lia | omega)) fun l2 g2 n2 => ?_)⟩
  refine ⟨_, _, _, (C2, Ob.ns [(Str.ofString "k", V.int 2)]) :: (D2, Ob.list ([] ++ [V.ref g0] ++ [V.ref g1] ++ [V.ref g2])) :: (D, Ob.list [V.ref x0, V.ref x1]) ::
    (x1, Ob.obj (instObj 113 d1)) :: (d1, Ob.att (attC 2)) :: (x0, Ob.obj (instObj 113 d0)) :: (d0, Ob.att (attC 3)) :: (co, Ob.list [V.int 3, V.int 2]) :: (well, Ob.prop (LItP ((rows.map rowW).map V.dat))) :: (L, Ob.ns [(Str.ofString "numbers", V.lst (xs.map PyData.int)), (Str.ofString "rows", V.lst (rows.map rowD)), (Str.ofString "columns", V.ref co)]) :: (L + 2, Ob.cell (some (V.ref D))) :: (L + 1, Ob.cell (some (V.ref well))) :: (g2, Ob.gen n2 fun st => ∀ n, GP W well x1 d1 n [(l2, .ns (locF x1 well))] [] st) :: (l2, .ns (locF x1 well)) :: (g1, Ob.gen n1 fun st => ∀ n, GP W well x0 d0 n [(l1, .ns (locF x0 well))] [] st) :: (l1, .ns (locF x0 well)) :: (g0, Ob.gen n0 fun st => ∀ n, GP W well x0 d0 n [(l0, .ns (locF x0 well))] [] st) :: (l0, .ns (locF x0 well)) :: own, .refl, by (with_reducible repeat first | exact Upd.here | exact Upd.mid | apply Upd.there), by ((rw [sizeLine_eq]; simp)), by (with_reducible repeat first | exact List.Perm.refl _ | refine (Take.perm (by (with_reducible repeat first | exact Take.here | apply Take.there))).trans (List.Perm.cons _ ?_)), ?_⟩
  refine CLX_stop (stops_it hh') ?_
  refine ⟨(C2, Ob.ns []) :: (D2, Ob.list [V.ref g0, V.ref g1, V.ref g2]) :: (D, Ob.list [V.ref x0, V.ref x1]) ::
    (x1, Ob.obj (instObj 113 d1)) :: (d1, Ob.att (attC 2)) :: (x0, Ob.obj (instObj 113 d0)) :: (d0, Ob.att (attC 3)) :: (co, Ob.list [V.int 3, V.int 2]) :: (well, Ob.prop (LItP ((rows.map rowW).map V.dat))) :: (L, Ob.ns [(Str.ofString "numbers", V.lst (xs.map PyData.int)), (Str.ofString "rows", V.lst (rows.map rowD)), (Str.ofString "columns", V.ref co)]) :: (L + 2, Ob.cell (some (V.ref D))) :: (L + 1, Ob.cell (some (V.ref well))) :: (g2, Ob.gen n2 fun st => ∀ n, GP W well x1 d1 n [(l2, .ns (locF x1 well))] [] st) :: (l2, .ns (locF x1 well)) :: (g1, Ob.gen n1 fun st => ∀ n, GP W well x0 d0 n [(l1, .ns (locF x0 well))] [] st) :: (l1, .ns (locF x0 well)) :: (g0, Ob.gen n0 fun st => ∀ n, GP W well x0 d0 n [(l0, .ns (locF x0 well))] [] st) :: (l0, .ns (locF x0 well)) :: own, _, _, by (with_reducible repeat first | exact Wk.refl | exact Wk.nil | refine Wk.keep ObW.refl ?_ | refine Wk.keep (ObW.ns (by (with_reducible repeat first | exact List.Sublist.refl _ | exact List.nil_sublist _ | apply List.Sublist.cons_cons | apply List.Sublist.cons))) ?_ | apply Wk.drop), .refl _, ?_⟩
  refine SS_loc (L := L) rfl rfl (by (with_reducible repeat first | exact List.mem_cons_self | refine List.mem_cons_of_mem _ ?_ | assumption | exact mem_mid' | exact mem_mid (by assumption))) rfl (by (with_reducible repeat first | exact Put.here | exact Put.new | apply Put.there)) (by (((first | dsimp only [List.map_cons, List.map_nil] | simp only [List.map_cons, List.map_nil]); decide +kernel))) (by (with_reducible repeat first | exact Upd.here | exact Upd.mid | apply Upd.there)) ?_
  refine ⟨_, .refl, ?_⟩
  refine SXs_cons ?_
  refine SX_Assign ?_
  refine SE_List (by ((rw [sizeLine_eq]; simp))) ?_
  refine SEs_cons ?_
  refine SE_List (by ((rw [sizeLine_eq]; simp))) ?_
  refine SEs_nil ?_
  refine ⟨by ((rw [sizeLine_eq]; simp)), fun w0 => ?_⟩
  refine SEs_cons ?_
  refine SE_List (by ((rw [sizeLine_eq]; simp))) ?_
  refine SEs_nil ?_
  refine ⟨by ((rw [sizeLine_eq]; simp)), fun w1 => ?_⟩
  refine SEs_cons ?_
  refine SE_List (by ((rw [sizeLine_eq]; simp))) ?_
  refine SEs_nil ?_
  refine ⟨by ((rw [sizeLine_eq]; simp)), fun w2 => ?_⟩
  refine SEs_nil ?_
  refine ⟨by ((rw [sizeLine_eq]; simp)), fun wt => ?_⟩
  refine SS_loc rfl rfl (by (with_reducible repeat first | exact List.mem_cons_self | refine List.mem_cons_of_mem _ ?_ | assumption | exact mem_mid' | exact mem_mid (by assumption))) (by with_reducible rfl) (by (with_reducible repeat first | exact Put.here | exact Put.new | apply Put.there)) (by (((first | dsimp only [List.map_cons, List.map_nil] | simp only [List.map_cons, List.map_nil]); decide +kernel))) (by (with_reducible repeat first | exact Upd.here | exact Upd.mid | apply Upd.there)) ?_
  refine SXs_cons ?_
  refine SX_Assign ?_
  refine SE_int ?_
  refine SS_loc rfl rfl (by (with_reducible repeat first | exact List.mem_cons_self | refine List.mem_cons_of_mem _ ?_ | assumption | exact mem_mid' | exact mem_mid (by assumption))) (by with_reducible rfl) (by (with_reducible repeat first | exact Put.here | exact Put.new | apply Put.there)) (by (((first | dsimp only [List.map_cons, List.map_nil] | simp only [List.map_cons, List.map_nil]); decide +kernel))) (by (with_reducible repeat first | exact Upd.here | exact Upd.mid | apply Upd.there)) ?_
  refine SXs_cons ?_
  refine SG.gen (ga := g0) (P := fun st => ∀ n, GP W well x0 d0 n [(l0, .ns (locF x0 well))] [] st) (P' := GP W well x0 d0 3000 [(l0, .ns (locF x0 well))] []) (by (with_reducible repeat first | exact Upd.here | exact Upd.mid | apply Upd.there)) (fun st h => h 3000) ?_
  refine SG.gen (ga := g1) (P := fun st => ∀ n, GP W well x0 d0 n [(l1, .ns (locF x0 well))] [] st) (P' := GP W well x0 d0 3000 [(l1, .ns (locF x0 well))] []) (by (with_reducible repeat first | exact Upd.here | exact Upd.mid | apply Upd.there)) (fun st h => h 3000) ?_
  refine SG.gen (ga := g2) (P := fun st => ∀ n, GP W well x1 d1 n [(l2, .ns (locF x1 well))] [] st) (P' := GP W well x1 d1 3000 [(l2, .ns (locF x1 well))] []) (by (with_reducible repeat first | exact Upd.here | exact Upd.mid | apply Upd.there)) (fun st h => h 3000) ?_
  refine SG.perm (own' := (L, Ob.ns (locL xs rows co D2 wt 0)) :: stT W L wt D2 co well D x0 x1 d0 d1 g0 g1 g2 n0 n1 n2 rows ⟨0, 3, 2, w0, w1, w2, [], [], [], [(l0, .ns (locF x0 well))], [(l1, .ns (locF x0 well))], [(l2, .ns (locF x1 well))], 3000, 3000, 3000⟩ own) ?_ ?_
  · show List.Perm _ ((L, Ob.ns [(Str.ofString "numbers", V.lst (xs.map PyData.int)), (Str.ofString "rows", V.lst (rows.map rowD)), (Str.ofString "columns", V.ref co), (Str.ofString "readers", V.ref D2), (Str.ofString "waiting", V.ref wt), (Str.ofString "read", V.int 0)]) :: (wt, Ob.list [.ref w0, .ref w1, .ref w2]) :: (w0, Ob.list []) :: (w1, Ob.list []) :: (w2, Ob.list []) :: (D2, Ob.list [.ref g0, .ref g1, .ref g2]) :: (D, Ob.list [.ref x0, .ref x1]) :: (x1, Ob.obj (instObj 113 d1)) :: (d1, Ob.att (attC 2)) :: (x0, Ob.obj (instObj 113 d0)) :: (d0, Ob.att (attC 3)) :: (co, Ob.list [.int 3, .int 2]) :: (well, Ob.prop (LItP ((rows.map rowW).map V.dat))) :: (L + 2, Ob.cell (some (.ref D))) :: (L + 1, Ob.cell (some (.ref well))) :: (g2, Ob.gen n2 (GP W well x1 d1 3000 [(l2, .ns (locF x1 well))] [])) :: (g1, Ob.gen n1 (GP W well x0 d0 3000 [(l1, .ns (locF x0 well))] [])) :: (g0, Ob.gen n0 (GP W well x0 d0 3000 [(l0, .ns (locF x0 well))] [])) :: (l0, Ob.ns (locF x0 well)) :: (l1, Ob.ns (locF x0 well)) :: (l2, Ob.ns (locF x1 well)) :: own)
    (with_reducible repeat first | exact List.Perm.refl _ | refine (Take.perm (by (with_reducible repeat first | exact Take.here | apply Take.there))).trans (List.Perm.cons _ ?_))
  refine loop1 (xs := xs) (z := ⟨0, 3, 2, w0, w1, w2, [], [], [], [(l0, .ns (locF x0 well))], [(l1, .ns (locF x0 well))], [(l2, .ns (locF x1 well))], 3000, 3000, 3000⟩) hK ((congrArg txtO (K_of (a := 139) hK rfl)).trans rfl) hh' (by (first | decide | exact Nat.le_trans (by assumption) (by decide) | lia | omega)) (by (first | decide | exact Nat.le_trans (by assumption) (by decide) | lia | omega)) (by (first | decide | exact Nat.le_trans (by assumption) (by decide) | lia | omega)) hrok ⟨by show 0 + xs.length ≤ rows.length; (first | decide | exact Nat.le_trans (by assumption) (by decide) | lia | omega), ⟨by show 1 ≤ 3; (first | decide | exact Nat.le_trans (by assumption) (by decide) | lia | omega), by show 3 ≤ 4; (first | decide | exact Nat.le_trans (by assumption) (by decide) | lia | omega)⟩, ⟨by show 1 ≤ 2; (first | decide | exact Nat.le_trans (by assumption) (by decide) | lia | omega), by show 2 ≤ 4; (first | decide | exact Nat.le_trans (by assumption) (by decide) | lia | omega)⟩, by show 0 ≤ 11; (first | decide | exact Nat.le_trans (by assumption) (by decide) | lia | omega), by show 0 ≤ 11; (first | decide | exact Nat.le_trans (by assumption) (by decide) | lia | omega), by show 0 ≤ 11; (first | decide | exact Nat.le_trans (by assumption) (by decide) | lia | omega), by simp, by simp, by simp, by show xs.length + 2000 ≤ 3000; (first | decide | exact Nat.le_trans (by assumption) (by decide) | lia | omega), by show xs.length + 2000 ≤ 3000; (first | decide | exact Nat.le_trans (by assumption) (by decide) | lia | omega), by show xs.length + 2000 ≤ 3000; (first | decide | exact Nat.le_trans (by assumption) (by decide) | lia | omega)⟩ ?_
  intro z' ok'
  exact rest1 hK ((congrArg txtO (K_of (a := 139) hK rfl)).trans rfl) hh' (by (first | decide | exact Nat.le_trans (by assumption) (by decide) | lia | omega)) (by (first | decide | exact Nat.le_trans (by assumption) (by decide) | lia | omega)) (by (first | decide | exact Nat.le_trans (by assumption) (by decide) | lia | omega)) hrok ok' (fun o => ⟨o, .refl, rfl⟩)
theorem law_true {W : Wd} (hK : K01 W) (ns : List Int) (hn : ns.length ≤ 63) : SLC W callerA (.ref 139) [.lst (ns.map .int)] [] (fun r _ => r = .bool true) :=
  c_law hK rfl (by rw [depth_caller]; decide) (by rw [units_caller]; decide) ns hn
end
end Mine
open Mine in
set_option maxHeartbeats 8000000 in
theorem PySem.Challenge.cw_dm0066_01_holds : PySem.Challenge.rw_dm0066_01.Holds := by
  show Mine.rwP.Holds
  w_on
  o_law
  o_head (kHook Mine.K1 [3, 37, 43, 44, 66, 67, 73, 74, 112, 113, 123, 124, 128, 129, 133, 134, 138, 139] (fun _ => by kernel_rfl))
  (case hw => w_witness2)
  intro w s₀ s₁ mg mb G Y fa o pm cd doc dV kV ho hd hcd hD hmg hg args vals as hpre hlay hrd hwl hlo
  have KX := kIn_of Y
  refine Ground.open G ?_
  intro T B D TE TW
  clear ho hd hcd hD
  wrow_args hpre hlay hrd hwl hlo
  all_goals (
    first | refine callC_kw (enter_call ?_) | refine enter_call ?_ | refine callC_kw (enter_callW ?_) | refine enter_callW ?_ | w_how
    w_top on
    (rename Reads _ _ (PyData.list (List.map PyData.int _)) _ => r0)
    (rename ¬ ((_ : Int) < _) => hlen)
    refine codeAny_mono (Mine.join_law T KX hmg hg rfl r0 fun W e1 e2 => Mine.law_true (show W.K = _ by rw [e2, e1]) _ (by (first | decide | exact Nat.le_trans (by assumption) (by decide) | lia | omega))) ?_
    rintro r s' ⟨rfl, k, e1, e2⟩
    refine ⟨.inl ⟨_, _, [], rfl, fun cls => ?_, ReadsW.bool true, ?_, fun _ => ⟨List.nodup_nil, fun a ha => (nomatch ha)⟩⟩, k, e1, e2⟩
    · rfl
    · exact postW_of rfl (w_eq_bool (w_res rfl) w_lit) rfl)
