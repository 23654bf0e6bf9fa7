import PyProof.Rows.All
import Wide.All
import OpenK.AllK
import Wide.FinOn
import PySem.Challenge.RW_dm0066_03
open PySem PySem.W PyProof.Rows
set_option Elab.async false
set_option autoImplicit false
set_option linter.unusedVariables false
set_option linter.unusedSimpArgs false
set_option maxRecDepth 100000
namespace Mine
set_option maxHeartbeats 4000000
theorem startL (h : PySem.Challenge.rw_dm0066_03.row.wellSaid = true → PySem.Challenge.rw_dm0066_03.row.Holds) : PySem.Challenge.rw_dm0066_03.Holds := by
  w_on
  o_law
  exact h (by assumption)
section
/-- all of h stands in h' -/
noncomputable def Keep (h h' : Heap) : Prop := ∀ b o, h.get? b = some o → h'.get? b = some o
theorem Keep.refl (h : Heap) : Keep h h := fun _ _ e => e
theorem Keep.trans {h h₁ h₂ : Heap} (x : Keep h h₁) (y : Keep h₁ h₂) : Keep h h₂ := fun b o e => y b o (x b o e)

/-- a value as the rules see it: plain frozen data, a range, or the value itself -/
inductive V where
  | dat (d : PyData)
  | val (v : Value)
  | rng (a b c : Int)

noncomputable abbrev V.none : V := .dat .none
noncomputable abbrev V.bool (b : Bool) : V := .dat (.bool b)
noncomputable abbrev V.int (i : Int) : V := .dat (.int i)
noncomputable abbrev V.str (s : Str) : V := .dat (.str s)
noncomputable abbrev V.lst (l : List PyData) : V := .dat (.list l)
noncomputable abbrev V.tup (l : List PyData) : V := .dat (.tuple l)
noncomputable abbrev V.ref (a : Addr) : V := .val (.ref a)

inductive RV (fz : Heap) : V → Value → Prop
  | dat {d : PyData} {v : Value} {as : List Addr} : Reads fz v d as → RV fz (.dat d) v
  | val (v : Value) : RV fz (.val v) v
  | rng {r : Addr} {a b c : Int} {t u v : Tok} : IsRange fz r a b c t u v → RV fz (.rng a b c) (.ref r)

theorem IsRange_keep {h h' : Heap} {r : Addr} {a b c : Int} {t u v : Tok} (x : IsRange h r a b c t u v) (k : Keep h h') : IsRange h' r a b c t u v := by
  exact k _ _ x
theorem RV.mono {fz fz' : Heap} {a : V} {v : Value} (x : RV fz a v) (k : Keep fz fz') : RV fz' a v := by
  cases x with
  | dat r => exact .dat (Reads.keeps k r)
  | val v => exact .val v
  | rng r => exact .rng (IsRange_keep r k)

inductive RVs (fz : Heap) : List V → List Value → Prop
  | nil : RVs fz [] []
  | cons {a : V} {v : Value} {l : List V} {vs : List Value} : RV fz a v → RVs fz l vs → RVs fz (a :: l) (v :: vs)
theorem RVs.mono {fz fz' : Heap} {l : List V} {vs : List Value} (x : RVs fz l vs) (k : Keep fz fz') : RVs fz' l vs := by
  induction x with
  | nil => exact .nil
  | cons h _ ih => exact .cons (h.mono k) ih
theorem RVs.length {fz : Heap} {l : List V} {vs : List Value} (x : RVs fz l vs) : l.length = vs.length := by
  induction x with
  | nil => rfl
  | cons _ _ ih => simp [ih]
theorem RVs.append {fz : Heap} {l l' : List V} {vs vs' : List Value} (x : RVs fz l vs) (y : RVs fz l' vs') : RVs fz (l ++ l') (vs ++ vs') := by
  induction x with
  | nil => exact y
  | cons h _ ih => exact .cons h ih
theorem RVs.get {fz : Heap} {l : List V} {vs : List Value} (x : RVs fz l vs) : ∀ {i : Nat} {a : V}, l[i]? = some a → ∃ v, vs[i]? = some v ∧ RV fz a v := by
  induction x with
  | nil => intro i a e; simp at e
  | cons h _ ih =>
    intro i a e
    cases i with
    | zero => simp at e; subst e; exact ⟨_, rfl, h⟩
    | succ i => simp at e; simpa using ih e
theorem RVs.of_reads {fz : Heap} {vs : List Value} {ds : List PyData} {as : List Addr} (x : ReadsAll fz vs ds as) : RVs fz (ds.map V.dat) vs := by
  induction ds generalizing vs as with
  | nil => cases x; exact .nil
  | cons d ds ih => cases x with | cons h t => exact .cons (.dat h) (ih t)
theorem RVs.reads {fz : Heap} : ∀ {ds : List PyData} {vs : List Value}, RVs fz (ds.map V.dat) vs → ∃ as, ReadsAll fz vs ds as
  | [], _, x => by cases x; exact ⟨_, .nil⟩
  | d :: ds, _, x => by
    cases x with
    | cons h t =>
      cases h with
      | dat r => obtain ⟨as, ht⟩ := RVs.reads t; exact ⟨_, .cons r ht⟩

/-- what a made object is -/
inductive Ob where
  | ns (loc : List (Str × V))
  | cell (v : Option V)
  | list (l : List V)
  | tup (l : List V)
  | it (l : List V)
  | att (loc : List (Str × V))
  | obj (o : Obj)
  | prop (P : Heap → Obj → Prop)
  | gen (g : Nat) (P : GenState → Prop)
/-- a generator's number -/
noncomputable def Ob.genOf : Ob → Option Nat
  | .gen g _ => some g
  | _ => none

noncomputable def listObj (vs : List Value) (n : Nat) : Obj := { cls := .type "list", data := .seq vs.toArray n }
noncomputable def tupObj (vs : List Value) (n : Nat) : Obj := { cls := .type "tuple", data := .seq vs.toArray n }

noncomputable def NsIs (fz : Heap) (loc : List (Str × V)) (o : Obj) : Prop :=
  ∃ es ep, o.data = .dict es ep ∧ StrKeys es ∧ ∀ p ∈ loc, ∃ v, nsFind es p.1 = some v ∧ RV fz p.2 v

/-- a made thing's own attributes, all of them -/
noncomputable def AttIs (fz : Heap) (loc : List (Str × V)) (o : Obj) : Prop :=
  ∃ es ep, o.data = .dict es ep ∧ StrKeys es ∧ es.size ≤ loc.length ∧ (∀ p ∈ loc, ∃ v, nsFind es p.1 = some v ∧ RV fz p.2 v) ∧ ∀ x, x ∉ loc.map (·.1) → nsFind es x = none

/-- an iterator that has just these still to give -/
inductive ItIs (fz : Heap) : List V → Obj → Prop
  | list {a : Addr} {vs : Array Value} {i : Nat} {l : List V} {o : Obj} : fz.IsList a vs → RVs fz l (vs.toList.drop i) → o.cls = .type "list_iterator" → o.data = .fields #[.ref a, .int i 0] → ItIs fz l o
  | tup {a : Addr} {vs : Array Value} {i : Nat} {l : List V} {o : Obj} : fz.IsTuple a vs → RVs fz l (vs.toList.drop i) → o.cls = .type "tuple_iterator" → o.data = .fields #[.ref a, .int i 0] → ItIs fz l o
  | range {x c : Int} {n : Nat} {l : List V} {o : Obj} : l = (List.range n).map (fun j : Nat => V.int (x + (j : Int) * c)) → o = { cls := .type "range_iterator", data := .fields #[rawInt x, rawInt n, rawInt c] } → ItIs fz l o
  | ascii {x : Str} {t : Tok} {i : Nat} {l : List V} {o : Obj} : l = (x.cps.toList.drop i).map (fun c => V.str ⟨#[c]⟩) → o.cls = .type "str_ascii_iterator" → o.data = .fields #[.str x t, .int i 0] → ItIs fz l o
  | wide {x : Str} {t : Tok} {i : Nat} {l : List V} {o : Obj} : l = (x.cps.toList.drop i).map (fun c => V.str ⟨#[c]⟩) → o.cls = .type "str_iterator" → o.data = .fields #[.str x t, .int i 0] → ItIs fz l o
  | over {o : Obj} {k : Value} : o.cls = .type "list_iterator" → o.data = .fields #[.none, k] → ItIs fz [] o
theorem ItIs.mono {fz fz' : Heap} {l : List V} {o : Obj} (x : ItIs fz l o) (k : Keep fz fz') : ItIs fz' l o := by
  cases x with
  | list h r c d => obtain ⟨ob, e, q⟩ := h; exact .list ⟨ob, k _ _ e, q⟩ (r.mono k) c d
  | tup h r c d => obtain ⟨ob, e, q⟩ := h; exact .tup ⟨ob, k _ _ e, q⟩ (r.mono k) c d
  | range e q => exact .range e q
  | ascii e c d => exact .ascii e c d
  | wide e c d => exact .wide e c d
  | over c d => exact .over c d

noncomputable def ObIs (fz : Heap) : Ob → Obj → Prop
  | .ns loc, o => NsIs fz loc o
  | .cell none, o => o.data = .cell none
  | .cell (some a), o => ∃ v, o.data = .cell (some v) ∧ RV fz a v
  | .list l, o => ∃ vs n, o = listObj vs n ∧ RVs fz l vs
  | .tup l, o => ∃ vs n, o = tupObj vs n ∧ RVs fz l vs
  | .it l, o => ItIs fz l o
  | .att loc, o => AttIs fz loc o
  | .obj o', o => o = o'
  | .prop P, o => ∃ fz₀, Keep fz₀ fz ∧ P fz₀ o
  | .gen g _, o => o.cls = .type "generator" ∧ (∃ nm qn, o.data = .fields #[.int g 0, nm, qn]) ∧ o.slots = #[]

theorem ObIs.mono {fz fz' : Heap} {ob : Ob} {o : Obj} (x : ObIs fz ob o) (k : Keep fz fz') : ObIs fz' ob o := by
  cases ob with
  | ns loc => obtain ⟨es, ep, h1, h2, h3⟩ := x; exact ⟨es, ep, h1, h2, fun p hp => let ⟨v, e, r⟩ := h3 p hp; ⟨v, e, r.mono k⟩⟩
  | cell v => cases v with
    | none => exact x
    | some a => obtain ⟨v, e, r⟩ := x; exact ⟨v, e, r.mono k⟩
  | list l => obtain ⟨vs, n, e, r⟩ := x; exact ⟨vs, n, e, r.mono k⟩
  | tup l => obtain ⟨vs, n, e, r⟩ := x; exact ⟨vs, n, e, r.mono k⟩
  | it l => exact ItIs.mono x k
  | att loc => obtain ⟨es, ep, h1, h2, hz, h3, h4⟩ := x; exact ⟨es, ep, h1, h2, hz, fun p hp => let ⟨v, e, r⟩ := h3 p hp; ⟨v, e, r.mono k⟩, h4⟩
  | obj o' => exact x
  | prop P => obtain ⟨fz₀, k₀, h⟩ := x; exact ⟨fz₀, k₀.trans k, h⟩
  | gen g P => exact x

noncomputable abbrev Own := List (Addr × Ob)

/-- what stays through the whole law -/
structure Wd where
  prog : Program
  w : World
  base : Heap
  os : OsState
  K : Frag
  p : Program
  loose : List Str
  mg : Str → Option Value
  mb : Str → Option Value
  kin : K.In base
  top : TopRead p loose mg mb base
  bm : ∃ bm ob, mg "__builtins__" = some (.ref bm) ∧ bm ≠ builtinsNs ∧ base.get? bm = some ob ∧ ob.cls = .type "module" ∧ ob.dict = some builtinsNs ∧ ob.data = .plain
  tk : Nat

/-- the generators are as told -/
structure GensIs (own : Own) (gs : Array GenState) : Prop where
  bare : AllBare gs
  st : ∀ p ∈ own, ∀ g P, p.2 = .gen g P → ∃ x, gs[g]? = some x ∧ P x
  nd : (own.filterMap fun p => p.2.genOf).Nodup
theorem GensIs.nil {gs : Array GenState} (h : AllBare gs) : GensIs [] gs := ⟨h, fun p hp => (nomatch hp), List.nodup_nil⟩
theorem GensIs.sub {own own' : Own} {gs : Array GenState} (x : GensIs own gs) (h : own'.Sublist own) : GensIs own' gs :=
  ⟨x.bare, fun p hp => x.st p (h.subset hp), x.nd.sublist (h.filterMap _)⟩
theorem GensIs.perm {own own' : Own} {gs : Array GenState} (x : GensIs own gs) (h : own.Perm own') : GensIs own' gs :=
  ⟨x.bare, fun p hp => x.st p (h.mem_iff.mpr hp), (h.filterMap _).nodup_iff.mp x.nd⟩
theorem GensIs.cons {own : Own} {gs : Array GenState} {a : Addr} {ob : Ob} (x : GensIs own gs) (h : ob.genOf = none) : GensIs ((a, ob) :: own) gs := by
  refine ⟨x.bare, fun p hp g P e => ?_, ?_⟩
  · rcases List.mem_cons.mp hp with rfl | hp
    · rw [show ob = .gen g P from e] at h; cases h
    · exact x.st p hp g P e
  · rw [List.filterMap_cons, show (a, ob).2.genOf = none from h]; exact x.nd

structure Hold (W : Wd) (fz : Heap) (own : Own) (s : Shared) : Prop where
  base : Keep W.base fz
  has : Keep fz s.heap
  obs : ∀ p ∈ own, ∃ o, s.heap.get? p.1 = some o ∧ ObIs fz p.2 o
  out : ∀ p ∈ own, fz.get? p.1 = none
  nd : (own.map (·.1)).Nodup
  gens : GensIs own s.gens
  os : s.os = W.os

variable {W : Wd}

theorem Hold.toks {fz : Heap} {own : Own} {s : Shared} (H : Hold W fz own s) (k : Nat) : Hold W fz own { s with toks := k } := ⟨H.base, H.has, H.obs, H.out, H.nd, H.gens, H.os⟩
theorem Hold.kin {fz : Heap} {own : Own} {s : Shared} (H : Hold W fz own s) : W.K.In s.heap := W.kin.keeps (H.base.trans H.has)
theorem Hold.keep {fz : Heap} {own : Own} {s : Shared} (H : Hold W fz own s) : Keep W.base s.heap := H.base.trans H.has
theorem Hold.get {fz : Heap} {own : Own} {s : Shared} (H : Hold W fz own s) {a : Addr} {ob : Ob} (h : (a, ob) ∈ own) : ∃ o, s.heap.get? a = some o ∧ ObIs fz ob o := H.obs _ h

theorem Hold.sub {fz : Heap} {own own' : Own} {s : Shared} (H : Hold W fz own s) (h : own'.Sublist own) : Hold W fz own' s :=
  ⟨H.base, H.has, fun p hp => H.obs p (h.subset hp), fun p hp => H.out p (h.subset hp), H.nd.sublist (h.map _), H.gens.sub h, H.os⟩
theorem Hold.tail {fz : Heap} {p : Addr × Ob} {own : Own} {s : Shared} (H : Hold W fz (p :: own) s) : Hold W fz own s := H.sub (List.sublist_cons_self _ _)
theorem Hold.perm {fz : Heap} {own own' : Own} {s : Shared} (H : Hold W fz own s) (h : own.Perm own') : Hold W fz own' s :=
  ⟨H.base, H.has, fun p hp => H.obs p (h.mem_iff.mpr hp), fun p hp => H.out p (h.mem_iff.mpr hp), (h.map _).nodup_iff.mp H.nd, H.gens.perm h, H.os⟩

/-- one entry is turned -/
inductive Upd (a : Addr) (ob ob' : Ob) : Own → Own → Prop
  | here {l : Own} : Upd a ob ob' ((a, ob) :: l) ((a, ob') :: l)
  | there {p : Addr × Ob} {l l' : Own} : Upd a ob ob' l l' → Upd a ob ob' (p :: l) (p :: l')
theorem Upd.mem {a : Addr} {ob ob' : Ob} {l l' : Own} (u : Upd a ob ob' l l') : (a, ob) ∈ l := by
  induction u with
  | here => exact List.mem_cons_self
  | there _ ih => exact List.mem_cons_of_mem _ ih
theorem Upd.mem' {a : Addr} {ob ob' : Ob} {l l' : Own} (u : Upd a ob ob' l l') : (a, ob') ∈ l' := by
  induction u with
  | here => exact List.mem_cons_self
  | there _ ih => exact List.mem_cons_of_mem _ ih
theorem Upd.keys {a : Addr} {ob ob' : Ob} {l l' : Own} (u : Upd a ob ob' l l') : l'.map (·.1) = l.map (·.1) := by
  induction u with
  | here => rfl
  | there _ ih => simp [ih]
theorem Upd.other {a : Addr} {ob ob' : Ob} {l l' : Own} (u : Upd a ob ob' l l') : ∀ p ∈ l', p = (a, ob') ∨ p ∈ l := by
  induction u with
  | here => intro p hp; rcases List.mem_cons.mp hp with h | h; exact .inl h; exact .inr (List.mem_cons_of_mem _ h)
  | there _ ih => intro p hp; rcases List.mem_cons.mp hp with h | h; exact .inr (h ▸ List.mem_cons_self); exact (ih p h).imp id (List.mem_cons_of_mem _)
theorem mem_unique {l : Own} (nd : (l.map (·.1)).Nodup) {p q : Addr × Ob} (hp : p ∈ l) (hq : q ∈ l) (e : p.1 = q.1) : p = q := by
  induction l with
  | nil => cases hp
  | cons x l ih =>
    rw [List.map_cons, List.nodup_cons] at nd
    rcases List.mem_cons.mp hp with h1 | h1 <;> rcases List.mem_cons.mp hq with h2 | h2
    · rw [h1, h2]
    · exact absurd (List.mem_map.mpr ⟨q, h2, by rw [← e, h1]⟩) nd.1
    · exact absurd (List.mem_map.mpr ⟨p, h1, by rw [e, h2]⟩) nd.1
    · exact ih nd.2 h1 h2
theorem Upd.other' {a : Addr} {ob ob' : Ob} {l l' : Own} (nd : (l.map (·.1)).Nodup) (u : Upd a ob ob' l l') : ∀ p ∈ l', p = (a, ob') ∨ (p ∈ l ∧ p.1 ≠ a) := by
  induction u with
  | here =>
    intro p hp
    rw [List.map_cons, List.nodup_cons] at nd
    rcases List.mem_cons.mp hp with h | h
    · exact .inl h
    · exact .inr ⟨List.mem_cons_of_mem _ h, fun e => nd.1 (List.mem_map.mpr ⟨p, h, e⟩)⟩
  | @there q l l' v ih =>
    intro p hp
    rw [List.map_cons, List.nodup_cons] at nd
    rcases List.mem_cons.mp hp with h | h
    · subst h
      exact .inr ⟨List.mem_cons_self, fun e => nd.1 (List.mem_map.mpr ⟨_, v.mem, e.symm⟩)⟩
    · exact (ih nd.2 p h).imp id fun x => ⟨List.mem_cons_of_mem _ x.1, x.2⟩

theorem GensIs.upd {own own' : Own} {gs : Array GenState} {a : Addr} {ob ob' : Ob} (x : GensIs own gs) (u : Upd a ob ob' own own') (h : ob'.genOf = none) : GensIs own' gs := by
  refine ⟨x.bare, fun p hp g P e => ?_, ?_⟩
  · rcases u.other p hp with rfl | hp
    · rw [show ob' = .gen g P from e] at h; cases h
    · exact x.st p hp g P e
  · have : (own'.filterMap fun p => p.2.genOf).Sublist (own.filterMap fun p => p.2.genOf) := by
      clear x
      induction u with
      | here =>
        rw [List.filterMap_cons, show (a, ob').2.genOf = none from h]
        exact (List.sublist_cons_self _ _).filterMap _
      | @there q l l' _ ih =>
        rw [List.filterMap_cons, List.filterMap_cons]
        cases q.2.genOf with
        | none => exact ih
        | some n => exact ih.cons_cons n
    exact x.nd.sublist this
theorem Hold.lt {fz : Heap} {own : Own} {s : Shared} (H : Hold W fz own s) {p : Addr × Ob} (h : p ∈ own) : p.1 < s.heap.objs.size := let ⟨_, e, _⟩ := H.obs p h; Heap.lt_size e

/-- an entry changes by a step that touches its object alone -/
theorem Hold.set {fz : Heap} {own own' : Own} {s : Shared} (H : Hold W fz own s) {a : Addr} {ob ob' : Ob} (u : Upd a ob ob' own own') {h' : Heap} {k : Nat} (hs : Heap.SameBut a s.heap h')
    {o : Obj} (ho : h'.get? a = some o) (hob : ObIs fz ob' o) (hg : ob'.genOf = none := by rfl) : Hold W fz own' { s with heap := h', toks := k } where
  base := H.base
  has := fun b o e => (hs.2 b (fun hb => by have := H.out _ u.mem; rw [hb] at e; exact absurd e (by rw [this]; exact fun x => nomatch x))).trans (H.has b o e)
  obs := fun p hp => by
    rcases u.other' H.nd p hp with rfl | ⟨h, hne⟩
    · exact ⟨o, ho, hob⟩
    · obtain ⟨o', e, r⟩ := H.obs p h
      exact ⟨o', (hs.2 p.1 hne).trans e, r⟩
  out := fun p hp => by
    rcases u.other' H.nd p hp with rfl | ⟨h, _⟩
    · exact H.out (a, ob) u.mem
    · exact H.out p h
  nd := by rw [u.keys]; exact H.nd
  gens := H.gens.upd u hg
  os := H.os

/-- a step that keeps all but what is not told -/
theorem Hold.grow {fz : Heap} {own : Own} {s : Shared} (H : Hold W fz own s) {h' : Heap} {k : Nat} (hk : Keep s.heap h') : Hold W fz own { s with heap := h', toks := k } where
  base := H.base
  has := H.has.trans hk
  obs := fun p hp => let ⟨o, e, r⟩ := H.obs p hp; ⟨o, hk _ _ e, r⟩
  out := H.out
  nd := H.nd
  gens := H.gens
  os := H.os

theorem get?_ge {h : Heap} {a : Addr} (x : h.objs.size ≤ a) : h.get? a = none := by
  cases e : h.get? a with
  | none => rfl
  | some o => exact absurd (Heap.lt_size e) (Nat.not_lt.mpr x)
theorem Keep.push (h : Heap) (o : Obj) : Keep h (h.push o) := fun _ _ e => Heap.get?_push_of_some o e

theorem base_le {h h' : Heap} (k : Keep h h') {a : Addr} (ha : h'.objs.size ≤ a) : h.get? a = none := by
  cases e : h.get? a with
  | none => rfl
  | some o => exact absurd (Heap.lt_size (k _ _ e)) (Nat.not_lt.mpr ha)

/-- a new object enters the list; the heap has grown -/
theorem Hold.new {fz : Heap} {own : Own} {s : Shared} (H : Hold W fz own s) {h' : Heap} {k : Nat} (hk : Keep s.heap h') {a : Addr} (ha : s.heap.get? a = none) {o : Obj} {ob : Ob}
    (ho : h'.get? a = some o) (hob : ObIs fz ob o) (hg : ob.genOf = none := by rfl) : Hold W fz ((a, ob) :: own) { s with heap := h', toks := k } where
  base := H.base
  has := H.has.trans hk
  obs := fun p hp => by
    rcases List.mem_cons.mp hp with rfl | hp
    · exact ⟨o, ho, hob⟩
    · obtain ⟨o', e, r⟩ := H.obs p hp
      exact ⟨o', hk _ _ e, r⟩
  out := fun p hp => by
    rcases List.mem_cons.mp hp with rfl | hp
    · cases e : fz.get? a with
      | none => rfl
      | some o' => exact absurd (H.has _ _ e) (by rw [ha]; exact fun x => nomatch x)
    · exact H.out p hp
  nd := by
    rw [List.map_cons, List.nodup_cons]
    refine ⟨fun hm => ?_, H.nd⟩
    obtain ⟨p, hp, e⟩ := List.mem_map.mp hm
    obtain ⟨o', e', _⟩ := H.obs p hp
    rw [e, ha] at e'
    cases e'
  gens := H.gens.cons hg
  os := H.os
end
section
/-- no way raises -/
noncomputable abbrev NoX : Value → Shared → Prop := fun _ _ => False

/-- what stands behind a step -/
inductive Post {α β : Type} (W : Wd) (R : Heap → β → α → Prop) (Q : β → Own → Prop) (fz : Heap) (a : α) (s' : Shared) : Prop
  | mk (fz' : Heap) (b : β) (own' : Own) (k : Keep fz fz') (H : Hold W fz' own' s') (r : R fz' b a) (q : Q b own') : Post W R Q fz a s'
noncomputable def At {α β : Type} (W : Wd) (A : Around) (R : Heap → β → α → Prop) (t : Sem α) (Q : β → Own → Prop) (fz : Heap) (s : Shared) : Prop :=
  wpAny (model W.prog W.w) A t (fun a s' => Post W R Q fz a s') NoX s

noncomputable def SG {α β : Type} (W : Wd) (A : Around) (R : Heap → β → α → Prop) (t : Sem α) (own : Own) (Q : β → Own → Prop) : Prop :=
  ∀ fz s, Hold W fz own s → W.tk ≤ s.toks → At W A R t Q fz s

/-- of one value, of two, of a list -/
noncomputable def S1 {α β : Type} (W : Wd) (A : Around) (R : Heap → β → α → Prop) (f : Value → Sem α) (a : V) (own : Own) (Q : β → Own → Prop) : Prop :=
  ∀ fz s v, Hold W fz own s → W.tk ≤ s.toks → RV fz a v → At W A R (f v) Q fz s
noncomputable def S2 {α β : Type} (W : Wd) (A : Around) (R : Heap → β → α → Prop) (f : Value → Value → Sem α) (a b : V) (own : Own) (Q : β → Own → Prop) : Prop :=
  ∀ fz s v u, Hold W fz own s → W.tk ≤ s.toks → RV fz a v → RV fz b u → At W A R (f v u) Q fz s
noncomputable def SL {α β : Type} (W : Wd) (A : Around) (R : Heap → β → α → Prop) (f : List Value → Sem α) (l : List V) (own : Own) (Q : β → Own → Prop) : Prop :=
  ∀ fz s vs, Hold W fz own s → W.tk ≤ s.toks → RVs fz l vs → At W A R (f vs) Q fz s

noncomputable abbrev RB : Heap → Bool → Bool → Prop := fun _ b a => a = b
noncomputable abbrev RU : Heap → Unit → Unit → Prop := fun _ _ _ => True

inductive Fl where
  | next | brk | cont
  | ret (v : V)
inductive RF (fz : Heap) : Fl → Flow → Prop
  | next : RF fz .next .next
  | brk : RF fz .brk .brk
  | cont : RF fz .cont .cont
  | ret {a : V} {v : Value} : RV fz a v → RF fz (.ret a) (.ret v)

variable {W : Wd} {A : Around} {env : Env} {own : Own}

theorem Post.weak {α β : Type} {R : Heap → β → α → Prop} {Q : β → Own → Prop} {fz fz' : Heap} {a : α} {s : Shared} (h : Post W R Q fz' a s) (k : Keep fz fz') : Post W R Q fz a s := by
  obtain ⟨fz₁, b, own', k', H, r, q⟩ := h
  exact ⟨fz₁, b, own', k.trans k', H, r, q⟩
theorem At.weak {α β : Type} {R : Heap → β → α → Prop} {t : Sem α} {Q : β → Own → Prop} {fz fz' : Heap} {s : Shared} (h : At W A R t Q fz' s) (k : Keep fz fz') : At W A R t Q fz s :=
  wpAny_mono h (fun _ _ ⟨fz₁, b, own', k', H, r, q⟩ => ⟨fz₁, b, own', k.trans k', H, r, q⟩) fun _ _ x => x
theorem At.mono {α β : Type} {R : Heap → β → α → Prop} {t : Sem α} {Q Q' : β → Own → Prop} {fz : Heap} {s : Shared} (h : At W A R t Q fz s) (q : ∀ b own', Q b own' → Q' b own') : At W A R t Q' fz s :=
  wpAny_mono h (fun _ _ ⟨fz₁, b, own', k', H, r, x⟩ => ⟨fz₁, b, own', k', H, r, q _ _ x⟩) fun _ _ x => x
theorem SG.mono {α β : Type} {R : Heap → β → α → Prop} {t : Sem α} {Q Q' : β → Own → Prop} (h : SG W A R t own Q) (q : ∀ b own', Q b own' → Q' b own') : SG W A R t own Q' :=
  fun fz s H ht => (h fz s H ht).mono q

/-- the one way to go on -/
theorem wp_then {α β : Type} {R : Heap → β → α → Prop} {t : Sem α} {Q : β → Own → Prop} {fz : Heap} {s : Shared} {P : α → Shared → Prop} (h : At W A R t Q fz s) (ht : W.tk ≤ s.toks)
    (q : ∀ fz' a b own' s', Keep fz fz' → Hold W fz' own' s' → W.tk ≤ s'.toks → R fz' b a → Q b own' → P a s') : wpAny (model W.prog W.w) A t P NoX s :=
  wpAny_mono (wpAny_toks_of ht h) (fun a s' ⟨t', ⟨fz', b, own', k, H, r, x⟩⟩ => q fz' a b own' s' k H t' r x) fun _ _ x => x.2

noncomputable abbrev SE (W : Wd) (A : Around) (env : Env) (e : Expr) (own : Own) (Q : V → Own → Prop) : Prop := SG W A RV (eval e env) own Q
noncomputable abbrev ST (W : Wd) (A : Around) (env : Env) (e : Expr) (own : Own) (Q : Bool → Own → Prop) : Prop := SG W A RB (isTrue e env (eval e env)) own Q
noncomputable abbrev SX (W : Wd) (A : Around) (env : Env) (st : Stmt) (own : Own) (Q : Fl → Own → Prop) : Prop := SG W A RF (exec st env) own Q
noncomputable abbrev SXs (W : Wd) (A : Around) (env : Env) (l : List Stmt) (own : Own) (Q : Fl → Own → Prop) : Prop := SG W A RF (execs l env) own Q
noncomputable abbrev SS (W : Wd) (A : Around) (env : Env) (x : Str) (a : V) (own : Own) (Q : Own → Prop) : Prop := S1 W A RU (storeName env x) a own (fun _ => Q)
noncomputable abbrev SA (W : Wd) (A : Around) (env : Env) (t : Expr) (a : V) (own : Own) (Q : Own → Prop) : Prop := S1 W A RU (assign t env) a own (fun _ => Q)

/-! ### constants, names -/
theorem SE_int {i : Int} {k : Nat} {pos : Pos} {Q : V → Own → Prop} (h : Q (.int i) own) : SE W A env (.Constant (.int i) k pos) own Q :=
  fun fz s H _ => wpAny_Constant_int ⟨fz, _, own, .refl _, H.toks _, .dat (.int _ _), h⟩
theorem SE_str {x : Str} {k : Nat} {pos : Pos} {Q : V → Own → Prop} (h : Q (.str x) own) : SE W A env (.Constant (.str x) k pos) own Q :=
  fun fz s H _ => wpAny_Constant_str ⟨fz, _, own, .refl _, H.toks _, .dat (.str _ _), h⟩
theorem SE_bool {b : Bool} {k : Nat} {pos : Pos} {Q : V → Own → Prop} (h : Q (.bool b) own) : SE W A env (.Constant (.bool b) k pos) own Q :=
  fun fz s H _ => wpAny_Constant_bool ⟨fz, _, own, .refl _, H, .dat (.bool _), h⟩
theorem SE_none {k : Nat} {pos : Pos} {Q : V → Own → Prop} (h : Q .none own) : SE W A env (.Constant .none k pos) own Q :=
  fun fz s H _ => wpAny_Constant_none ⟨fz, _, own, .refl _, H, .dat .none, h⟩

theorem ns_of {h : Heap} {a : Addr} {o : Obj} {fz : Heap} {loc : List (Str × V)} (ho : h.get? a = some o) (x : NsIs fz loc o) :
    ∃ m, h.Ns a m ∧ ∀ p ∈ loc, ∃ v, m p.1 = some v ∧ RV fz p.2 v := by
  obtain ⟨es, ep, h1, h2, h3⟩ := x
  exact ⟨_, ⟨o, es, ep, ho, h1, h2, fun _ => rfl⟩, h3⟩
theorem of_ns {h : Heap} {a : Addr} {m : Str → Option Value} {fz : Heap} {loc : List (Str × V)} (x : h.Ns a m) (r : ∀ p ∈ loc, ∃ v, m p.1 = some v ∧ RV fz p.2 v) :
    ∃ o, h.get? a = some o ∧ NsIs fz loc o := by
  obtain ⟨o, es, ep, ho, h1, h2, h3⟩ := x
  exact ⟨o, ho, es, ep, h1, h2, fun p hp => by obtain ⟨v, e, q⟩ := r p hp; exact ⟨v, (h3 _).trans e, q⟩⟩

theorem SN_local {x : Str} {loc : List (Str × V)} {a : V} {Q : V → Own → Prop} (hk : env.scope.kind = .function) (hl : env.kindOf x = some .local) (hm : (env.locals, Ob.ns loc) ∈ own) (hx : (x, a) ∈ loc)
    (h : Q a own) : SG W A RV (loadName env x) own Q := fun fz s H _ => by
  obtain ⟨o, ho, x1⟩ := H.get hm
  obtain ⟨m, hn, hv⟩ := ns_of ho x1
  obtain ⟨v, e, r⟩ := hv _ hx
  exact wpAny_loadName_local hk hl hn e ⟨fz, a, own, .refl _, H, r, h⟩
theorem SN_cell {x : Str} {c : Addr} {a : V} {Q : V → Own → Prop} (hk : env.scope.kind = .function) (hl : env.kindOf x = some .cell) (hc : env.cells.lookup x = some c) (hm : (c, Ob.cell (some a)) ∈ own)
    (h : Q a own) : SG W A RV (loadName env x) own Q := fun fz s H _ => by
  obtain ⟨o, ho, v, e, r⟩ := H.get hm
  exact wpAny_loadName_cell hk hl hc ⟨o, ho, e⟩ ⟨fz, a, own, .refl _, H, r, h⟩
theorem SN_free {x : Str} {c : Addr} {a : V} {Q : V → Own → Prop} (hk : env.scope.kind = .function) (hl : env.kindOf x = some .free) (hc : env.cells.lookup x = some c) (hm : (c, Ob.cell (some a)) ∈ own)
    (h : Q a own) (hn : (x == ("__classdict__" : Str)) = false := by decide) : SG W A RV (loadName env x) own Q := fun fz s H _ => by
  obtain ⟨o, ho, v, e, r⟩ := H.get hm
  exact wpAny_loadName_free hk hl hc ⟨o, ho, e⟩ ⟨fz, a, own, .refl _, H, r, h⟩ hn
theorem SN_global {x : Str} {v : Value} {Q : V → Own → Prop} (hk : env.scope.kind = .function) (hg : env.globals = mainGlobals) (hl : env.kindOf x = some .globalImplicit) (e : nsIn W.K mainGlobals x = some (some v))
    (h : Q (.val v) own) : SG W A RV (loadName env x) own Q := fun fz s H _ => by
  unfold loadName
  simp only [Env.blockKind, hk, hl, ScopeKind.isAnnotationScope, Bool.false_and, Bool.false_eq_true, if_false]
  exact Calls.loadGlobal_global (by rw [hg]; exact W.top.g.keeps H.keep) (mg_of W.kin W.top.g e) ⟨fz, _, own, .refl _, H, .val v, h⟩
theorem SN_builtin {x : Str} {v : Value} {Q : V → Own → Prop} (hk : env.scope.kind = .function) (hg : env.globals = mainGlobals) (hb : env.builtins = builtinsNs) (hl : env.kindOf x = some .globalImplicit) (e : nsIn W.K mainGlobals x = some none)
    (hv : bootBuiltins x = some v) (hn : x ≠ "__name__") (h : Q (.val v) own) : SG W A RV (loadName env x) own Q := fun fz s H _ => by
  unfold loadName
  simp only [Env.blockKind, hk, hl, ScopeKind.isAnnotationScope, Bool.false_and, Bool.false_eq_true, if_false]
  exact Calls.loadGlobal_builtin (by rw [hg]; exact W.top.g.keeps H.keep) (mg_none_of W.kin W.top.g e) (by rw [hb]; exact W.top.b.keeps H.keep) ((W.top.builtins x hn).trans hv) ⟨fz, _, own, .refl _, H, .val v, h⟩
theorem SE_Name {x : Str} {pos : Pos} {Q : V → Own → Prop} (h : SG W A RV (loadName env x) own Q) (hd : (x == ("__debug__" : Str)) = false := by decide) : SE W A env (.Name x pos) own Q :=
  fun fz s H ht => wpAny_Name (h fz s H ht) hd

/-! ### stores -/
inductive Put (x : Str) (a : V) : List (Str × V) → List (Str × V) → Prop
  | new : Put x a [] [(x, a)]
  | here {b : V} {l : List (Str × V)} : Put x a ((x, b) :: l) ((x, a) :: l)
  | there {p : Str × V} {l l' : List (Str × V)} : Put x a l l' → Put x a (p :: l) (p :: l')
theorem Put.other {x : Str} {a : V} {l l' : List (Str × V)} (u : Put x a l l') (nd : (l'.map (·.1)).Nodup) : ∀ p ∈ l', p = (x, a) ∨ (p ∈ l ∧ p.1 ≠ x) := by
  have hin : ∀ {l l' : List (Str × V)}, Put x a l l' → (x, a) ∈ l' := by
    intro l l' u
    induction u with
    | new => exact List.mem_cons_self
    | here => exact List.mem_cons_self
    | there _ ih => exact List.mem_cons_of_mem _ ih
  induction u with
  | new => intro p hp; exact .inl (by simpa using hp)
  | here =>
    intro p hp
    rw [List.map_cons, List.nodup_cons] at nd
    rcases List.mem_cons.mp hp with h | h
    · exact .inl h
    · exact .inr ⟨List.mem_cons_of_mem _ h, fun e => nd.1 (List.mem_map.mpr ⟨p, h, e⟩)⟩
  | @there q l l' v ih =>
    intro p hp
    rw [List.map_cons, List.nodup_cons] at nd
    rcases List.mem_cons.mp hp with h | h
    · subst h
      exact .inr ⟨List.mem_cons_self, fun e => nd.1 (List.mem_map.mpr ⟨_, hin v, e.symm⟩)⟩
    · exact (ih nd.2 p h).imp id fun x => ⟨List.mem_cons_of_mem _ x.1, x.2⟩

theorem SS_local {x : Str} {loc loc' : List (Str × V)} {a : V} {own' : Own} {Q : Own → Prop} (hk : env.scope.kind = .function) (hl : env.kindOf x = some .local) (hu : Put x a loc loc') (nd : ((loc'.map (·.1)).Nodup))
    (u : Upd env.locals (.ns loc) (.ns loc') own own') (h : Q own') : SS W A env x a own Q := fun fz s v H _ r => by
  obtain ⟨o, ho, x1⟩ := H.get u.mem
  obtain ⟨m, hn, hv⟩ := ns_of ho x1
  refine wpAny_storeName_local hl hn (fun h' hn' hs' => ?_) (by rw [hk]; rfl)
  obtain ⟨o', ho', hob⟩ := of_ns (fz := fz) (loc := loc') hn' (fun p hp => by
    rcases hu.other nd p hp with rfl | ⟨hp', hne⟩
    · exact ⟨v, by simp, r⟩
    · obtain ⟨u, e, r'⟩ := hv p hp'; exact ⟨u, by simp [hne, e], r'⟩)
  exact ⟨fz, (), own', .refl _, H.set u hs' ho' hob, trivial, h⟩
theorem SS_cell {x : Str} {c : Addr} {a : V} {a₀ : Option V} {own' : Own} {Q : Own → Prop} (hk : env.scope.kind = .function) (hl : env.kindOf x = some .cell) (hc : env.cells.lookup x = some c)
    (u : Upd c (.cell a₀) (.cell (some a)) own own') (h : Q own') : SS W A env x a own Q := fun fz s v H _ r => by
  obtain ⟨o, ho, x1⟩ := H.get u.mem
  have hcell : ∃ v₀, s.heap.IsCell c v₀ := by
    cases a₀ with
    | none => exact ⟨none, o, ho, x1⟩
    | some b => obtain ⟨w, e, _⟩ := x1; exact ⟨some w, o, ho, e⟩
  obtain ⟨v₀, hc0⟩ := hcell
  refine wpAny_storeName_cell hk hl hc hc0 fun h' ⟨o', ho', e'⟩ hs' => ?_
  exact ⟨fz, (), own', .refl _, H.set (k := s.toks) u hs' ho' ⟨v, e', r⟩, trivial, h⟩

theorem SS_loc {x : Str} {L : Addr} {loc loc' : List (Str × V)} {a : V} {own' : Own} {Q : Own → Prop} (hk : env.scope.kind = .function) (hl : env.kindOf x = some .local) (hm : (L, Ob.ns loc) ∈ own) (hL : env.locals = L) (hu : Put x a loc loc') (nd : ((loc'.map (·.1)).Nodup))
    (u : Upd L (.ns loc) (.ns loc') own own') (h : Q own') : SS W A env x a own Q := SS_local hk hl hu nd (by rw [hL]; exact u) h
theorem SN_loc {x : Str} {L : Addr} {loc : List (Str × V)} {a : V} {Q : V → Own → Prop} (hk : env.scope.kind = .function) (hl : env.kindOf x = some .local) (hm : (L, Ob.ns loc) ∈ own) (hL : env.locals = L) (hx : (x, a) ∈ loc)
    (h : Q a own) : SG W A RV (loadName env x) own Q := SN_local hk hl (by rw [hL]; exact hm) hx h
theorem SA_Name {x : Str} {pos : Pos} {a : V} {Q : Own → Prop} (h : SS W A env x a own Q) : SA W A env (.Name x pos) a own Q :=
  fun fz s v H ht r => wpAny_assign_Name (h fz s v H ht r)

/-! ### expressions: the nodes -/
theorem SE_BinOp {l r : Expr} {op : Operator} {pos : Pos} {Q : V → Own → Prop} (h : SE W A env l own fun a o1 => SE W A env r o1 fun b o2 => S2 W A RV (binaryOp op) a b o2 Q) :
    SE W A env (.BinOp l op r pos) own Q := fun fz s H ht => by
  refine wpAny_BinOp (wp_then (h fz s H ht) ht fun fz1 va a o1 s1 k1 H1 t1 r1 q1 => wp_then (q1 fz1 s1 H1 t1) t1 fun fz2 vb b o2 s2 k2 H2 t2 r2 q2 => ?_)
  exact (q2 fz2 s2 va vb H2 t2 (r1.mono k2) r2).weak (k1.trans k2)
theorem SE_Compare {l r : Expr} {op : CmpOp} {pos : Pos} {Q : V → Own → Prop} (h : SE W A env l own fun a o1 => SE W A env r o1 fun b o2 => S2 W A RV (compareOp op) a b o2 Q)
    (hm : behindInMarks op r = false := by with_unfolding_all rfl) : SE W A env (.Compare l [op] [r] pos) own Q := fun fz s H ht => by
  refine wpAny_Compare1 (wp_then (h fz s H ht) ht fun fz1 va a o1 s1 k1 H1 t1 r1 q1 => wp_then (q1 fz1 s1 H1 t1) t1 fun fz2 vb b o2 s2 k2 H2 t2 r2 q2 => ?_) hm
  exact (q2 fz2 s2 va vb H2 t2 (r1.mono k2) r2).weak (k1.trans k2)
theorem SE_Subscript {o i : Expr} {pos : Pos} {Q : V → Own → Prop} (h : SE W A env o own fun a o1 => SE W A env i o1 fun b o2 => S2 W A RV (subscriptTail o i) a b o2 Q) :
    SE W A env (.Subscript o i pos) own Q := fun fz s H ht => by
  refine Subscript_ (wp_then (h fz s H ht) ht fun fz1 va a o1 s1 k1 H1 t1 r1 q1 => wp_then (q1 fz1 s1 H1 t1) t1 fun fz2 vb b o2 s2 k2 H2 t2 r2 q2 => ?_)
  exact (q2 fz2 s2 va vb H2 t2 (r1.mono k2) r2).weak (k1.trans k2)
/-! ### tests -/
theorem ST_Compare {l r : Expr} {op : CmpOp} {pos : Pos} {Q : Bool → Own → Prop} (h : SE W A env l own fun a o1 => SE W A env r o1 fun b o2 => S2 W A RV (compareOp op) a b o2 fun c o3 => S1 W A RB truthy c o3 Q)
    (hm : behindInMarks op r = false := by with_unfolding_all rfl) : ST W A env (.Compare l [op] [r] pos) own Q := fun fz s H ht => by
  refine wpAny_isTrue_Compare1 (wp_then (h fz s H ht) ht fun fz1 va a o1 s1 k1 H1 t1 r1 q1 => wp_then (q1 fz1 s1 H1 t1) t1 fun fz2 vb b o2 s2 k2 H2 t2 r2 q2 =>
    wp_then (q2 fz2 s2 va vb H2 t2 (r1.mono k2) r2) t2 fun fz3 vc c o3 s3 k3 H3 t3 r3 q3 => ?_) hm
  exact (q3 fz3 s3 vc H3 t3 r3).weak (k1.trans (k2.trans k3))
theorem SG_or_nil {pos : Pos} {whole : Sem Value} {Q : Bool → Own → Prop} (h : Q false own) : SG W A RB (isTrue (.BoolOp .Or [] pos) env whole) own Q := fun fz s H _ =>
  isTrue_or_nil ⟨fz, _, own, .refl _, H, rfl, h⟩
theorem SG_or {x : Expr} {rest : List Expr} {pos : Pos} {whole : Sem Value} {Q : Bool → Own → Prop}
    (h : ST W A env x own fun c o1 => if c then Q true o1 else SG W A RB (isTrue (.BoolOp .Or rest pos) env whole) o1 Q) : SG W A RB (isTrue (.BoolOp .Or (x :: rest) pos) env whole) own Q := fun fz s H ht => by
  refine isTrue_or (wp_then (h fz s H ht) ht fun fz1 va a o1 s1 k1 H1 t1 r1 q1 => ?_)
  subst r1
  cases va
  · exact (q1 fz1 s1 H1 t1).weak k1
  · exact ⟨fz1, _, o1, k1, H1, rfl, q1⟩
theorem ST_plain {e : Expr} {Q : Bool → Own → Prop} (h : SE W A env e own fun a o1 => S1 W A RB truthy a o1 Q)
    (he : isTrue e env (eval e env) = (do let v ← eval e env; standAt e.pos; holding [v] (truthy v)) := by rfl) : ST W A env e own Q := fun fz s H ht =>
  isTrue_plain (wp_then (h fz s H ht) ht fun fz1 va a o1 s1 k1 H1 t1 r1 q1 => (q1 fz1 s1 va H1 t1 r1).weak k1) he

/-! ### statements -/
theorem SXs_nil {Q : Fl → Own → Prop} (h : Q .next own) : SXs W A env [] own Q := fun fz s H _ => wpAny_execs_nil ⟨fz, _, own, .refl _, H, .next, h⟩
/-- on from a statement: only a plain end goes on -/
noncomputable abbrev onNext (P : Own → Prop) (Q : Fl → Own → Prop) : Fl → Own → Prop
  | .next, o => P o
  | f, o => Q f o
theorem SXs_cons {st : Stmt} {rest : List Stmt} {Q : Fl → Own → Prop} (h : SX W A env st own (onNext (fun o1 => SXs W A env rest o1 Q) Q)) : SXs W A env (st :: rest) own Q := fun fz s H ht => by
  refine wpAny_execs_cons (wp_then (h fz s H ht) ht fun fz1 va a o1 s1 k1 H1 t1 r1 q1 => ?_)
  cases r1 with
  | next => exact At.weak (q1 fz1 s1 H1 t1) k1
  | brk => exact ⟨fz1, _, o1, k1, H1, .brk, q1⟩
  | cont => exact ⟨fz1, _, o1, k1, H1, .cont, q1⟩
  | ret r => exact ⟨fz1, _, o1, k1, H1, .ret r, q1⟩
theorem SX_If {t : Expr} {b o : List Stmt} {pos : Pos} {Q : Fl → Own → Prop} (h : ST W A env t own fun c o1 => if c then SXs W A env b o1 Q else SXs W A env o o1 Q) : SX W A env (.If t b o pos) own Q := fun fz s H ht => by
  refine wpAny_If (wp_then (h fz s H ht) ht fun fz1 va a o1 s1 k1 H1 t1 r1 q1 => ?_)
  subst r1
  cases va
  · exact At.weak (q1 fz1 s1 H1 t1) k1
  · exact At.weak (q1 fz1 s1 H1 t1) k1
theorem SX_Return {e : Expr} {pos : Pos} {Q : Fl → Own → Prop} (h : SE W A env e own fun a o1 => Q (.ret a) o1) : SX W A env (.Return (some e) pos) own Q := fun fz s H ht =>
  wpAny_Return_some (wp_then (h fz s H ht) ht fun fz1 va a o1 s1 k1 H1 t1 r1 q1 => ⟨fz1, _, o1, k1, H1, .ret r1, q1⟩)
theorem SX_Assign {x : Str} {p pos : Pos} {e : Expr} {Q : Fl → Own → Prop} (h : SE W A env e own fun a o1 => SS W A env x a o1 fun o2 => Q .next o2)
    (hs : swapsWith e (some (.Name x p)) pos.line env = pure false := by rfl) : SX W A env (.Assign [.Name x p] e pos) own Q := fun fz s H ht => by
  refine wpAny_Assign_Name (wp_then (h fz s H ht) ht fun fz1 va a o1 s1 k1 H1 t1 r1 q1 => wp_then (q1 fz1 s1 va H1 t1 r1) t1 fun fz2 _ _ o2 s2 k2 H2 t2 _ q2 => ?_) hs
  exact ⟨fz2, _, o2, k1.trans k2, H2, .next, q2⟩
theorem SX_Expr {e : Expr} {pos : Pos} {Q : Fl → Own → Prop} (h : SE W A env e own fun _ o1 => Q .next o1) (hi : interactive env = false := by rfl) (hs : swapsWith e none pos.line env = pure false := by rfl) :
    SX W A env (.Expr e pos) own Q := fun fz s H ht =>
  wpAny_Expr_any (wp_then (h fz s H ht) ht fun fz1 va a o1 s1 k1 H1 t1 r1 q1 => ⟨fz1, _, o1, k1, H1, .next, q1⟩) hi hs
end
section
variable {W : Wd} {A : Around} {env : Env} {own : Own}

/-! ### what a value is -/
theorem RV.int_inv {fz : Heap} {i : Int} {v : Value} (x : RV fz (.int i) v) : ∃ t, v = .int i t := by cases x with | dat r => cases r; exact ⟨_, rfl⟩
theorem RV.str_inv {fz : Heap} {x : Str} {v : Value} (h : RV fz (.str x) v) : ∃ t, v = .str x t := by cases h with | dat r => cases r; exact ⟨_, rfl⟩
theorem RV.bool_inv {fz : Heap} {b : Bool} {v : Value} (x : RV fz (.bool b) v) : v = .bool b := by cases x with | dat r => cases r; rfl
theorem RV.none_inv {fz : Heap} {v : Value} (x : RV fz .none v) : v = .none := by cases x with | dat r => cases r; rfl
theorem RV.val_inv {fz : Heap} {u v : Value} (x : RV fz (.val u) v) : v = u := by cases x; rfl
theorem RV.lst_inv {fz : Heap} {l : List PyData} {v : Value} (x : RV fz (.lst l) v) : ∃ a vs, v = .ref a ∧ fz.IsList a vs ∧ RVs fz (l.map V.dat) vs.toList := by
  cases x with
  | dat r => cases r with | @list a o vs n xs as ho hc hd hr => exact ⟨a, vs, rfl, ⟨o, ho, hc, n, hd⟩, .of_reads hr⟩
theorem RV.tup_inv {fz : Heap} {l : List PyData} {v : Value} (x : RV fz (.tup l) v) : ∃ a vs, v = .ref a ∧ fz.IsTuple a vs ∧ RVs fz (l.map V.dat) vs.toList := by
  cases x with
  | dat r => cases r with | @tuple a o vs n xs as ho hc hd hr => exact ⟨a, vs, rfl, ⟨o, ho, hc, n, hd⟩, .of_reads hr⟩
theorem IsList_keep {h h' : Heap} {a : Addr} {vs : Array Value} (x : h.IsList a vs) (k : Keep h h') : h'.IsList a vs := let ⟨o, ho, r⟩ := x; ⟨o, k _ _ ho, r⟩
theorem IsTuple_keep {h h' : Heap} {a : Addr} {vs : Array Value} (x : h.IsTuple a vs) (k : Keep h h') : h'.IsTuple a vs := let ⟨o, ho, r⟩ := x; ⟨o, k _ _ ho, r⟩

/-- an answer that is a token's matter alone -/
theorem at_tok {Q : V → Own → Prop} {fz : Heap} {s : Shared} {a : V} {v : Value} (H : Hold W fz own s) (k : Nat) (r : RV fz a v) (q : Q a own) :
    Post W RV Q fz v { s with toks := k } := ⟨fz, a, own, .refl _, H.toks k, r, q⟩

/-! ### ints -/
theorem op_add {a b : Int} {Q : V → Own → Prop} (h : Q (.int (a + b)) own) : S2 W A RV (binaryOp .Add) (.int a) (.int b) own Q := fun fz s v u H _ r1 r2 => by
  obtain ⟨t, rfl⟩ := r1.int_inv; obtain ⟨t', rfl⟩ := r2.int_inv
  exact P.add_int (at_tok H _ (.dat (.int _ _)) h)
theorem op_sub {a b : Int} {Q : V → Own → Prop} (h : Q (.int (a - b)) own) : S2 W A RV (binaryOp .Sub) (.int a) (.int b) own Q := fun fz s v u H _ r1 r2 => by
  obtain ⟨t, rfl⟩ := r1.int_inv; obtain ⟨t', rfl⟩ := r2.int_inv
  exact P.sub_int (at_tok H _ (.dat (.int _ _)) h)
theorem op_div {a b : Int} {Q : V → Own → Prop} (hb : 0 < b) (hz : b < 1073741824) (h : Q (.int (a / b)) own) : S2 W A RV (binaryOp .FloorDiv) (.int a) (.int b) own Q := fun fz s v u H _ r1 r2 => by
  obtain ⟨t, rfl⟩ := r1.int_inv; obtain ⟨t', rfl⟩ := r2.int_inv
  refine floordiv_int (by (first | decide | exact Nat.le_trans (by assumption) (by decide) | lia | omega)) (at_tok H _ ?_ h) (Or.inl (PyProof.noPylong_small (by (first | decide | exact Nat.le_trans (by assumption) (by decide) | lia | omega))))
  rw [Int.fdiv_eq_ediv_of_nonneg a (by (first | decide | exact Nat.le_trans (by assumption) (by decide) | lia | omega))]
  exact .dat (.int _ _)
theorem op_mod {a b : Int} {Q : V → Own → Prop} (hb : 0 < b) (h : Q (.int (a % b)) own) : S2 W A RV (binaryOp .Mod) (.int a) (.int b) own Q := fun fz s v u H _ r1 r2 => by
  obtain ⟨t, rfl⟩ := r1.int_inv; obtain ⟨t', rfl⟩ := r2.int_inv
  refine mod_int' (by (first | decide | exact Nat.le_trans (by assumption) (by decide) | lia | omega)) (at_tok H _ ?_ h)
  rw [Int.fmod_eq_emod_of_nonneg a (by (first | decide | exact Nat.le_trans (by assumption) (by decide) | lia | omega))]
  exact .dat (.int _ _)
/-! ### truth -/
theorem tr_bool {b : Bool} {Q : Bool → Own → Prop} (h : Q b own) : S1 W A RB truthy (.bool b) own Q := fun fz s v H _ r => by
  rw [r.bool_inv]; exact wpAny_truthy_bool ⟨fz, b, own, .refl _, H, rfl, h⟩
theorem tr_own {l : List V} {a : Addr} {Q : Bool → Own → Prop} (hm : (a, Ob.list l) ∈ own) (hx : l.length ≤ sizeLine) (h : Q (decide (l ≠ [])) own) : S1 W A RB truthy (.ref a) own Q := fun fz s v H _ r => by
  cases r.val_inv
  obtain ⟨o, ho, vs, n, rfl, rs⟩ := H.get hm
  have hlen := rs.length
  rw [sizeLine_eq] at hx
  refine wpAny_truthy_list (items := vs.toArray) ⟨_, ho, rfl, n, rfl⟩ (by simp only [List.size_toArray]; (first | decide | exact Nat.le_trans (by assumption) (by decide) | lia | omega)) ⟨fz, _, own, .refl _, H.toks _, ?_, h⟩
  show (!vs.toArray.isEmpty) = decide (l ≠ [])
  cases rs <;> simp

/-! ### texts -/
theorem op_cat {x y : Str} {Q : V → Own → Prop} (hz : x.length + y.length ≤ sizeLine) (h : Q (.str (x ++ y)) own) : S2 W A RV (binaryOp .Add) (.str x) (.str y) own Q := fun fz s v u H _ r1 r2 => by
  obtain ⟨t, rfl⟩ := r1.str_inv; obtain ⟨t', rfl⟩ := r2.str_inv
  exact SB.add (fun t' k => at_tok H _ (.dat (.str _ _)) h) hz
theorem cmp_eqS {x y : Str} {Q : V → Own → Prop} (h : Q (.bool (decide (x = y))) own) : S2 W A RV (compareOp .Eq) (.str x) (.str y) own Q := fun fz s v u H _ r1 r2 => by
  obtain ⟨t, rfl⟩ := r1.str_inv; obtain ⟨t', rfl⟩ := r2.str_inv
  refine PyProof.Rows.eq_str ⟨fz, _, own, .refl _, H, ?_, h⟩
  have e : (x == y) = decide (x = y) := rfl
  rw [e]; exact .dat (.bool _)
theorem cmp_neS {x y : Str} {Q : V → Own → Prop} (h : Q (.bool (decide (x ≠ y))) own) : S2 W A RV (compareOp .NotEq) (.str x) (.str y) own Q := fun fz s v u H _ r1 r2 => by
  obtain ⟨t, rfl⟩ := r1.str_inv; obtain ⟨t', rfl⟩ := r2.str_inv
  refine PyProof.Rows.ne_str ⟨fz, _, own, .refl _, H, ?_, h⟩
  have e : (x != y) = decide (x ≠ y) := by simp only [bne, ne_eq, decide_not]; rfl
  rw [e]; exact .dat (.bool _)
/-! ### data compared -/
end
section
variable {W : Wd} {A : Around} {env : Env} {own : Own}

/-! ### a heap with one object more -/
noncomputable def freedO : Obj := { cls := .none, data := .freed }
noncomputable def putH (h : Heap) (a : Addr) (o : Obj) : Heap := ⟨(h.objs ++ Array.replicate (a + 1 - h.objs.size) freedO).setIfInBounds a o, h.life⟩
theorem get?_of_objs {h : Heap} {b : Addr} : h.get? b = match h.objs[b]? with | some ⟨_, _, .freed, _⟩ => none | o => o := rfl
theorem putH_get {h : Heap} {a : Addr} {o : Obj} (ho : o.isFreed = false) (b : Addr) : (putH h a o).get? b = if b = a then some o else h.get? b := by
  have hsz : a < (h.objs ++ Array.replicate (a + 1 - h.objs.size) freedO).size := by
    have e : (h.objs ++ Array.replicate (a + 1 - h.objs.size) freedO).size = h.objs.size + (a + 1 - h.objs.size) := by rw [Array.size_append, Array.size_replicate]
    rw [e]; show a < h.objs.size + (a + 1 - h.objs.size); exact (by (first | decide | exact Nat.le_trans (by assumption) (by decide) | lia | omega) : ∀ x y : Nat, x < y + (x + 1 - y)) a h.objs.size
  have hne : ∀ b, b ≠ a → (putH h a o).objs[b]? = (h.objs ++ Array.replicate (a + 1 - h.objs.size) freedO)[b]? := fun b hb => by
    unfold putH; exact Array.getElem?_setIfInBounds_ne (Ne.symm hb)
  by_cases hb : b = a
  · subst hb
    rw [if_pos rfl, get?_of_objs]
    have : (putH h b o).objs[b]? = some o := by unfold putH; exact Array.getElem?_setIfInBounds_self_of_lt hsz
    rw [this]
    obtain ⟨c, d, dt, sl⟩ := o
    cases dt <;> first | rfl | cases ho
  · rw [if_neg hb, get?_of_objs, hne b hb, get?_of_objs]
    by_cases hlt : b < h.objs.size
    · rw [Array.getElem?_append_left hlt]
    · have e1 : h.objs[b]? = none := Array.getElem?_eq_none (Nat.not_lt.mp hlt)
      rw [e1, Array.getElem?_append_right (Nat.not_lt.mp hlt), Array.getElem?_replicate]
      by_cases hc : b - h.objs.size < a + 1 - h.objs.size
      · rw [if_pos hc]; rfl
      · rw [if_neg hc]
theorem putH_keep {h : Heap} {a : Addr} {o : Obj} (ho : o.isFreed = false) (hn : h.get? a = none) : Keep h (putH h a o) := fun b x e => by
  rw [putH_get ho]
  by_cases hb : b = a
  · subst hb; rw [hn] at e; cases e
  · rw [if_neg hb]; exact e
theorem putH_at {h : Heap} {a : Addr} {o : Obj} (ho : o.isFreed = false) : (putH h a o).get? a = some o := by rw [putH_get ho, if_pos rfl]

/-- a new object is frozen at once -/
theorem Hold.frz {fz : Heap} {s : Shared} (H : Hold W fz own s) {h' : Heap} {k : Nat} {a : Addr} {o : Obj} (ho : o.isFreed = false) (hk : Keep s.heap h') (ha : s.heap.get? a = none) (hh : h'.get? a = some o) :
    Keep fz (putH fz a o) ∧ Hold W (putH fz a o) own { s with heap := h', toks := k } := by
  have hn : fz.get? a = none := by
    cases e : fz.get? a with
    | none => rfl
    | some x => exact absurd (H.has _ _ e) (by rw [ha]; exact fun y => nomatch y)
  have kk := putH_keep (o := o) ho hn
  refine ⟨kk, ⟨H.base.trans kk, fun b x e => ?_, fun p hp => ?_, fun p hp => ?_, H.nd, H.gens, H.os⟩⟩
  · rw [putH_get ho] at e
    by_cases hb : b = a
    · subst hb; rw [if_pos rfl] at e; cases e; exact hh
    · rw [if_neg hb] at e; exact hk _ _ (H.has _ _ e)
  · obtain ⟨x, e, r⟩ := H.obs p hp
    exact ⟨x, hk _ _ e, r.mono kk⟩
  · rw [putH_get ho]
    have : p.1 ≠ a := fun e => by obtain ⟨x, e', _⟩ := H.obs p hp; rw [e, ha] at e'; cases e'
    rw [if_neg this]; exact H.out p hp

/-- an owned object is frozen -/
theorem Hold.freeze {fz : Heap} {s : Shared} {a : Addr} {ob : Ob} (H : Hold W fz ((a, ob) :: own) s) : ∃ o, s.heap.get? a = some o ∧ ObIs fz ob o ∧ o.isFreed = false ∧ Keep fz (putH fz a o) ∧ Hold W (putH fz a o) own s := by
  obtain ⟨o, ho, r⟩ := H.obs _ List.mem_cons_self
  have hf : o.isFreed = false := by
    have e := ho
    rw [get?_of_objs] at e
    obtain ⟨c, d, dt, sl⟩ := o
    cases dt <;> first | rfl | (exfalso; revert e; cases hq : s.heap.objs[a]? with
      | none => intro e; cases e
      | some x => obtain ⟨c', d', dt', sl'⟩ := x; cases dt' <;> intro e <;> cases e)
  have hn := H.out _ List.mem_cons_self
  have kk := putH_keep (o := o) hf hn
  refine ⟨o, ho, r, hf, kk, ⟨H.base.trans kk, fun b x e => ?_, fun p hp => ?_, fun p hp => ?_, ?_, H.gens.sub (List.sublist_cons_self _ _), H.os⟩⟩
  · rw [putH_get hf] at e
    by_cases hb : b = a
    · subst hb; rw [if_pos rfl] at e; cases e; exact ho
    · rw [if_neg hb] at e; exact H.has _ _ e
  · obtain ⟨x, e, r⟩ := H.obs p (List.mem_cons_of_mem _ hp)
    exact ⟨x, e, r.mono kk⟩
  · rw [putH_get hf]
    have : p.1 ≠ a := fun e => by
      have nd := H.nd
      rw [List.map_cons, List.nodup_cons] at nd
      exact nd.1 (List.mem_map.mpr ⟨p, hp, e⟩)
    rw [if_neg this]; exact H.out p (List.mem_cons_of_mem _ hp)
  · have nd := H.nd
    rw [List.map_cons, List.nodup_cons] at nd
    exact nd.2

/-! ### all data -/
inductive AllDat : List V → List PyData → Prop
  | nil : AllDat [] []
  | cons {d : PyData} {l : List V} {ds : List PyData} : AllDat l ds → AllDat (.dat d :: l) (d :: ds)
theorem AllDat.eq {l : List V} {ds : List PyData} (x : AllDat l ds) : l = ds.map V.dat := by
  induction x with
  | nil => rfl
  | cons _ ih => rw [ih]; rfl
theorem AllDat.map (ds : List PyData) : AllDat (ds.map V.dat) ds := by
  induction ds with
  | nil => exact .nil
  | cons d ds ih => exact .cons ih
theorem AllDat.length {l : List V} {ds : List PyData} (x : AllDat l ds) : l.length = ds.length := by rw [x.eq, List.length_map]

theorem rv_list {fz : Heap} {a : Addr} {vs : List Value} {n : Nat} {ds : List PyData} (h : fz.get? a = some (listObj vs n)) (r : RVs fz (ds.map V.dat) vs) : RV fz (.lst ds) (.ref a) := by
  obtain ⟨as, ra⟩ := r.reads
  exact .dat (.list h rfl rfl (by simpa using ra))
theorem rv_tuple {fz : Heap} {a : Addr} {vs : List Value} {n : Nat} {ds : List PyData} (h : fz.get? a = some (tupObj vs n)) (r : RVs fz (ds.map V.dat) vs) : RV fz (.tup ds) (.ref a) := by
  obtain ⟨as, ra⟩ := r.reads
  exact .dat (.tuple h rfl rfl (by simpa using ra))

/-! ### displays -/
noncomputable abbrev SEs (W : Wd) (A : Around) (env : Env) (pos : Pos) (l : List Expr) (own : Own) (Q : List V → Own → Prop) : Prop := SG W A RVs (spliced (backTo pos (starEach l env))) own Q
theorem SEs_nil {pos : Pos} {Q : List V → Own → Prop} (h : Q [] own) : SEs W A env pos [] own Q := fun fz s H _ => Calls.spliced_nil ⟨fz, _, own, .refl _, H, .nil, h⟩
theorem SEs_cons {pos : Pos} {e : Expr} {rest : List Expr} {Q : List V → Own → Prop} (h : SE W A env e own fun a o1 => SEs W A env pos rest o1 fun l o2 => Q (a :: l) o2)
    (he : starEach (e :: rest) env = (false, eval e env) :: starEach rest env := by rfl) : SEs W A env pos (e :: rest) own Q := fun fz s H ht => by
  unfold At
  rw [he]
  show wpAny _ _ (spliced ((false, eval e env) :: backTo pos (starEach rest env))) _ _ _
  refine Calls.spliced_cons (wp_then (h fz s H ht) ht fun fz1 va a o1 s1 k1 H1 t1 r1 q1 => wp_then (q1 fz1 s1 H1 t1) t1 fun fz2 vl l o2 s2 k2 H2 t2 r2 q2 => ?_)
  exact ⟨fz2, _, o2, k1.trans k2, H2, .cons (r1.mono k2) r2, q2⟩

/-- a list that may be turned -/
theorem SE_List {elts : List Expr} {pos : Pos} {Q : V → Own → Prop} (hz : elts.length ≤ sizeLine) (h : SEs W A env pos elts own fun l o1 => l.length ≤ sizeLine ∧ ∀ a, Q (.ref a) ((a, .list l) :: o1)) : SE W A env (.List elts pos) own Q := fun fz s H ht => by
  refine List_ (wp_then (h fz s H ht) ht fun fz1 vs l o1 s1 k1 H1 t1 r1 q1 => ?_)
  refine wpAny_newObj_type ?_ (by show vs.toArray.size ≤ sizeLine; rw [List.size_toArray, ← r1.length]; exact q1.1)
  exact ⟨fz1, _, _, k1, H1.new (ob := .list l) (k := s1.toks) (Keep.push _ _) (get?_ge (Nat.le_refl _)) (Heap.get?_push_size _ rfl) ⟨vs, 0, rfl, r1⟩, .val _, q1.2 _⟩
/-- a list that stays as it is -/
theorem SE_ListF {elts : List Expr} {pos : Pos} {Q : V → Own → Prop} (h : SEs W A env pos elts own fun l o1 => ∃ ds, AllDat l ds ∧ ds.length ≤ sizeLine ∧ Q (.lst ds) o1) : SE W A env (.List elts pos) own Q := fun fz s H ht => by
  refine List_ (wp_then (h fz s H ht) ht fun fz1 vs l o1 s1 k1 H1 t1 r1 q1 => ?_)
  obtain ⟨ds, ad, hz, q⟩ := q1
  refine wpAny_newObj_type ?_ (by show vs.toArray.size ≤ sizeLine; rw [List.size_toArray, ← r1.length, ad.length]; exact hz)
  obtain ⟨kk, H'⟩ := H1.frz (k := s1.toks) (o := listObj vs 0) rfl (Keep.push _ _) (get?_ge (Nat.le_refl _)) (Heap.get?_push_size _ rfl)
  exact ⟨_, _, o1, k1.trans kk, H', rv_list (putH_at rfl) (by rw [← ad.eq]; exact r1.mono kk), q⟩
theorem SE_TupleF {elts : List Expr} {k : Nat} {pos : Pos} {Q : V → Own → Prop} (h : SEs W A env pos elts own fun l o1 => ∃ ds, AllDat l ds ∧ ds.length ≤ sizeLine ∧ Q (.tup ds) o1) : SE W A env (.Tuple elts k pos) own Q := fun fz s H ht => by
  refine Tuple_ (wp_then (h fz s H ht) ht fun fz1 vs l o1 s1 k1 H1 t1 r1 q1 => ?_)
  obtain ⟨ds, ad, hz, q⟩ := q1
  refine wpAny_newObj_type ?_ (by show vs.toArray.size ≤ sizeLine; rw [List.size_toArray, ← r1.length, ad.length]; exact hz)
  obtain ⟨kk, H'⟩ := H1.frz (k := s1.toks) (o := tupObj vs 0) rfl (Keep.push _ _) (get?_ge (Nat.le_refl _)) (Heap.get?_push_size _ rfl)
  exact ⟨_, _, o1, k1.trans kk, H', rv_tuple (putH_at rfl) (by rw [← ad.eq]; exact r1.mono kk), q⟩
/-- a tuple that holds made things -/
theorem SE_Tuple {elts : List Expr} {k : Nat} {pos : Pos} {Q : V → Own → Prop} (h : SEs W A env pos elts own fun l o1 => l.length ≤ sizeLine ∧ ∀ a, Q (.ref a) ((a, .tup l) :: o1)) : SE W A env (.Tuple elts k pos) own Q := fun fz s H ht => by
  refine Tuple_ (wp_then (h fz s H ht) ht fun fz1 vs l o1 s1 k1 H1 t1 r1 q1 => ?_)
  refine wpAny_newObj_type ?_ (by show vs.toArray.size ≤ sizeLine; rw [List.size_toArray, ← r1.length]; exact q1.1)
  exact ⟨fz1, _, _, k1, H1.new (ob := .tup l) (k := s1.toks) (Keep.push _ _) (get?_ge (Nat.le_refl _)) (Heap.get?_push_size _ rfl) ⟨vs, 0, rfl, r1⟩, .val _, q1.2 _⟩

/-! ### items -/
theorem rvs_dat_get {fz : Heap} {ds : List PyData} {vs : List Value} (r : RVs fz (ds.map V.dat) vs) {i : Nat} {d : PyData} (h : ds[i]? = some d) : ∃ v, vs[i]? = some v ∧ RV fz (.dat d) v :=
  r.get (by rw [List.getElem?_map, h]; rfl)

/-- the place of an index -/
noncomputable def place (k : Int) (n : Nat) : Nat := if k < 0 then (k + n).toNat else k.toNat
theorem sub_lst {o i : Expr} {l : List PyData} {k : Int} {d : PyData} {Q : V → Own → Prop} (hlo : -(l.length : Int) ≤ k) (hhi : k < (l.length : Int)) (hz : l.length ≤ sizeLine) (hx : l[place k l.length]? = some d) (h : Q (.dat d) own)
    (hs : ∀ v u, subscripted i false v u = operate [v, u] (getItem v u) := by intro _ _; with_unfolding_all rfl) : S2 W A RV (subscriptTail o i) (.lst l) (.int k) own Q := fun fz s v u H _ r1 r2 => by
  obtain ⟨t, rfl⟩ := r2.int_inv
  obtain ⟨a, vs, rfl, hl, rs⟩ := r1.lst_inv
  obtain ⟨x, e, r⟩ := rvs_dat_get rs hx
  have hlen := rs.length
  rw [List.length_map] at hlen
  have hsz : vs.toList.length = vs.size := Array.length_toList
  rw [sizeLine_eq] at hz
  have hl' := IsList_keep hl H.has
  unfold place at e
  rw [hlen, hsz] at e
  by_cases hk : k < 0
  · rw [if_pos hk] at e
    exact tail_any hl'.typeIs slot_list_getitem.lookup (wpAny_getItem_list_neg hl' hk (by (first | decide | exact Nat.le_trans (by assumption) (by decide) | lia | omega)) (by (first | decide | exact Nat.le_trans (by assumption) (by decide) | lia | omega)) (by rw [← Array.getElem?_toList]; exact e) ⟨fz, _, own, .refl _, H, r, h⟩) (hs _ _)
  · rw [if_neg hk] at e
    exact tail_any hl'.typeIs slot_list_getitem.lookup (wpAny_getItem_list hl' (by (first | decide | exact Nat.le_trans (by assumption) (by decide) | lia | omega)) (by (first | decide | exact Nat.le_trans (by assumption) (by decide) | lia | omega)) (by rw [← Array.getElem?_toList]; exact e) ⟨fz, _, own, .refl _, H, r, h⟩) (hs _ _)
theorem sub_own {o i : Expr} {a : Addr} {l : List V} {k : Int} {d : V} {Q : V → Own → Prop} (hm : (a, Ob.list l) ∈ own) (hlo : -(l.length : Int) ≤ k) (hhi : k < (l.length : Int)) (hz : l.length ≤ sizeLine) (hx : l[place k l.length]? = some d) (h : Q d own)
    (hs : ∀ v u, subscripted i false v u = operate [v, u] (getItem v u) := by intro _ _; with_unfolding_all rfl) : S2 W A RV (subscriptTail o i) (.ref a) (.int k) own Q := fun fz s v u H _ r1 r2 => by
  obtain ⟨t, rfl⟩ := r2.int_inv
  cases r1.val_inv
  obtain ⟨ob, ho, vs, n, rfl, rs⟩ := H.get hm
  obtain ⟨x, e, r⟩ := rs.get hx
  have hlen := rs.length
  rw [sizeLine_eq] at hz
  have hl' : s.heap.IsList a vs.toArray := ⟨_, ho, rfl, n, rfl⟩
  unfold place at e
  rw [hlen] at e
  by_cases hk : k < 0
  · rw [if_pos hk] at e
    exact tail_any hl'.typeIs slot_list_getitem.lookup (wpAny_getItem_list_neg hl' hk (by simp only [List.size_toArray]; (first | decide | exact Nat.le_trans (by assumption) (by decide) | lia | omega)) (by (first | decide | exact Nat.le_trans (by assumption) (by decide) | lia | omega)) (by simpa using e) ⟨fz, _, own, .refl _, H, r, h⟩) (hs _ _)
  · rw [if_neg hk] at e
    exact tail_any hl'.typeIs slot_list_getitem.lookup (wpAny_getItem_list hl' (by (first | decide | exact Nat.le_trans (by assumption) (by decide) | lia | omega)) (by (first | decide | exact Nat.le_trans (by assumption) (by decide) | lia | omega)) (by simpa using e) ⟨fz, _, own, .refl _, H, r, h⟩) (hs _ _)
theorem seqIndex_place {k : Int} {n : Nat} (hlo : -(n : Int) ≤ k) (hhi : k < (n : Int)) : seqIndex? k n = some (place k n) := by
  unfold seqIndex? place
  by_cases hk : k < 0
  · have h1 : (0 : Int) ≤ k + n := by (first | decide | exact Nat.le_trans (by assumption) (by decide) | lia | omega)
    have h2 : k + n < (n : Int) := by (first | decide | exact Nat.le_trans (by assumption) (by decide) | lia | omega)
    simp [hk, h1, h2]
  · have h1 : (0 : Int) ≤ k := by (first | decide | exact Nat.le_trans (by assumption) (by decide) | lia | omega)
    simp [hk, h1, hhi]
theorem sub_tup {o i : Expr} {l : List PyData} {k : Int} {d : PyData} {Q : V → Own → Prop} (hlo : -(l.length : Int) ≤ k) (hhi : k < (l.length : Int)) (hz : l.length ≤ sizeLine) (hx : l[place k l.length]? = some d) (h : Q (.dat d) own)
    (hs : ∀ v u, subscripted i false v u = operate [v, u] (getItem v u) := by intro _ _; with_unfolding_all rfl) : S2 W A RV (subscriptTail o i) (.tup l) (.int k) own Q := fun fz s v u H _ r1 r2 => by
  obtain ⟨t, rfl⟩ := r2.int_inv
  obtain ⟨a, vs, rfl, hl, rs⟩ := r1.tup_inv
  obtain ⟨x, e, r⟩ := rvs_dat_get rs hx
  have hlen := rs.length
  rw [List.length_map] at hlen
  have hsz : vs.toList.length = vs.size := Array.length_toList
  rw [sizeLine_eq] at hz
  have hl' := IsTuple_keep hl H.has
  exact tail_any hl'.typeIs slot_tuple_getitem.lookup (getItem_tuple hl' (by (first | decide | exact Nat.le_trans (by assumption) (by decide) | lia | omega)) (by (first | decide | exact Nat.le_trans (by assumption) (by decide) | lia | omega)) (by rw [show vs.size = l.length by (first | decide | exact Nat.le_trans (by assumption) (by decide) | lia | omega)]; exact seqIndex_place hlo hhi) (by rw [← Array.getElem?_toList]; exact e) ⟨fz, _, own, .refl _, H, r, h⟩) (hs _ _)
theorem sub_str {o i : Expr} {x : Str} {k : Int} {c : Nat} {Q : V → Own → Prop} (hlo : -(x.length : Int) ≤ k) (hhi : k < (x.length : Int)) (hz : x.length ≤ sizeLine) (hx : x.cps[place k x.length]? = some c) (h : Q (.str ⟨#[c]⟩) own)
    (hs : ∀ v u, subscripted i false v u = operate [v, u] (getItem v u) := by intro _ _; with_unfolding_all rfl) : S2 W A RV (subscriptTail o i) (.str x) (.int k) own Q := fun fz s v u H _ r1 r2 => by
  obtain ⟨t, rfl⟩ := r2.int_inv
  obtain ⟨t', rfl⟩ := r1.str_inv
  rw [sizeLine_eq] at hz
  have hc : Txt.charAt x k = some c := by unfold Txt.charAt; rw [seqIndex_place hlo hhi]; exact hx
  refine tail_any (typeIs_str s x t') F.slot_str_getitem.lookup (SB.getItem ?_ (by rw [hc]; rfl) ?_) (hs _ _)
  · unfold fitsSsize; simp; (first | decide | exact Nat.le_trans (by assumption) (by decide) | lia | omega)
  · have e : Txt.item x k = ⟨#[c]⟩ := by unfold Txt.item; rw [hc]; rfl
    rw [e]; exact at_tok H _ (.dat (.str _ _)) h

/-! ### appending -/
theorem do_append {a : Addr} {l : List V} {x : V} {own' : Own} {Q : V → Own → Prop} (u : Upd a (.list l) (.list (l ++ [x])) own own') (hz : l.length ≤ sizeLine) (h : Q .none own') :
    S1 W A RV (fun v => call (.builtin "list.append") [.ref a, v]) x own Q := fun fz s v H _ r => by
  obtain ⟨ob, ho, vs, n, rfl, rs⟩ := H.get u.mem
  refine wpAny_list_append_plain (l := a) (items := vs.toArray) ⟨n, ho⟩ (fun h' ⟨n', hl'⟩ hs' => ?_) (hsz := by rw [List.size_toArray, ← rs.length]; exact hz)
  exact ⟨fz, _, own', .refl _, H.set (k := s.toks) u hs' hl' ⟨vs ++ [v], n', by simp [listObj], rs.append (.cons r .nil)⟩, .dat .none, h⟩
end
section
variable {W : Wd} {A : Around} {env : Env} {own : Own}

/-! ### forgetting -/
inductive ObW : Ob → Ob → Prop
  | refl {o : Ob} : ObW o o
  | ns {l l' : List (Str × V)} : l'.Sublist l → ObW (.ns l) (.ns l')
inductive Wk : Own → Own → Prop
  | nil {l : Own} : Wk l []
  | refl {l : Own} : Wk l l
  | keep {a : Addr} {ob ob' : Ob} {l l' : Own} : ObW ob ob' → Wk l l' → Wk ((a, ob) :: l) ((a, ob') :: l')
  | drop {p : Addr × Ob} {l l' : Own} : Wk l l' → Wk (p :: l) l'
theorem ObW.is {fz : Heap} {ob ob' : Ob} {o : Obj} (x : ObW ob ob') (h : ObIs fz ob o) : ObIs fz ob' o := by
  cases x with
  | refl => exact h
  | ns k => obtain ⟨es, ep, h1, h2, h3⟩ := h; exact ⟨es, ep, h1, h2, fun p hp => h3 p (k.subset hp)⟩
theorem Wk.gens {own own' : Own} (x : Wk own own') {gs : Array GenState} (G : GensIs own gs) : GensIs own' gs := by
  have key : ∀ {own own' : Own}, Wk own own' → (∀ p' ∈ own', ∀ g P, p'.2 = .gen g P → p' ∈ own) ∧ (own'.filterMap fun p => p.2.genOf).Sublist (own.filterMap fun p => p.2.genOf) := by
    intro own own' x
    induction x with
    | nil => exact ⟨fun p hp => (nomatch hp), List.nil_sublist _⟩
    | refl => exact ⟨fun p hp _ _ _ => hp, List.Sublist.refl _⟩
    | @keep a ob ob' l l' h _ ih =>
      refine ⟨fun p hp g P e => ?_, ?_⟩
      · rcases List.mem_cons.mp hp with rfl | hp
        · cases h with
          | refl => exact List.mem_cons_self
          | ns _ => cases e
        · exact List.mem_cons_of_mem _ (ih.1 p hp g P e)
      · have : ob'.genOf = ob.genOf := by cases h <;> rfl
        rw [List.filterMap_cons, List.filterMap_cons, show (a, ob').2.genOf = ob.genOf from this, show (a, ob).2.genOf = ob.genOf from rfl]
        cases ob.genOf with
        | none => exact ih.2
        | some n => exact ih.2.cons_cons n
    | @drop p l l' _ ih =>
      exact ⟨fun p hp g P e => List.mem_cons_of_mem _ (ih.1 p hp g P e), ih.2.trans ((List.sublist_cons_self _ _).filterMap _)⟩
  obtain ⟨k1, k2⟩ := key x
  exact ⟨G.bare, fun p hp g P e => G.st p (k1 p hp g P e) g P e, G.nd.sublist k2⟩
theorem Wk.hold {fz : Heap} {own own' : Own} (x : Wk own own') : ∀ {s : Shared}, Hold W fz own s → Hold W fz own' s := by
  have key : ∀ {own own' : Own}, Wk own own' → (∀ p' ∈ own', ∃ p ∈ own, p.1 = p'.1 ∧ ObW p.2 p'.2) ∧ (own'.map (·.1)).Sublist (own.map (·.1)) := by
    intro own own' x
    induction x with
    | nil => exact ⟨fun p hp => (nomatch hp), List.nil_sublist _⟩
    | refl => exact ⟨fun p hp => ⟨p, hp, rfl, .refl⟩, List.Sublist.refl _⟩
    | @keep a ob ob' l l' h _ ih =>
      refine ⟨fun p hp => ?_, by simpa using ih.2⟩
      rcases List.mem_cons.mp hp with rfl | hp
      · exact ⟨(a, ob), List.mem_cons_self, rfl, h⟩
      · obtain ⟨q, hq, r⟩ := ih.1 p hp; exact ⟨q, List.mem_cons_of_mem _ hq, r⟩
    | @drop p l l' _ ih =>
      refine ⟨fun p hp => ?_, ?_⟩
      · obtain ⟨q, hq, r⟩ := ih.1 p hp; exact ⟨q, List.mem_cons_of_mem _ hq, r⟩
      · exact ih.2.trans (by simp)
  intro s H
  obtain ⟨k1, k2⟩ := key x
  refine ⟨H.base, H.has, fun p hp => ?_, fun p hp => ?_, H.nd.sublist k2, x.gens H.gens, H.os⟩
  · obtain ⟨q, hq, e, w⟩ := k1 p hp
    obtain ⟨o, ho, r⟩ := H.obs q hq
    exact ⟨o, e ▸ ho, w.is r⟩
  · obtain ⟨q, hq, e, w⟩ := k1 p hp
    exact e ▸ H.out q hq
theorem Wk.trans {a b : Own} (x : Wk a b) : ∀ {c : Own}, Wk b c → Wk a c := by
  induction x with
  | nil => intro c y; cases y <;> exact .nil
  | refl => intro c y; exact y
  | keep h _ ih =>
    intro c y
    cases y with
    | nil => exact .nil
    | refl => exact .keep h (ih .refl)
    | keep h' y' =>
      refine .keep ?_ (ih y')
      cases h with
      | refl => exact h'
      | ns k => cases h' with
        | refl => exact .ns k
        | ns k' => exact .ns (k'.trans k)
    | drop y' => exact .drop (ih y')
  | drop _ ih => intro c y; exact .drop (ih y)

theorem SG.wk {α β : Type} {R : Heap → β → α → Prop} {t : Sem α} {own own' : Own} {Q : β → Own → Prop} (k : Wk own own') (h : SG W A R t own' Q) : SG W A R t own Q :=
  fun fz s H ht => h fz s (k.hold H) ht

/-! ### calls of the text's own -/
noncomputable abbrev retTo (Q : V → Own → Prop) : Fl → Own → Prop := fun fl o => ∃ own', Wk o own' ∧ Q (match fl with | .ret v => v | _ => .none) own'

theorem zip_lookup {fz : Heap} : ∀ {names : List Str} {l : List V} {vs : List Value}, RVs fz l vs → names.Nodup → ∀ p ∈ names.zip l, ∃ v, (names.zip vs).lookup p.1 = some v ∧ RV fz p.2 v
  | [], _, _, _, _, p, hp => by simp at hp
  | n :: r, _, _, .nil, _, p, hp => by simp at hp
  | n :: r, _, _, .cons (a := a) (v := v) (l := l) (vs := vs) h t, nd, p, hp => by
    rw [List.nodup_cons] at nd
    rw [List.zip_cons_cons, List.mem_cons] at hp
    rcases hp with rfl | hp
    · exact ⟨v, by simp, h⟩
    · obtain ⟨u, e, q⟩ := zip_lookup t nd.2 p hp
      refine ⟨u, ?_, q⟩
      rw [List.zip_cons_cons, List.lookup_cons]
      have hne : p.1 ≠ n := fun e => nd.1 (e ▸ (List.of_mem_zip (show (p.1, p.2) ∈ r.zip l from hp)).1)
      have : (p.1 == n) = false := by simpa using hne
      rw [this]; exact e
theorem lookup_reverse {l : List (Str × Value)} (nd : (l.map (·.1)).Nodup) (x : Str) : l.reverse.lookup x = l.lookup x := by
  induction l with
  | nil => rfl
  | cons p l ih =>
    rw [List.map_cons, List.nodup_cons] at nd
    rw [List.reverse_cons, List.lookup_append, ih nd.2, List.lookup_cons]
    cases e : x == p.1 with
    | true =>
      have : l.lookup x = none := by
        rw [List.lookup_eq_none_iff]
        intro q hq
        have : x ≠ q.1 := fun e' => nd.1 (List.mem_map.mpr ⟨q, hq, by rw [← e', eq_of_beq e]⟩)
        simpa using this
      rw [this]
      obtain ⟨p1, p2⟩ := p
      have e' : (x == p1) = true := e
      simp [List.lookup_cons, e']
    | false =>
      obtain ⟨p1, p2⟩ := p
      have e' : (x == p1) = false := e
      simp [List.lookup_cons, e']

theorem zip_fst {α β : Type} : ∀ {a : List α} {b : List β}, ((a.zip b).map (·.1)).Sublist a
  | [], _ => by simp
  | _ :: _, [] => by simp
  | x :: a, y :: b => by simpa using zip_fst

/-- a call's own code -/
noncomputable def SLC (W : Wd) (A : Around) (f : Value) (args : List V) (own : Own) (Q : V → Own → Prop) : Prop :=
  ∀ fz s vs, Hold W fz own s → W.tk ≤ s.toks → RVs fz args vs → codeAny (model W.prog W.w) A (.call f ⟨vs, []⟩)
    (fun r s' => match r with | .ok (.ret v) => Post W RV Q fz v s' | .ok _ => False | .error _ => False) s
theorem SLC.call {f : Value} {args : List V} {Q : V → Own → Prop} (h : SLC W A f args own Q) : SL W A RV (fun vs => call f vs) args own Q := fun fz s vs H ht rs =>
  wpAny_call (codeAny_mono (h fz s vs H ht rs) fun r s' x => by rcases r with e | (v | _ | _ | _) <;> first | exact x | exact x.elim)
theorem SLC.mono {f : Value} {args : List V} {Q Q' : V → Own → Prop} (h : SLC W A f args own Q) (q : ∀ b o, Q b o → Q' b o) : SLC W A f args own Q' := fun fz s vs H ht rs =>
  codeAny_mono (h fz s vs H ht rs) fun r s' x => by
    rcases r with e | (v | _ | _ | _) <;> first | exact x.elim | skip
    obtain ⟨fz', b, own', k, H', r, x⟩ := x
    exact ⟨fz', b, own', k, H', r, q _ _ x⟩

theorem do_callC {f : Addr} {args : List V} {Q : V → Own → Prop} {name qual : Str} {params : Arguments} {body : List Stmt} {scope : Scope} {dV kV doc pm cdv ct oc : Value} {an od : Option Addr} {osl : Array (Option Value)}
    (names : List Str) (ho : W.K.lookup f = some ⟨oc, od, .func (fnOf name qual params body scope dV kV doc pm an cdv ct), osl⟩) (hcd : codeIn W.K cdv qual = true) (hroom : A.depth < recursionLimit)
    (hb : ∀ s vs, W.K.In s.heap → vs.length = args.length → BindsTo s (fnOf name qual params body scope dV kV doc pm an cdv ct) ⟨vs, []⟩ (names.zip vs))
    (hloc : ∀ y ∈ names, scope.names.lookup y = some .local) (nd : names.Nodup)
    (h : ∀ L, SXs W (A.deeper (envX qual scope L f cdv [])) (envX qual scope L f cdv []) body ((L, .ns (names.zip args)) :: own) (retTo Q))
    (hco : scope.isCoroutine = false := by rfl) (hgen : scope.isGenerator = false := by rfl) (hk : scope.kind = .function := by rfl)
    (hcell : ∀ x ∈ scope.names, x.2 ≠ .cell := by decide) : SLC W A (.ref f) args own Q := fun fz s vs H ht rs => by
  have ndz : ((names.zip vs).map (·.1)).Nodup := nd.sublist zip_fst
  refine (codeAny_call_def (fd := fnOf name qual params body scope dV kV doc pm an cdv ct) (body := body) (binds := names.zip vs) hroom (H.kin _ _ ho) rfl (W.top.nolimit.keeps H.keep) (codeRec_of H.kin hcd) rfl
    (hb s vs H.kin rs.length.symm) hcell (fun x hx => hloc _ (List.of_mem_zip (show (x.1, x.2) ∈ names.zip vs from hx)).1) (fun h₁ hns hk₁ => ?_) hco hgen hk)
  obtain ⟨o, ho', hob⟩ := of_ns (fz := fz) (loc := names.zip args) hns (fun p hp => by
    obtain ⟨v, e, r⟩ := zip_lookup rs nd p hp
    exact ⟨v, by rw [lookup_reverse ndz]; exact e, r⟩)
  have H₁ : Hold W fz ((s.heap.objs.size, .ns (names.zip args)) :: own) { s with heap := h₁, toks := s.toks + (names.zip vs).length } := H.new hk₁ (get?_ge (Nat.le_refl _)) ho' hob
  refine wpAny_mono (h s.heap.objs.size fz _ H₁ (Nat.le_trans ht (Nat.le_add_right _ _))) (fun fl s' x => ?_) fun _ _ x => x.elim
  obtain ⟨fz', b, own', k, H', r, own'', wk, q⟩ := x
  refine ⟨fz', _, own'', k, wk.hold H', ?_, q⟩
  cases r with
  | next => exact .dat .none
  | brk => exact .dat .none
  | cont => exact .dat .none
  | ret r => exact r

/-! ### iterators -/
theorem rvs_drop {fz : Heap} {x : V} {l : List V} {vs : List Value} {i : Nat} (r : RVs fz (x :: l) (vs.drop i)) : ∃ v, vs[i]? = some v ∧ RV fz x v ∧ RVs fz l (vs.drop (i + 1)) := by
  generalize e : vs.drop i = ws at r
  cases r with
  | cons h t =>
    refine ⟨_, by rw [← List.head?_drop, e]; rfl, h, ?_⟩
    rw [← List.tail_drop, e]; exact t
theorem rvs_drop_nil {fz : Heap} {vs : List Value} {i : Nat} (r : RVs fz [] (vs.drop i)) : vs[i]? = none := by
  generalize e : vs.drop i = ws at r
  cases r
  rw [← List.head?_drop, e]; rfl

theorem it_list {l : List PyData} {Q : V → Own → Prop} (h : ∀ a, Q (.ref a) ((a, .it (l.map V.dat)) :: own)) : S1 W A RV pyIter (.lst l) own Q := fun fz s v H _ r => by
  obtain ⟨a, vs, rfl, hl, rs⟩ := r.lst_inv
  refine wpAny_pyIter_list (IsList_keep hl H.has) ?_
  exact ⟨fz, _, _, .refl _, H.new (ob := .it (l.map V.dat)) (k := s.toks) (Keep.push _ _) (get?_ge (Nat.le_refl _)) (Heap.get?_push_size _ rfl) (.list hl (by simpa using rs) rfl rfl), .val _, h _⟩
theorem it_range {a b c : Int} {n : Nat} {Q : V → Own → Prop} (hs : Builtin.Range.small a b c = true) (hn : Builtin.Range.rangeSize a b c = (n : Int)) (h : ∀ i, Q (.ref i) ((i, .it ((List.range n).map fun j : Nat => V.int (a + (j : Int) * c))) :: own)) :
    S1 W A RV pyIter (.rng a b c) own Q := fun fz s v H _ r => by
  cases r with
  | rng r =>
  refine wpAny_pyIter_range (IsRange_keep r H.has) hs ?_
  rw [hn]
  exact ⟨fz, _, _, .refl _, H.new (ob := .it ((List.range n).map fun j : Nat => V.int (a + (j : Int) * c))) (k := s.toks) (Keep.push _ _) (get?_ge (Nat.le_refl _)) (Heap.get?_push_size _ rfl) (.range rfl rfl), .val _, h _⟩

/-- one more is drawn -/
theorem next_some {a : Addr} {x : V} {l : List V} {fz : Heap} {s : Shared} {own' : Own} {P : Option Value → Shared → Prop} (H : Hold W fz own s) (u : Upd a (.it (x :: l)) (.it l) own own')
    (q : ∀ v s', Hold W fz own' s' → s.toks ≤ s'.toks → RV fz x v → P (some v) s') : wpAny (model W.prog W.w) A (pyNext (.ref a)) P NoX s := by
  obtain ⟨o, ho, hob⟩ := H.get u.mem
  cases hob with
  | @list b vs i _ _ hl rs hc hd =>
    obtain ⟨v, e, rx, rl⟩ := rvs_drop rs
    refine wpAny_pyNext_list_item (l := b) (i := i) ⟨o, ho, hc, hd⟩ (IsList_keep hl H.has) (by rw [← Array.getElem?_toList]; exact e) fun h' ⟨o', ho', hc', hd'⟩ hs' => ?_
    exact q v _ (H.set (k := s.toks) u hs' ho' (.list hl rl hc' (by exact hd'))) (Nat.le_refl _) rx
  | @tup b vs i _ _ hl rs hc hd =>
    obtain ⟨v, e, rx, rl⟩ := rvs_drop rs
    refine wpAny_pyNext_tuple_item (t := b) (i := i) ⟨o, ho, hc, hd⟩ (IsTuple_keep hl H.has) (by rw [← Array.getElem?_toList]; exact e) fun h' ⟨o', ho', hc', hd'⟩ hs' => ?_
    exact q v _ (H.set (k := s.toks) u hs' ho' (.tup hl rl hc' (by exact hd'))) (Nat.le_refl _) rx
  | @range y c n _ _ hl e =>
    subst e
    cases n with
    | zero => cases hl
    | succ n =>
      rw [List.range_succ_eq_map, List.map_cons, List.map_map] at hl
      injection hl with e1 e2
      refine wpAny_pyNext_range_item (x := y) (left := ((n + 1 : Nat) : Int)) (step := c) (by exact ho) (by (first | decide | exact Nat.le_trans (by assumption) (by decide) | lia | omega)) fun h' hit hs' => ?_
      refine q _ _ (H.set (k := s.toks + 1) u hs' (by exact hit) (.range (x := y + c) (n := n) (c := c) ?_ ?_)) (Nat.le_succ _) ?_
      · rw [e2]; apply List.map_congr_left; intro j _
        have : y + ((Nat.succ j : Nat) : Int) * c = y + c + (j : Int) * c := by
          rw [Nat.succ_eq_add_one]; push_cast; rw [Int.add_mul, Int.one_mul]; (first | decide | exact Nat.le_trans (by assumption) (by decide) | lia | omega)
        show V.int (y + ((Nat.succ j : Nat) : Int) * c) = _
        rw [this]
      · have : (((n + 1 : Nat) : Int) - 1) = (n : Int) := by push_cast; (first | decide | exact Nat.le_trans (by assumption) (by decide) | lia | omega)
        rw [this]
      · rw [e1]; simp; exact .dat (.int _ _)
  | @ascii y t i _ _ hl hc hd =>
    have e : y.cps[i]? = (y.cps.toList.drop i).head? := by rw [List.head?_drop, Array.getElem?_toList]
    have tl : y.cps.toList.drop (i + 1) = (y.cps.toList.drop i).tail := (List.tail_drop ..).symm
    cases hq : y.cps.toList.drop i with
    | nil => rw [hq] at hl; cases hl
    | cons c r =>
      rw [hq] at hl e tl
      injection hl with e1 e2
      refine wpAny_pyNext_ascii_item (x := y) (t := t) (i := i) (c := c) ⟨o, ho, hc, hd⟩ e fun h' ⟨o', ho', hc', hd'⟩ hs' => ?_
      exact q _ _ (H.set (k := s.toks + 1) u hs' ho' (.ascii (by rw [tl]; exact e2) hc' (by exact hd'))) (Nat.le_succ _) (by rw [e1]; exact .dat (.str _ _))
  | @wide y t i _ _ hl hc hd =>
    have e : y.cps[i]? = (y.cps.toList.drop i).head? := by rw [List.head?_drop, Array.getElem?_toList]
    have tl : y.cps.toList.drop (i + 1) = (y.cps.toList.drop i).tail := (List.tail_drop ..).symm
    cases hq : y.cps.toList.drop i with
    | nil => rw [hq] at hl; cases hl
    | cons c r =>
      rw [hq] at hl e tl
      injection hl with e1 e2
      refine wpAny_pyNext_wide_item (x := y) (t := t) (i := i) (c := c) ⟨o, ho, hc, hd⟩ e fun h' ⟨o', ho', hc', hd'⟩ hs' => ?_
      exact q _ _ (H.set (k := s.toks + 1) u hs' ho' (.wide (by rw [tl]; exact e2) hc' (by exact hd'))) (Nat.le_succ _) (by rw [e1]; exact .dat (.str _ _))

theorem Hold.extBut {fz : Heap} {s : Shared} {a : Addr} {ob : Ob} (H : Hold W fz ((a, ob) :: own) s) {h' : Heap} {k : Nat} (he : Heap.ExtBut a s.heap h') : Hold W fz own { s with heap := h', toks := k } where
  base := H.base
  has := fun b o e => he b o (fun hb => by have := H.out _ List.mem_cons_self; rw [hb] at e; exact absurd e (by rw [this]; exact fun x => nomatch x)) (H.has b o e)
  obs := fun p hp => by
    obtain ⟨o, e, r⟩ := H.obs p (List.mem_cons_of_mem _ hp)
    have nd := H.nd
    rw [List.map_cons, List.nodup_cons] at nd
    exact ⟨o, he _ _ (fun hb => nd.1 (List.mem_map.mpr ⟨p, hp, hb⟩)) e, r⟩
  out := fun p hp => H.out p (List.mem_cons_of_mem _ hp)
  nd := by have nd := H.nd; rw [List.map_cons, List.nodup_cons] at nd; exact nd.2
  gens := H.gens.sub (List.sublist_cons_self _ _)
  os := H.os

theorem next_over {prog : Program} {w : World} {E : Value → Shared → Prop} {s : Shared} {it : Addr} {o : Obj} {k : Value} {Q : Option Value → Shared → Prop} (hh : A.handled = none)
    (ho : s.heap.get? it = some o) (hc : o.cls = .type "list_iterator") (hd : o.data = .fields #[.none, k])
    (hQ : ∀ h', Keep s.heap h' → Q none { s with heap := h' }) : wpAny (model prog w) A (pyNext (.ref it)) Q E s := by
  have hT : s.TypeIs (.ref it) "list_iterator" := ⟨o, ho, hc⟩
  unfold pyNext
  refine wpAny_bind (wpAny_attempt (wpAny_callSpecial?_slot (name := Str.ofString "__next__") hT slot_listiter_next
    (wpAny_call_entry slot_listiter_next hT entry_listiter_next ?_ (args_listiter_next _))))
  show wpAny _ _ (field (.ref it) 0 >>= _) _ _ s
  refine wpAny_bind (wpAny_field ho hd (x := .none) rfl ?_)
  show wpAny _ _ (if (Value.none == Value.none) = true then _ else _) _ _ s
  rw [if_pos (show ((Value.none == Value.none) = true) from rfl)]
  refine wpAny_bind (wpAny_rule ?_)
  refine wpAny_bind ?_
  show wpAny _ _ (newExc (.type "StopIteration") [] >>= _) _ _ _
  refine wpAny_bind ?_
  simp only [newExc, newTuple]
  refine wpAny_bind (wpAny_newObj_type ?_ (by size_fits))
  refine wpAny_bind (m := firstArgMember _ _) (wpAny_of_eq (a := Value.none) (by first | rfl | (simp only [firstArgMember]; rfl)) ?_)
  refine wpAny_newObj_type ?_ (by size_fits)
  simp only [raiseNew]
  refine wpAny_bind (wpAny_handled ?_)
  rw [show A.in1.handled = none from hh]
  refine wpAny_bind (wpAny_pure (wpAny_throw ?_))
  refine wpAny_bind (wpAny_isInstance (T := "StopIteration") (b := true) ⟨_, Heap.get?_push_size _ rfl, rfl⟩ isSubtype_stop ?_)
  exact wpAny_pure (hQ _ ((Keep.push _ _).trans (Keep.push _ _)))

theorem next_none {a : Addr} {fz : Heap} {s : Shared} {P : Option Value → Shared → Prop} (hh : A.handled = none) (H : Hold W fz ((a, .it []) :: own) s)
    (q : ∀ s', Hold W fz own s' → s.toks ≤ s'.toks → P none s') : wpAny (model W.prog W.w) A (pyNext (.ref a)) P NoX s := by
  obtain ⟨o, ho, hob⟩ := H.get List.mem_cons_self
  cases hob with
  | @list b vs i _ _ hl rs hc hd =>
    refine wpAny_pyNext_list_end hh (l := b) (i := i) ⟨o, ho, hc, hd⟩ (IsList_keep hl H.has) (by rw [← Array.getElem?_toList]; exact rvs_drop_nil rs) fun h' he => ?_
    exact q _ (H.extBut (k := s.toks) he) (Nat.le_refl _)
  | @tup b vs i _ _ hl rs hc hd =>
    refine wpAny_pyNext_tuple_end hh (t := b) (i := i) ⟨o, ho, hc, hd⟩ (IsTuple_keep hl H.has) (by rw [← Array.getElem?_toList]; exact rvs_drop_nil rs) fun h' he => ?_
    exact q _ (H.extBut (k := s.toks) he) (Nat.le_refl _)
  | @range y c n _ _ hl e =>
    subst e
    cases n with
    | zero =>
      refine wpAny_pyNext_range_end hh (x := y) (left := ((0 : Nat) : Int)) (step := c) (by exact ho) (by (first | decide | exact Nat.le_trans (by assumption) (by decide) | lia | omega)) fun h' he => ?_
      exact q _ (H.extBut (k := s.toks) he) (Nat.le_refl _)
    | succ n => rw [List.range_succ_eq_map, List.map_cons] at hl; cases hl
  | @ascii y t i _ _ hl hc hd =>
    have e : y.cps[i]? = none := by
      have : y.cps.toList.drop i = [] := by simpa using hl.symm
      rw [← Array.getElem?_toList, ← List.head?_drop, this]; rfl
    refine wpAny_pyNext_ascii_end hh (x := y) (t := t) (i := i) ⟨o, ho, hc, hd⟩ e fun h' he => ?_
    exact q _ (H.extBut (k := s.toks) he) (Nat.le_refl _)
  | @wide y t i _ _ hl hc hd =>
    have e : y.cps[i]? = none := by
      have : y.cps.toList.drop i = [] := by simpa using hl.symm
      rw [← Array.getElem?_toList, ← List.head?_drop, this]; rfl
    refine wpAny_pyNext_wide_end hh (x := y) (t := t) (i := i) ⟨o, ho, hc, hd⟩ e fun h' he => ?_
    exact q _ (H.extBut (k := s.toks) he) (Nat.le_refl _)
  | over hc hd => exact next_over hh ho hc hd fun h' hk => q _ (H.tail.grow (k := s.toks) hk) (Nat.le_refl _)

/-! ### targets -/
theorem it_cls {fz : Heap} {l : List V} {o : Obj} (x : ItIs fz l o) : ∃ n, o.cls = .type n ∧ ["enumerate", "zip", "dict_itemiterator", "dict_reverseitemiterator", "odict_iterator", "itertools.zip_longest", "itertools.pairwise"].contains n = false := by
  cases x with
  | list _ _ c _ => exact ⟨_, c, by decide⟩
  | tup _ _ c _ => exact ⟨_, c, by decide⟩
  | range _ e => subst e; exact ⟨_, rfl, by decide⟩
  | ascii _ c _ => exact ⟨_, c, by decide⟩
  | wide _ c _ => exact ⟨_, c, by decide⟩
  | over c _ => exact ⟨_, c, by decide⟩
theorem let_go {prog : Program} {w : World} {E : Value → Shared → Prop} {s : Shared} {fz : Heap} {l : List V} {o : Obj} {it : Addr} {v : Value} {target : Expr} {Q : Unit → Shared → Prop} (ho : s.heap.get? it = some o) (x : ItIs fz l o) (h : Q () s) :
    wpAny (model prog w) A (letOwnedTupleGo target (.ref it) v) Q E s := by
  obtain ⟨n, hc, hn⟩ := it_cls x
  unfold letOwnedTupleGo
  have key : wpAny (model prog w) A (do
      let (.ref r, .ref a) := ((Value.ref it), v) | return
      let o ← load r
      match o.cls, o.data with
      | .type n, .fields vs =>
        if ["enumerate", "zip", "dict_itemiterator", "dict_reverseitemiterator", "odict_iterator", "itertools.zip_longest", "itertools.pairwise"].contains n && vs[0]? == some (rawInt a) then
          rule "for.unpacks-the-owned-tuple"
          updateField r 0 .none
      | _, _ => pure ()) Q E s := by
    cases v with
    | ref a =>
      show wpAny _ _ (load it >>= _) _ _ _
      refine wpAny_bind (wpAny_load ho ?_)
      obtain ⟨c, d, dt, sl⟩ := o
      cases hc
      cases dt <;> first
        | exact wpAny_pure h
        | (dsimp only; rw [hn, Bool.false_and, if_neg Bool.false_ne_true]; exact wpAny_pure h)
    | _ => exact wpAny_pure h
  cases target <;> first | exact key | exact wpAny_pure h

/-! ### loops -/
noncomputable abbrev turnEnd (it : Addr) (r : List V) (I : List V → Own → Prop) (Q : Fl → Own → Prop) : Fl → Own → Prop
  | .next, o | .cont, o => ∃ o', Wk o ((it, .it r) :: o') ∧ I r o'
  | .brk, o => Q .next o
  | .ret v, o => Q (.ret v) o

theorem for_core {target : Expr} {body : List Stmt} {Q : Fl → Own → Prop} {it : Addr} (hh : A.handled = none) (I : List V → Own → Prop)
    (turn : ∀ x r o, I (x :: r) o → SA W A env target x ((it, .it r) :: o) fun o' => SXs W A env body o' (turnEnd it r I Q)) (last : ∀ o, I [] o → Q .next o) :
    ∀ (l : List V) (own : Own) (fz : Heap) (s : Shared), Hold W fz ((it, .it l) :: own) s → W.tk ≤ s.toks → I l own →
      codeAny (model W.prog W.w) A (.forLoop target (.ref it) body [] env) (fun r s' => match r with | .ok f => Post W RF Q fz f s' | .error _ => False) s := by
  intro l own fz s H ht hI
  refine codeAny_loop' rfl (fun n s' => ∃ fz' l own, l.length = n ∧ Keep fz fz' ∧ Hold W fz' ((it, .it l) :: own) s' ∧ W.tk ≤ s'.toks ∧ I l own) (fun n s' hJ => ?_) l.length ⟨fz, l, own, rfl, .refl _, H, ht, hI⟩
  obtain ⟨fz₁, l₁, own₁, rfl, k₁, H₁, t₁, I₁⟩ := hJ
  show wpAny _ _ ((forTurn target (.ref it) body [] env).onRaise (fun x => do noteFrame x env; theTreesLotGoes x)) _ _ s'
  refine wpAny_onRaise (wpAny_mono (E := NoX) ?_ (fun _ _ q => q) fun _ _ x => x.elim)
  simp only [forTurn]
  refine wpAny_bind (wpAny_standAt (wpAny_bind (wpAny_onRaise (wpAny_mono (E := NoX) (Q := fun r s₁ => match r with
    | none => ∃ o, I [] o ∧ Hold W fz₁ o s₁ ∧ W.tk ≤ s₁.toks
    | some v => ∃ x r o, l₁ = x :: r ∧ I (x :: r) o ∧ Hold W fz₁ ((it, .it r) :: o) s₁ ∧ W.tk ≤ s₁.toks ∧ RV fz₁ x v) ?_ (fun r s₁ h₁ => ?_) fun _ _ x => x.elim))))
  · cases l₁ with
    | nil => exact next_none hh H₁ fun s'' H'' t'' => ⟨own₁, I₁, H'', Nat.le_trans t₁ t''⟩
    | cons x r => exact next_some H₁ .here fun v s'' H'' t'' rx => ⟨x, r, own₁, rfl, I₁, H'', Nat.le_trans t₁ t'', rx⟩
  · cases r with
    | none =>
      obtain ⟨o, Io, Ho, to⟩ := h₁
      refine wpAny_pure (.inr ⟨rfl, codeAny_block (wpAny_execs_nil ?_)⟩)
      exact ⟨fz₁, .next, o, k₁, Ho, .next, last o Io⟩
    | some v =>
      obtain ⟨x, r, o, rfl, Io, Ho, to, rx⟩ := h₁
      obtain ⟨ob, hob, hit⟩ := Ho.get List.mem_cons_self
      refine wpAny_bind (let_go hob hit ?_)
      refine wpAny_bind (wp_then (turn x r o Io fz₁ _ v Ho to rx) to fun fz₂ _ _ o₂ s₂ k₂ H₂ t₂ _ q₂ => wpAny_bind (wp_then (q₂ fz₂ s₂ H₂ t₂) t₂ fun fz₃ f b o₃ s₃ k₃ H₃ t₃ r₃ q₃ => ?_))
      cases r₃ with
      | next =>
        obtain ⟨o', wk, I'⟩ := q₃
        exact wpAny_pure (.inl ⟨rfl, r.length, by simp, fz₃, r, o', rfl, k₁.trans (k₂.trans k₃), wk.hold H₃, t₃, I'⟩)
      | cont =>
        obtain ⟨o', wk, I'⟩ := q₃
        exact wpAny_pure (.inl ⟨rfl, r.length, by simp, fz₃, r, o', rfl, k₁.trans (k₂.trans k₃), wk.hold H₃, t₃, I'⟩)
      | brk => exact wpAny_pure ⟨fz₃, _, o₃, k₁.trans (k₂.trans k₃), H₃, .next, q₃⟩
      | ret rv => exact wpAny_pure ⟨fz₃, _, o₃, k₁.trans (k₂.trans k₃), H₃, .ret rv, q₃⟩

/-- what a for wants of its iterator -/
noncomputable abbrev Fors (W : Wd) (A : Around) (env : Env) (target : Expr) (body : List Stmt) (Q : Fl → Own → Prop) (b : V) (o : Own) : Prop :=
  ∃ it l o', b = .ref it ∧ o = (it, .it l) :: o' ∧ ∃ I : List V → Own → Prop, I l o' ∧ (∀ x r o, I (x :: r) o → SA W A env target x ((it, .it r) :: o) fun o' => SXs W A env body o' (turnEnd it r I Q)) ∧ (∀ o, I [] o → Q .next o)
theorem SX_For {target iter : Expr} {body : List Stmt} {pos : Pos} {Q : Fl → Own → Prop} (hh : A.handled = none) (h : SE W A env iter own fun a o1 => S1 W A RV pyIter a o1 (Fors W A env target body Q))
    (hs : ∀ x, foldedSetIterable iter env x = pure x := by intro _; rfl) : SX W A env (.For target iter body [] pos) own Q := fun fz s H ht => by
  refine wpAny_For (wp_then (h fz s H ht) ht fun fz1 va a o1 s1 k1 H1 t1 r1 q1 => wp_then (q1 fz1 s1 va H1 t1 r1) t1 fun fz2 vb b o2 s2 k2 H2 t2 r2 q2 => ?_) hs
  obtain ⟨it, l, o', rfl, rfl, I, Il, turn, last⟩ := q2
  cases r2.val_inv
  refine codeAny_mono (for_core hh I turn last l o' fz2 s2 H2 t2 Il) fun r s' x => ?_
  cases r with
  | ok f => exact Post.weak x (k1.trans k2)
  | error e => exact x.elim

/-! ### unpacking -/
noncomputable def SAs (W : Wd) (A : Around) (env : Env) (ts : List Expr) (l : List V) (own : Own) (Q : Own → Prop) : Prop :=
  SL W A RU (fun vs => assignInOrder ((assignEach ts env).map (·.2)) vs) l own fun _ => Q
theorem SAs_nil {Q : Own → Prop} (h : Q own) : SAs W A env [] [] own Q := fun fz s vs H ht r => by
  cases r
  exact wpAny_pure ⟨fz, (), own, .refl _, H, trivial, h⟩
theorem SAs_cons {t : Expr} {ts : List Expr} {x : V} {l : List V} {Q : Own → Prop} (h : SA W A env t x own fun o1 => SAs W A env ts l o1 Q)
    (he : assignEach (t :: ts) env = (false, assign t env) :: assignEach ts env := by rfl) : SAs W A env (t :: ts) (x :: l) own Q := fun fz s vs H ht r => by
  cases r with
  | cons r rs =>
  unfold At
  rw [he]
  show wpAny _ _ (holding _ (assign t env _) >>= fun _ => assignInOrder ((assignEach ts env).map (·.2)) _) _ _ _
  refine wpAny_bind (wpAny_holding (wp_then (h fz s _ H ht r) ht fun fz1 _ _ o1 s1 k1 H1 t1 _ q1 => ?_))
  exact (q1 fz1 s1 _ H1 t1 (rs.mono k1)).weak k1
theorem SA_Tuple {ts : List Expr} {x1 : Nat} {pos : Pos} {l : List PyData} {Q : Own → Prop} (hh : A.handled = none) (hn : (assignEach ts env).length = l.length) (h : SAs W A env ts (l.map V.dat) own Q)
    (hstar : (assignEach ts env).findIdx? (·.1) = none := by rfl) : SA W A env (.Tuple ts x1 pos) (.tup l) own Q := fun fz s v H ht r => by
  obtain ⟨a, vs, rfl, hl, rs⟩ := r.tup_inv
  have hlen := rs.length
  rw [List.length_map] at hlen
  have hsz : vs.toList.length = vs.size := Array.length_toList
  refine wpAny_assign_Tuple hh (IsTuple_keep hl H.has) (by (first | decide | exact Nat.le_trans (by assumption) (by decide) | lia | omega)) hstar fun h' he => ?_
  exact h fz _ _ (H.grow (k := s.toks) fun b o e => he b o (Nat.ne_of_lt (Heap.lt_size e)) e) ht rs
theorem SX_AssignT {elts : List Expr} {k : Nat} {tpos pos : Pos} {value : Expr} {Q : Fl → Own → Prop} (h : SE W A env value own fun a o1 => SA W A env (.Tuple elts k tpos) a o1 fun o2 => Q .next o2)
    (hs : swapsWithSole [.Tuple elts k tpos] value pos.line env = pure false := by rfl)
    (hw : swappedStores [.Tuple elts k tpos] value env = pure none := by rfl) : SX W A env (.Assign [.Tuple elts k tpos] value pos) own Q := fun fz s H ht => by
  refine Assign_Tuple (wp_then (h fz s H ht) ht fun fz1 va a o1 s1 k1 H1 t1 r1 q1 => wp_then (q1 fz1 s1 va H1 t1 r1) t1 fun fz2 _ _ o2 s2 k2 H2 t2 _ q2 => ?_) hs hw
  exact ⟨fz2, _, o2, k1.trans k2, H2, .next, q2⟩
end
section
variable {W : Wd} {A : Around} {env : Env} {own : Own}

theorem it_self {fz : Heap} {s : Shared} {it : Addr} {l : List V} {Q : Value → Shared → Prop} {E : Value → Shared → Prop} (H : Hold W fz own s) (hm : (it, Ob.it l) ∈ own) (h : Q (.ref it) s) :
    wpAny (model W.prog W.w) A (pyIter (.ref it)) Q E s := by
  obtain ⟨o, ho, hob⟩ := H.get hm
  cases hob with
  | list _ _ hc hd => exact wpAny_pyIter_listiter ⟨o, ho, hc, hd⟩ h
  | tup _ _ hc hd => exact wpAny_pyIter_tupleiter ⟨o, ho, hc, hd⟩ h
  | range _ e => subst e; exact wpAny_pyIter_rangeiter (by exact ho) h
  | ascii _ hc hd => exact wpAny_pyIter_striter_ascii ⟨o, ho, hc, hd⟩ h
  | wide _ hc hd => exact wpAny_pyIter_striter_wide ⟨o, ho, hc, hd⟩ h
  | over hc hd =>
    have hT : s.TypeIs (.ref it) "list_iterator" := ⟨o, ho, hc⟩
    refine wpAny_pyIter_slot hT slot_listiter_iter (wpAny_call_entry slot_listiter_iter hT entry_listiter_iter ?_ (args_listiter_iter _))
    show wpAny _ _ (ret (.ref it)) _ _ s
    exact wpAny_pure ⟨_, rfl, "list_iterator", _, hT, slot_listiter_next.lookup, h⟩
/-! ### comprehensions -/
noncomputable def testsSem (ifs : List Expr) (cenv : Env) : Sem Bool := forIn ifs true fun c r => if r = true then do let ok ← isTrue c cenv (eval c cenv); pure (ForInStep.yield ok) else pure (ForInStep.yield r)
noncomputable abbrev STs (W : Wd) (A : Around) (cenv : Env) (ifs : List Expr) (own : Own) (Q : Bool → Own → Prop) : Prop := SG W A RB (testsSem ifs cenv) own Q
theorem STs_nil {Q : Bool → Own → Prop} (h : Q true own) : STs W A env [] own Q := fun fz s H ht => wpAny_tests_nil ⟨fz, _, own, .refl _, H, rfl, h⟩
/-- one clause's turns -/
noncomputable def turnSem (e : Expr) (d : Nat) (p : Pos) (target : Expr) (ifs : List Expr) (inner : Sem Unit) (it acc : Value) (cenv : Env) : Sem Fin := do
  standAt p
  match ← pyNext it with
  | none => pure (.done .next)
  | some v =>
    letOwnedTupleGo target it v
    assign target cenv v
    let ok ← testsSem ifs cenv
    if ok then
      inner
    again (.compLoop e d it acc cenv)

theorem comp_core {e : Expr} {d : Nat} {p : Pos} {target : Expr} {ifs : List Expr} {inner : Sem Unit} {acc : Value} {cenv : Env} {it : Addr} (hh : A.handled = none)
    (heq : compTurn e d (.ref it) acc cenv = turnSem e d p target ifs inner (.ref it) acc cenv)
    (hden : denote table (.compLoop e d (.ref it) acc cenv) = (compTurn e d (.ref it) acc cenv).onRaise (fun x => do noteFrame x cenv; theTreesLotGoes x))
    (hu : A.under (.compLoop e d (.ref it) acc cenv) = A) (I : List V → Own → Prop)
    (turn : ∀ x r o, I (x :: r) o → SA W A cenv target x ((it, .it r) :: o) fun o1 => STs W A cenv ifs o1 fun ok o2 =>
      if ok then SG W A RU inner o2 (fun _ o3 => ∃ o', Wk o3 ((it, .it r) :: o') ∧ I r o') else ∃ o', Wk o2 ((it, .it r) :: o') ∧ I r o') :
    ∀ (l : List V) (own : Own) (fz : Heap) (s : Shared), Hold W fz ((it, .it l) :: own) s → W.tk ≤ s.toks → I l own →
      codeAny (model W.prog W.w) A (.compLoop e d (.ref it) acc cenv) (fun r s' => match r with | .ok _ => ∃ fz' own', Keep fz fz' ∧ Hold W fz' own' s' ∧ W.tk ≤ s'.toks ∧ I [] own' | .error _ => False) s := by
  intro l own fz s H ht hI
  refine codeAny_loop' rfl (fun n s' => ∃ fz' l own, l.length = n ∧ Keep fz fz' ∧ Hold W fz' ((it, .it l) :: own) s' ∧ W.tk ≤ s'.toks ∧ I l own) (fun n s' hJ => ?_) l.length ⟨fz, l, own, rfl, .refl _, H, ht, hI⟩
  obtain ⟨fz₁, l₁, own₁, rfl, k₁, H₁, t₁, I₁⟩ := hJ
  rw [hu]
  show wpAny _ _ (denote table (.compLoop e d (.ref it) acc cenv)) _ _ s'
  rw [hden]
  refine wpAny_onRaise (wpAny_mono (E := NoX) ?_ (fun _ _ q => q) fun _ _ x => x.elim)
  rw [heq]
  unfold turnSem
  refine wpAny_bind (wpAny_standAt (wpAny_bind (wpAny_mono (E := NoX) (Q := fun r s₁ => match r with
    | none => ∃ o, I [] o ∧ Hold W fz₁ o s₁ ∧ W.tk ≤ s₁.toks
    | some v => ∃ x r o, l₁ = x :: r ∧ I (x :: r) o ∧ Hold W fz₁ ((it, .it r) :: o) s₁ ∧ W.tk ≤ s₁.toks ∧ RV fz₁ x v) ?_ (fun r s₁ h₁ => ?_) fun _ _ x => x.elim)))
  · cases l₁ with
    | nil => exact next_none hh H₁ fun s'' H'' t'' => ⟨own₁, I₁, H'', Nat.le_trans t₁ t''⟩
    | cons x r => exact next_some H₁ .here fun v s'' H'' t'' rx => ⟨x, r, own₁, rfl, I₁, H'', Nat.le_trans t₁ t'', rx⟩
  · cases r with
    | none =>
      obtain ⟨o, Io, Ho, to⟩ := h₁
      exact wpAny_pure ⟨fz₁, o, k₁, Ho, to, Io⟩
    | some v =>
      obtain ⟨x, r, o, rfl, Io, Ho, to, rx⟩ := h₁
      obtain ⟨ob, hob, hit⟩ := Ho.get List.mem_cons_self
      refine wpAny_bind (let_go hob hit ?_)
      refine wpAny_bind (wp_then (turn x r o Io fz₁ _ v Ho to rx) to fun fz₂ _ _ o₂ s₂ k₂ H₂ t₂ _ q₂ => wpAny_bind (wp_then (q₂ fz₂ s₂ H₂ t₂) t₂ fun fz₃ ok b o₃ s₃ k₃ H₃ t₃ r₃ q₃ => ?_))
      subst r₃
      cases ok with
      | false =>
        obtain ⟨o', wk, I'⟩ := q₃
        exact wpAny_pure (.inl ⟨rfl, r.length, by simp, fz₃, r, o', rfl, k₁.trans (k₂.trans k₃), wk.hold H₃, t₃, I'⟩)
      | true =>
        refine wpAny_bind (wp_then (q₃ fz₃ s₃ H₃ t₃) t₃ fun fz₄ _ _ o₄ s₄ k₄ H₄ t₄ _ q₄ => ?_)
        obtain ⟨o', wk, I'⟩ := q₄
        exact wpAny_pure (.inl ⟨rfl, r.length, by simp, fz₄, r, o', rfl, k₁.trans (k₂.trans (k₃.trans k₄)), wk.hold H₄, t₄, I'⟩)

noncomputable def emitSem (elt : Expr) (acc : Value) (cenv : Env) : Sem Unit := do let _ ← call (.builtin "list.append") [acc, ← eval elt cenv]
theorem turn_one (elt target iter : Expr) (ifs : List Expr) (scope : Scope) (pos : Pos) (it acc : Value) (cenv : Env) :
    compTurn (.ListComp elt [⟨target, iter, ifs, 0⟩] scope pos) 0 it acc cenv = turnSem (.ListComp elt [⟨target, iter, ifs, 0⟩] scope pos) 0 iter.pos target ifs (emitSem elt acc cenv) it acc cenv := by rfl
theorem emit_list {elt : Expr} {D : Addr} {Q : Own → Prop} (h : SE W A env elt own fun a o1 => ∃ o1' ys o2, Wk o1 o1' ∧ Upd D (.list ys) (.list (ys ++ [a])) o1' o2 ∧ ys.length ≤ sizeLine ∧ Q o2) : SG W A RU (emitSem elt (.ref D) env) own fun _ => Q := fun fz s H ht => by
  unfold emitSem
  refine wpAny_bind (wp_then (h fz s H ht) ht fun fz1 va a o1 s1 k1 H1 t1 r1 q1 => ?_)
  obtain ⟨o1', ys, o2, wk, u, hz, q⟩ := q1
  refine wpAny_bind (wp_then (do_append (Q := fun _ => Q) u hz q fz1 s1 va (wk.hold H1) t1 r1) t1 fun fz2 _ _ o3 s2 k2 H2 t2 _ q2 => wpAny_pure ⟨fz2, (), o3, k1.trans k2, H2, trivial, q2⟩)

theorem compStart_any {e : Expr} {d : Nat} {g : Comprehension} {it : Addr} {l : List V} {acc : Value} {cenv : Env} {fz : Heap} {s : Shared} {R : Result → Shared → Prop} (H : Hold W fz own s) (hm : (it, Ob.it l) ∈ own)
    (hg : (clausesOf e)[d]? = some g) (ha : (g.is_async != 0) = false)
    (hden : denote table (.compStart e d (.ref it) acc cenv) = (compStart e d (.ref it) acc cenv).onRaise (fun x => do noteFrame x cenv; standAt theWindowsPlace))
    (h : codeAny (model W.prog W.w) A (.compLoop e d (.ref it) acc cenv) R s) : codeAny (model W.prog W.w) A (.compStart e d (.ref it) acc cenv) R s := by
  refine codeAny_of_tree ?_
  show wpAny _ _ (denote table (.compStart e d (.ref it) acc cenv)) _ _ s
  rw [hden]
  refine wpAny_onRaise (wpAny_mono (E := NoX) ?_ (fun _ _ q => q) fun _ _ x => x.elim)
  unfold compStart
  rw [hg]
  simp only [Option.elim, ha, Bool.false_eq_true, if_false]
  refine wpAny_bind (wpAny_askSetting (wpAny_ite ?_))
  split
  · first
      | exact wpAny_bind (wpAny_pure (wpAny_pure (And.intro rfl h)))
      | exact wpAny_pure (And.intro rfl h)
  · exact wpAny_bind (wpAny_rule (wpAny_bind (wpAny_standAt (wpAny_bind (it_self H hm (wpAny_pure (And.intro rfl h)))))))

/-- a clause's loop -/
noncomputable def CL (W : Wd) (A : Around) (e : Expr) (d : Nat) (D : Addr) (cenv : Env) (it : Addr) (l : List V) (own : Own) (Q : Own → Prop) : Prop :=
  ∀ fz s, Hold W fz ((it, .it l) :: own) s → W.tk ≤ s.toks → codeAny (model W.prog W.w) A (.compLoop e d (.ref it) (.ref D) cenv)
    (fun r s' => match r with | .ok _ => ∃ fz' own', Keep fz fz' ∧ Hold W fz' own' s' ∧ W.tk ≤ s'.toks ∧ Q own' | .error _ => False) s
/-- one turn of a clause -/
noncomputable abbrev CT (W : Wd) (A : Around) (cenv : Env) (target : Expr) (ifs : List Expr) (inner : Sem Unit) (it : Addr) (I : List V → Own → Prop) : Prop :=
  ∀ x r o, I (x :: r) o → SA W A cenv target x ((it, .it r) :: o) fun o1 => STs W A cenv ifs o1 fun ok o2 =>
      if ok then SG W A RU inner o2 (fun _ o3 => ∃ o', Wk o3 ((it, .it r) :: o') ∧ I r o') else ∃ o', Wk o2 ((it, .it r) :: o') ∧ I r o'

theorem CL_one {elt target iter : Expr} {ifs : List Expr} {scope : Scope} {pos : Pos} {D : Addr} {cenv : Env} {it : Addr} {l : List V} {Q : Own → Prop} (hh : A.handled = none) (I : List V → Own → Prop) (h0 : I l own)
    (turn : CT W A cenv target ifs (emitSem elt (.ref D) cenv) it I) (last : ∀ o, I [] o → Q o) : CL W A (.ListComp elt [⟨target, iter, ifs, 0⟩] scope pos) 0 D cenv it l own Q := fun fz s H ht => by
  refine codeAny_mono (comp_core hh (turn_one elt target iter ifs scope pos (.ref it) (.ref D) cenv) rfl (Around.under_of_weight rfl) I turn l own fz s H ht h0) fun r s' x => ?_
  cases r with
  | ok f => obtain ⟨fz', own', k, H', t', i⟩ := x; exact ⟨fz', own', k, H', t', last _ i⟩
  | error e => exact x.elim
/-- a comprehension's own frame -/
noncomputable abbrev cEnv (scope : Scope) (cl : List (Str × Addr)) (C : Addr) (env : Env) : Env :=
  { scope := relabel scope env, locals := C, globals := env.globals, cells := cl, qual := env.qual, func := none, code := env.code, frame := env.frame, builtins := env.builtins }
/-- what a list comprehension wants of its source -/
noncomputable abbrev Comps (W : Wd) (A : Around) (env : Env) (e : Expr) (scope : Scope) (cl : List (Str × Addr)) (Fin : Addr → Addr → Own → Prop) (b : V) (o : Own) : Prop :=
  ∃ it l o3, b = .ref it ∧ o = (it, .it l) :: o3 ∧ ∀ C D, CL W A e 0 D (cEnv scope cl C env) it l ((C, .ns []) :: (D, .list []) :: o3) (Fin C D)

theorem comp_made {e : Expr} {scope : Scope} {cl : List (Str × Addr)} {Fin : Addr → Addr → Own → Prop} {b : V} {g : Comprehension} {gs : List Comprehension} {elt : Expr} {pos : Pos} {fz : Heap} {s : Shared} {RR : Value → Addr → Result → Shared → Prop} {vb : Value}
    (he : e = .ListComp elt (g :: gs) scope pos) (ha : (g.is_async != 0) = false) (hcell : ∀ y ∈ scope.names, y.2 ≠ .cell) (hkind : scope.kind = .function)
    (H : Hold W fz own s) (ht : W.tk ≤ s.toks) (r : RV fz b vb) (q : Comps W A env e scope cl Fin b own)
    (hR : ∀ C D fz' o s', Keep fz fz' → Hold W fz' o s' → W.tk ≤ s'.toks → Fin C D o → RR (.ref D) C (.ok .next) s') (hok : ∀ acc C f s', RR acc C (.ok .next) s' → RR acc C (.ok f) s') :
    wpAny (model W.prog W.w) A (newList []) (fun acc s₃ => wpAny (model W.prog W.w) A (newFunctionEnv scope env.globals cl [] env.qual none .none (some env)) (fun cenv s₄ =>
      codeAny (model W.prog W.w) A (.compStart e 0 vb acc { cenv with scope := relabel scope env }) (RR acc cenv.locals) s₄) NoX s₃) NoX s := by
  obtain ⟨it, l, o3, rfl, rfl, core⟩ := q
  cases r.val_inv
  subst he
  refine wpAny_newObj_type (wpAny_newFunctionEnv hcell (by intro y hy; simp at hy) (fun h₁ hns₁ hsb₁ => ?_) hkind)
  dsimp only at hns₁ hsb₁ ⊢
  have H₁ : Hold W fz ((s.heap.objs.size, .list []) :: (it, .it l) :: o3) { s with heap := s.heap.push (listObj [] 0), toks := s.toks } := H.new (Keep.push _ _) (get?_ge (Nat.le_refl _)) (Heap.get?_push_size _ rfl) ⟨[], 0, rfl, .nil⟩
  obtain ⟨o, ho, hob⟩ := of_ns (fz := fz) (loc := []) hns₁ (fun p hp => (nomatch hp))
  have hk₁ : Keep (s.heap.push (listObj [] 0)) h₁ := fun b o e => hsb₁.extBut b o (Nat.ne_of_lt (Heap.lt_size e)) (Heap.get?_push_of_some _ e)
  have H₂ : Hold W fz (((s.heap.push (listObj [] 0)).objs.size, .ns []) :: (s.heap.objs.size, .list []) :: (it, .it l) :: o3) { s with heap := h₁, toks := s.toks } :=
    H₁.new (k := s.toks) hk₁ (get?_ge (Nat.le_refl _)) ho hob
  have H₃ := H₂.perm (own' := (it, .it l) :: ((s.heap.push (listObj [] 0)).objs.size, .ns []) :: (s.heap.objs.size, .list []) :: o3)
    ((List.Perm.cons _ (List.Perm.swap ..)).trans (List.Perm.swap ..))
  refine compStart_any (H₃ : Hold W fz _ { s with heap := h₁, toks := s.toks + ([] : List (Str × Value)).length }) List.mem_cons_self rfl ha rfl ?_
  refine codeAny_mono (core (s.heap.push (listObj [] 0)).objs.size s.heap.objs.size fz _ H₃ ht) fun r s' x => ?_
  cases r with
  | ok f => obtain ⟨fz', own', k, H', t', i⟩ := x; exact hok _ _ _ _ (hR _ _ fz' own' s' k H' t' i)
  | error e => exact x.elim

theorem Hold.sameBut {fz : Heap} {s : Shared} {a : Addr} {ob : Ob} (H : Hold W fz ((a, ob) :: own) s) {h' : Heap} (hs : Heap.SameBut a s.heap h') : Hold W fz own { s with heap := h' } := H.extBut (k := s.toks) hs.extBut

theorem SE_Comp {elt target iter : Expr} {ifs : List Expr} {gs : List Comprehension} {scope : Scope} {pos : Pos} {cl : List (Str × Addr)} {Q : V → Own → Prop}
    (hclos : closureFor scope env = pure cl) (hcell : ∀ y ∈ scope.names, y.2 ≠ .cell) (hkind : scope.kind = .function) (hnames : ∀ y ∈ scope.names, y.2 = .local → scope.names.lookup y.1 = some .local)
    (h : SE W A env iter own fun a o1 => S1 W A RV pyIter a o1 (Comps W A env (.ListComp elt (⟨target, iter, ifs, 0⟩ :: gs) scope pos) scope cl fun C D o => ∃ ys o4, Wk o ((C, .ns []) :: (D, .list ys) :: o4) ∧ Q (.ref D) ((D, .list ys) :: o4)))
    (hs : ∀ x, foldedSetIterable iter env x = pure x := by intro _; rfl) : SE W A env (.ListComp elt (⟨target, iter, ifs, 0⟩ :: gs) scope pos) own Q := fun fz s H ht => by
  unfold At
  rw [eval_ListComp]
  refine wpAny_comprehension_free (use := none) rfl hs hclos hkind hnames (wp_then (h fz s H ht) ht fun fz1 va a o1 s1 k1 H1 t1 r1 q1 => wp_then (q1 fz1 s1 va H1 t1 r1) t1 fun fz2 vb b o2 s2 k2 H2 t2 r2 q2 => ?_)
  refine comp_made (RR := fun acc C => compPost (model W.prog W.w) A NoX none _ acc C) rfl rfl hcell hkind H2 t2 r2 q2 (fun C D fz3 o s3 k3 H3 t3 fin => ?_) fun acc C f s' x => x
  obtain ⟨ys, o4, wk, q⟩ := fin
  have H4 := wk.hold H3
  obtain ⟨oC, hoC, hns⟩ := H4.get List.mem_cons_self
  obtain ⟨m, hm, _⟩ := ns_of hoC hns
  exact ⟨m, hm, fun h' hs' => ⟨fz3, _, _, k1.trans (k2.trans k3), H4.sameBut hs', .val _, q⟩⟩

theorem SX_AssignComp {y : Str} {py spos : Pos} {elt target iter : Expr} {ifs : List Expr} {gs : List Comprehension} {scope : Scope} {pos : Pos} {cl : List (Str × Addr)} {Q : Fl → Own → Prop}
    (hclos : closureFor scope env = pure cl) (hcell : ∀ y ∈ scope.names, y.2 ≠ .cell) (hkind : scope.kind = .function) (hnames : ∀ y ∈ scope.names, y.2 = .local → scope.names.lookup y.1 = some .local)
    (hsw : swapsWith (.ListComp elt (⟨target, iter, ifs, 0⟩ :: gs) scope pos) (some (.Name y py)) spos.line env = pure true)
    (h : SE W A env iter own fun a o1 => S1 W A RV pyIter a o1 (Comps W A env (.ListComp elt (⟨target, iter, ifs, 0⟩ :: gs) scope pos) scope cl fun C D o =>
      ∃ ys o4, Wk o ((C, .ns []) :: (D, .list ys) :: o4) ∧ ∀ fz s, Hold W fz ((C, .ns []) :: (D, .list ys) :: o4) s → W.tk ≤ s.toks →
        wpAny (model W.prog W.w) A (assign (.Name y py) env (.ref D)) (fun _ s' => ∃ fz' o5, Keep fz fz' ∧ Hold W fz' ((C, .ns []) :: o5) s' ∧ Q .next o5) NoX s))
    (hs : ∀ x, foldedSetIterable iter env x = pure x := by intro _; rfl) : SX W A env (.Assign [.Name y py] (.ListComp elt (⟨target, iter, ifs, 0⟩ :: gs) scope pos) spos) own Q := fun fz s H ht => by
  unfold At
  rw [exec_Assign_Name_used _ _ _ _ hsw]
  refine wpAny_bind (wpAny_standAt (wpAny_bind ?_))
  show wpAny _ A (do let _ ← comprehension (.ListComp elt (⟨target, iter, ifs, 0⟩ :: gs) scope pos) scope env _ (newList []) false (eval iter env) (some (assign (.Name y py) env))) _ _ s
  refine wpAny_bind (wpAny_mono (E := NoX) (wpAny_comprehension_free (use := some (assign (.Name y py) env)) (Q := fun _ s' => ∃ fz' own', Keep fz fz' ∧ Hold W fz' own' s' ∧ Q .next own') rfl hs hclos hkind hnames
    (wp_then (h fz s H ht) ht fun fz1 va a o1 s1 k1 H1 t1 r1 q1 => wp_then (q1 fz1 s1 va H1 t1 r1) t1 fun fz2 vb b o2 s2 k2 H2 t2 r2 q2 => ?_))
    (fun _ s' hq => wpAny_pure (wpAny_pure (by obtain ⟨fz', o', k, H', q⟩ := hq; exact ⟨fz', .next, o', k, H', .next, q⟩))) fun _ _ e => e)
  refine comp_made (RR := fun acc C => compPost (model W.prog W.w) A NoX (some (assign (.Name y py) env)) _ acc C) rfl rfl hcell hkind H2 t2 r2 q2 (fun C D fz3 o s3 k3 H3 t3 fin => ?_) fun acc C f s' x => x
  obtain ⟨ys, o4, wk, q⟩ := fin
  have H4 := wk.hold H3
  refine wpAny_mono (q fz3 s3 H4 t3) (fun _ s4 x => ?_) fun _ _ e => e
  obtain ⟨fz4, o5, k4, H5, q5⟩ := x
  obtain ⟨oC, hoC, hns⟩ := H5.get List.mem_cons_self
  obtain ⟨m, hm, _⟩ := ns_of hoC hns
  exact ⟨m, hm, fun h' hs' => ⟨fz4, _, k1.trans (k2.trans (k3.trans k4)), H5.sameBut hs', q5⟩⟩

theorem S1.mono {α β : Type} {R : Heap → β → α → Prop} {f : Value → Sem α} {a : V} {Q Q' : β → Own → Prop} (h : S1 W A R f a own Q) (q : ∀ b own', Q b own' → Q' b own') : S1 W A R f a own Q' :=
  fun fz s v H ht r => (h fz s v H ht r).mono q
/-! ### the plain use: a list of data out of a list -/
theorem Hold.freezeList {fz : Heap} {s : Shared} {D : Addr} {ys : List V} {ds : List PyData} (H : Hold W fz ((D, .list ys) :: own) s) (had : AllDat ys ds) : ∃ fz', Keep fz fz' ∧ Hold W fz' own s ∧ RV fz' (.lst ds) (.ref D) := by
  obtain ⟨o, ho, r, hf, kk, H'⟩ := H.freeze
  obtain ⟨vs, n, rfl, rs⟩ := r
  exact ⟨_, kk, H', rv_list (putH_at hf) (by rw [← had.eq]; exact rs.mono kk)⟩
theorem AllDat.append {l l' : List V} {ds ds' : List PyData} (x : AllDat l ds) (y : AllDat l' ds') : AllDat (l ++ l') (ds ++ ds') := by
  induction x with
  | nil => exact y
  | cons _ ih => exact .cons ih

/-- a turn that makes one datum, or none -/
noncomputable abbrev MapTurn {α : Type} (W : Wd) (A : Around) (cenv : Env) (target elt : Expr) (ifs : List Expr) (g : α → V) (p : α → Bool) (out : α → PyData) (xs : List α) (o3 : Own) (C D : Addr) : Prop :=
  ∀ it x r ys, x ∈ xs → SA W A cenv target (g x) ((it, .it r) :: (C, .ns []) :: (D, .list ys) :: o3) fun o1 => STs W A cenv ifs o1 fun ok o2 =>
    ok = p x ∧ if p x then SE W A cenv elt o2 (fun a o4 => a = .dat (out x) ∧ Wk o4 ((it, .it r) :: (C, .ns []) :: (D, .list ys) :: o3)) else Wk o2 ((it, .it r) :: (C, .ns []) :: (D, .list ys) :: o3)

theorem CL_map {α : Type} {elt target iter : Expr} {ifs : List Expr} {scope : Scope} {pos : Pos} {C D : Addr} {cenv : Env} {it : Addr} {g : α → V} {p : α → Bool} {out : α → PyData} {xs : List α} {o3 : Own} {Q : Own → Prop} (hh : A.handled = none)
    (hz : xs.length ≤ sizeLine) (turn : MapTurn W A cenv target elt ifs g p out xs o3 C D) (last : Q ((C, .ns []) :: (D, .list (((xs.filter p).map out).map V.dat)) :: o3)) :
    CL W A (.ListComp elt [⟨target, iter, ifs, 0⟩] scope pos) 0 D cenv it (xs.map g) ((C, .ns []) :: (D, .list []) :: o3) Q := by
  refine CL_one hh (fun l o => ∃ pre post, xs = pre ++ post ∧ l = post.map g ∧ o = (C, .ns []) :: (D, .list (((pre.filter p).map out).map V.dat)) :: o3) ⟨[], xs, rfl, rfl, rfl⟩ ?_ ?_
  · rintro x r o ⟨pre, post, e, hl, rfl⟩
    cases post with
    | nil => cases hl
    | cons z post =>
      injection hl with e1 e2
      subst e1 e2
      refine S1.mono (turn it z (post.map g) _ (by rw [e]; simp)) ?_
      intro _ o1 h1
      refine SG.mono h1 ?_
      intro ok o2 ⟨hok, h2⟩
      subst hok
      have hlen : ((pre.filter p).map out).length ≤ sizeLine := by
        have := List.length_filter_le p pre
        have : pre.length ≤ xs.length := by rw [e]; simp
        rw [List.length_map]; (first | decide | exact Nat.le_trans (by assumption) (by decide) | lia | omega)
      cases hp : p z with
      | false =>
        rw [hp] at h2
        exact ⟨_, h2, pre ++ [z], post, by simp [e], rfl, by simp [List.filter_append, hp]⟩
      | true =>
        rw [hp] at h2
        refine emit_list (SG.mono h2 ?_)
        rintro a o4 ⟨rfl, wk⟩
        refine ⟨_, _, _, wk, .there (.there .here), by rw [List.length_map]; exact hlen, _, .refl, pre ++ [z], post, by simp [e], rfl, ?_⟩
        simp [List.filter_append, hp]
  · rintro o ⟨pre, post, e, hl, rfl⟩
    cases post with
    | nil => rw [List.append_nil] at e; subst e; exact last
    | cons z post => cases hl

/-- the same, held by a name; the list may be turned later -/
theorem SX_AssignCompMap {α : Type} {y : Str} {py spos : Pos} {elt target iter : Expr} {ifs : List Expr} {scope : Scope} {pos : Pos} {cl : List (Str × Addr)} {Q : Fl → Own → Prop}
    (hh : A.handled = none) (hclos : closureFor scope env = pure cl) (hcell : ∀ y ∈ scope.names, y.2 ≠ .cell) (hkind : scope.kind = .function) (hnames : ∀ y ∈ scope.names, y.2 = .local → scope.names.lookup y.1 = some .local)
    (hsw : swapsWith (.ListComp elt [⟨target, iter, ifs, 0⟩] scope pos) (some (.Name y py)) spos.line env = pure true)
    (h : SE W A env iter own fun a o1 => S1 W A RV pyIter a o1 fun b o2 => ∃ it l o3, b = .ref it ∧ o2 = (it, .it l) :: o3 ∧ ∃ (g : α → V) (p : α → Bool) (out : α → PyData) (xs : List α), l = xs.map g ∧ xs.length ≤ sizeLine ∧
      (∀ C D, MapTurn W A (cEnv scope cl C env) target elt ifs g p out xs o3 C D) ∧ ∀ C, SS W A env y (.lst ((xs.filter p).map out)) ((C, .ns []) :: o3) (fun o5 => ∃ o6, Wk o5 ((C, .ns []) :: o6) ∧ Q .next o6))
    (hs : ∀ x, foldedSetIterable iter env x = pure x := by intro _; rfl) : SX W A env (.Assign [.Name y py] (.ListComp elt [⟨target, iter, ifs, 0⟩] scope pos) spos) own Q := by
  refine SX_AssignComp hclos hcell hkind hnames hsw (SG.mono h fun a o1 h1 => S1.mono h1 fun b o2 h2 => ?_) hs
  obtain ⟨it, l, o3, rfl, rfl, g, p, out, xs, rfl, hz, turn, q⟩ := h2
  refine ⟨it, _, o3, rfl, rfl, fun C D => CL_map hh hz (turn C D) ⟨_, _, .refl, fun fz s H ht => ?_⟩⟩
  obtain ⟨fz', k, H', r⟩ := (H.perm (List.Perm.swap ..)).freezeList (AllDat.map _)
  refine wpAny_assign_Name (wp_then (q C fz' s _ H' ht r) ht fun fz1 _ _ o5 s1 k1 H1 t1 _ q1 => ?_)
  obtain ⟨o6, wk, q6⟩ := q1
  exact ⟨fz1, o6, k.trans k1, wk.hold H1, q6⟩
end
section
variable {W : Wd} {A : Around} {env : Env} {own : Own}

/-! ### calls: the glue -/
noncomputable def KpO (W : Wd) (own : Own) (f : Value) : Prop := ∀ fz s, Hold W fz own s → ∃ k, (k = Keeper.frame ∨ k = Keeper.machine ∨ k = Keeper.boundFrame) ∧ Looks (model W.prog W.w) s.heap (keeperOf f) k
theorem kp_builtin {id : String} : KpO W own (.builtin id) := fun fz s H => ⟨.machine, .inr (.inl rfl), Looks.of_pure rfl⟩
theorem kp_type {T : String} : KpO W own (.type T) := fun fz s H => ⟨.machine, .inr (.inl rfl), Looks.of_pure rfl⟩
theorem kp_K {f : Value} (h : keepIn W.K f = true) : KpO W own f := fun fz s H => keeps_K h s.heap H.kin
theorem callWith_any {pos : Pos} {f : Value} {first : List V} {firstV : List Value} {args : List Expr} {fz : Heap} {s : Shared} {Q : V → Own → Prop} (H : Hold W fz own s) (ht : W.tk ≤ s.toks) (rf : RVs fz first firstV)
    (hp : (backTo pos (starEach args env)).any (·.1) = false) (h : SEs W A env pos args own fun l o2 => KpO W o2 f ∧ SL W A RV (fun vs => call f vs) (first ++ l) o2 Q) :
    At W A RV (callWith pos f firstV (backTo pos (starEach args env)) []) Q fz s := by
  have key : wpAny (model W.prog W.w) A (evalArgs f true (backTo pos (starEach args env)) []) (fun a s₁ => (∃ k, (k = Keeper.frame ∨ k = Keeper.machine ∨ k = Keeper.boundFrame) ∧ Looks (model W.prog W.w) s₁.heap (keeperOf f) k) ∧
      wpAny (model W.prog W.w) A (call f (firstV ++ a.pos) a.kw) (fun a s' => Post W RV Q fz a s') NoX s₁) NoX s := by
    have h1 : wpAny (model W.prog W.w) A (spliced (backTo pos (starEach args env))) (fun vs s₁ => (∃ k, (k = Keeper.frame ∨ k = Keeper.machine ∨ k = Keeper.boundFrame) ∧ Looks (model W.prog W.w) s₁.heap (keeperOf f) k) ∧
      wpAny (model W.prog W.w) A (call f (firstV ++ vs) []) (fun a s' => Post W RV Q fz a s') NoX s₁) NoX s := by
      refine wp_then (h fz s H ht) ht fun fz1 vs l o1 s1 k1 H1 t1 r1 q1 => ⟨q1.1 fz1 s1 H1, ?_⟩
      exact (q1.2 fz1 s1 _ H1 t1 ((rf.mono k1).append r1)).weak k1
    generalize backTo pos (starEach args env) = trees at hp h1 ⊢
    cases trees with
    | nil =>
      unfold evalArgs
      show wpAny _ _ (spliced [] >>= _) _ _ _
      refine wpAny_bind (wpAny_mono h1 (fun vs s' h' => wpAny_bind (wpAny_pure ?_)) fun _ _ x => x)
      refine wpAny_holding ?_
      exact wpAny_bind (wpAny_pure (wpAny_bind (wpAny_pure (wpAny_pure h'))))
    | cons t rest =>
      obtain ⟨b, t⟩ := t
      cases b with
      | false => exact Calls.evalArgs_plain h1
      | true => simp at hp
  exact callWith_of (P := fun h => ∃ k, (k = Keeper.frame ∨ k = Keeper.machine ∨ k = Keeper.boundFrame) ∧ Looks (model W.prog W.w) h (keeperOf f) k) (by simpa using hp) (fun h x => x) key

theorem SE_Call {func : Expr} {args : List Expr} {pos : Pos} {Q : V → Own → Prop}
    (h : SE W A env func own fun fv o1 => ∃ f, fv = .val f ∧ SEs W A env pos args o1 fun l o2 => KpO W o2 f ∧ SL W A RV (fun vs => call f vs) l o2 Q)
    (he : eval (.Call func args [] pos) env = (do callWith pos (← eval func env) [] (backTo pos (starEach args env)) (backToKw pos (keywordEach [] env))) := by rfl)
    (hp : (backTo pos (starEach args env)).any (·.1) = false := by rfl) : SE W A env (.Call func args [] pos) own Q := fun fz s H ht => by
  refine Call_ (wp_then (h fz s H ht) ht fun fz1 va a o1 s1 k1 H1 t1 r1 q1 => ?_) he
  obtain ⟨f, rfl, q⟩ := q1
  cases r1.val_inv
  exact (callWith_any (first := []) H1 t1 .nil hp q).weak k1

noncomputable abbrev RM : Heap → (Value × List V) → (Value × List Value) → Prop := fun fz b a => a.1 = b.1 ∧ RVs fz b.2 a.2
noncomputable abbrev SMth (W : Wd) (A : Around) (name : Str) (pl : Sem Bool) (a : V) (own : Own) (Q : Value × List V → Own → Prop) : Prop := S1 W A RM (fun v => getMethod v name pl) a own Q
theorem SE_Meth {o : Expr} {name : Str} {apos pos : Pos} {args : List Expr} {pl : Sem Bool} {Q : V → Own → Prop}
    (h : SE W A env o own fun a o1 => SMth W A name pl a o1 fun fx o2 => SEs W A env pos args o2 fun l o3 => KpO W o3 fx.1 ∧ SL W A RV (fun vs => call fx.1 vs) (fx.2 ++ l) o3 Q)
    (he : eval (.Call (.Attribute o name apos) args [] pos) env = (do
      let ov ← eval o env
      standAt apos.atName
      let (f, first) ← holding [ov] (getMethod ov name pl)
      callWith pos f first (backTo pos (starEach args env)) []) := by rfl)
    (hp : (backTo pos (starEach args env)).any (·.1) = false := by rfl) : SE W A env (.Call (.Attribute o name apos) args [] pos) own Q := fun fz s H ht => by
  refine MethodCall_ (wp_then (h fz s H ht) ht fun fz1 va a o1 s1 k1 H1 t1 r1 q1 => wp_then (q1 fz1 s1 va H1 t1 r1) t1 fun fz2 vb b o2 s2 k2 H2 t2 r2 q2 => ?_) he
  obtain ⟨f, fs⟩ := vb
  obtain ⟨e1, e2⟩ := r2
  dsimp only at e1 e2 ⊢
  subst e1
  exact (callWith_any H2 t2 e2 hp q2).weak (k1.trans k2)

/-- a method of a list of one's own -/
theorem mth_list {D : Addr} {l : List V} {name : Str} {id : String} {pl : Sem Bool} {Q : Value × List V → Own → Prop} (hm : (D, Ob.list l) ∈ own) (slot : Slot "list" name id) (hty : typeOf (.builtin id) = pure (.type "method_descriptor"))
    (h : Q (.builtin id, [.ref D]) own) : SMth W A name pl (.ref D) own Q := fun fz s v H ht r => by
  cases r.val_inv
  obtain ⟨o, ho, vs, n, rfl, rs⟩ := H.get hm
  refine getMethod_builtin ⟨_, ho, rfl⟩ PySem.F.plainAttrs_list slot hty (fun a e => by cases e; exact ⟨_, ho, rfl⟩) ?_
  exact ⟨fz, _, own, .refl _, H, ⟨rfl, .cons (.val _) .nil⟩, h⟩

theorem SL1 {α β : Type} {R : Heap → β → α → Prop} {f : List Value → Sem α} {a : V} {Q : β → Own → Prop} (h : S1 W A R (fun v => f [v]) a own Q) : SL W A R f [a] own Q := fun fz s vs H ht r => by
  cases r with | cons r1 r => cases r; exact h fz s _ H ht r1
theorem SL2 {α β : Type} {R : Heap → β → α → Prop} {f : List Value → Sem α} {a b : V} {Q : β → Own → Prop} (h : S2 W A R (fun v u => f [v, u]) a b own Q) : SL W A R f [a, b] own Q := fun fz s vs H ht r => by
  cases r with | cons r1 r => cases r with | cons r2 r => cases r; exact h fz s _ _ H ht r1 r2

/-! ### built-ins -/
theorem call_append {a : Addr} {l : List V} {x : V} {own' : Own} {Q : V → Own → Prop} (u : Upd a (.list l) (.list (l ++ [x])) own own') (hz : l.length ≤ sizeLine) (h : Q .none own') :
    SL W A RV (fun vs => call (.builtin "list.append") vs) [.ref a, x] own Q := SL2 fun fz s v w H ht r1 r2 => by
  cases r1.val_inv
  exact do_append u hz h fz s w H ht r2
theorem call_len_own {a : Addr} {l : List V} {Q : V → Own → Prop} (hm : (a, Ob.list l) ∈ own) (hz : l.length ≤ sizeLine) (h : Q (.int l.length) own) : SL W A RV (fun vs => call (.builtin "len") vs) [.ref a] own Q := SL1 fun fz s v H ht r => by
  cases r.val_inv
  obtain ⟨o, ho, vs, n, rfl, rs⟩ := H.get hm
  have hlen := rs.length
  rw [sizeLine_eq] at hz
  refine Calls.call_len_list (items := vs.toArray) ⟨_, ho, rfl, n, rfl⟩ (by simp only [List.size_toArray]; (first | decide | exact Nat.le_trans (by assumption) (by decide) | lia | omega)) ?_
  simp only [List.size_toArray, ← hlen]
  exact at_tok H _ (.dat (.int _ _)) h
theorem call_len_lst {l : List PyData} {Q : V → Own → Prop} (hz : l.length ≤ sizeLine) (h : Q (.int l.length) own) : SL W A RV (fun vs => call (.builtin "len") vs) [.lst l] own Q := SL1 fun fz s v H ht r => by
  obtain ⟨a, vs, rfl, hl, rs⟩ := r.lst_inv
  have hlen := rs.length
  rw [List.length_map] at hlen
  have hsz : vs.toList.length = vs.size := Array.length_toList
  rw [sizeLine_eq] at hz
  refine Calls.call_len_list (IsList_keep hl H.has) (by (first | decide | exact Nat.le_trans (by assumption) (by decide) | lia | omega)) ?_
  rw [show vs.size = l.length by (first | decide | exact Nat.le_trans (by assumption) (by decide) | lia | omega)]
  exact at_tok H _ (.dat (.int _ _)) h
theorem call_range1 {n : Int} {Q : V → Own → Prop} (h : Q (.rng 0 n 1) own) : SL W A RV (fun vs => call (.type "range") vs) [.int n] own Q := SL1 fun fz s v H ht r => by
  obtain ⟨t, rfl⟩ := r.int_inv
  refine call_range_1 ?_
  obtain ⟨kk, H'⟩ := H.frz (k := s.toks + 1 + 1) (o := { cls := .type "range", data := .fields #[.int 0 s.toks, .int n t, .int 1 (s.toks + 1)] }) rfl (Keep.push _ _) (get?_ge (Nat.le_refl _)) (Heap.get?_push_size _ rfl)
  exact ⟨_, _, own, kk, H', .rng (putH_at rfl), h⟩
/-! ### lists joined, repeated -/
theorem new_list {fz : Heap} {s : Shared} {vs : List Value} {ds : List PyData} {n : Nat} {Q : V → Own → Prop} (H : Hold W fz own s) (rs : RVs fz (ds.map V.dat) vs) (h : Q (.lst ds) own) :
    Post W RV Q fz (.ref s.heap.objs.size) { s with heap := s.heap.push { cls := .type "list", data := .seq vs.toArray n } } := by
  obtain ⟨kk, H'⟩ := H.frz (k := s.toks) (o := listObj vs n) rfl (Keep.push _ _) (get?_ge (Nat.le_refl _)) (Heap.get?_push_size _ rfl)
  exact ⟨_, _, own, kk, H', rv_list (putH_at rfl) (rs.mono kk), h⟩
theorem op_addL {a b : List PyData} {Q : V → Own → Prop} (hz : a.length + b.length ≤ sizeLine) (h : Q (.lst (a ++ b)) own) : S2 W A RV (binaryOp .Add) (.lst a) (.lst b) own Q := fun fz s v u H ht r1 r2 => by
  obtain ⟨x, vs, rfl, hl, rs⟩ := r1.lst_inv
  obtain ⟨y, ws, rfl, hm, rt⟩ := r2.lst_inv
  have h1 := rs.length
  have h2 := rt.length
  rw [List.length_map] at h1 h2
  obtain ⟨⟨cls, dd, data, sl⟩, ho, hc, n, hd⟩ := IsList_keep hl H.has
  obtain ⟨⟨cls2, dd2, data2, sl2⟩, ho2, hc2, n2, hd2⟩ := IsList_keep hm H.has
  simp only at hc hd hc2 hd2
  subst hc hd hc2 hd2
  have q1 : vs.toList.length = vs.size := Array.length_toList
  have q2 : ws.toList.length = ws.size := Array.length_toList
  refine concat_meets ⟨_, ho, rfl⟩ ⟨_, ho2, rfl⟩ noFill_list_add seq_list_add PySem.F.slot_list_add PySem.F.entry_list_add (PySem.F.args_list_add_2 _ _) (list_addW x y vs ws n n2 dd dd2 sl sl2 (by (first | decide | exact Nat.le_trans (by assumption) (by decide) | lia | omega))) ⟨ho, ho2, ?_⟩
  have e : vs ++ ws = (vs.toList ++ ws.toList).toArray := by simp
  rw [e]
  exact new_list H (by rw [List.map_append]; exact rs.append rt) h

theorem rvs_rep {fz : Heap} {l : List V} {vs : List Value} (r : RVs fz l vs) : ∀ n : Nat, RVs fz (List.replicate n l).flatten (List.replicate n vs).flatten
  | 0 => .nil
  | n + 1 => by rw [List.replicate_succ, List.replicate_succ, List.flatten_cons, List.flatten_cons]; exact r.append (rvs_rep r n)
theorem op_mulL {a : List PyData} {x : Int} {Q : V → Own → Prop} (hlo : -(2 ^ 63 : Int) ≤ x) (hhi : x < 2 ^ 63) (hz : a.length * x.toNat ≤ 2 ^ 24) (h : Q (.lst (List.replicate x.toNat a).flatten) own) : S2 W A RV (binaryOp .Mult) (.lst a) (.int x) own Q := fun fz s v u' H ht r1 r2 => by
  obtain ⟨l, vs, rfl, hl, rs⟩ := r1.lst_inv
  obtain ⟨u, rfl⟩ := r2.int_inv
  have h1 := rs.length
  rw [List.length_map] at h1
  have q1 : vs.toList.length = vs.size := Array.length_toList
  obtain ⟨⟨cls, d, data, sl⟩, ho, hcl, k, hd⟩ := IsList_keep hl H.has
  simp only at hcl hd
  subst hcl hd
  have hsz' : vs.size * x.toNat ≤ 2 ^ 24 := by rw [← q1, ← h1]; exact hz
  refine wpAny_binaryOp_repeat_ref (T := "list") (U := "int") (by decide) ⟨_, ho, rfl⟩ (fun s' => typeIs_int s' x u) noFill_list_mul F.fills_int_mul F.slot_int_rmul repeat_list F.slot_int_index.lookup
    (call_meets F.slot_int_rmul (typeIs_int s x u) F.entry_int_rmul (F.args_int_rmul_2 _ _) (lm_int_rmul_list_any x u l vs k d sl)
      ⟨ho, rfl, ⟨_, ho, rfl⟩, call_meets F.slot_list_mul ⟨_, ho, rfl⟩ F.entry_list_mul (F.args_list_mul_2 _ _)
        (lm_list_mul_any l vs k d sl x u (by simp [Builtin.List.listFitsIndex]; (first | decide | exact Nat.le_trans (by assumption) (by decide) | lia | omega)) (by (first | decide | exact Nat.le_trans (by assumption) (by decide) | lia | omega)) (by simp [Builtin.List.listTooLong, sizeLine]; (first | decide | exact Nat.le_trans (by assumption) (by decide) | lia | omega)))
        ⟨ho, ?_⟩⟩)
  have e : vs = vs.toList.toArray := by simp
  rw [e, listMul_foldl_if]
  exact new_list H (by
    have := rvs_rep rs x.toNat
    have e2 : ((List.replicate x.toNat a).flatten).map V.dat = (List.replicate x.toNat (a.map V.dat)).flatten := by rw [List.map_flatten, List.map_replicate]
    rw [e2]; exact this) h

/-! ### slices -/
end
section
variable {W : Wd} {A : Around} {env : Env} {own : Own}

/-! ### attributes of a made thing -/
theorem putNs {o : Obj} {es : Array DictEntry} {ep : Nat} {name : Str} {h : Int} {t : Tok} {v : Value} (hd : o.data = .dict es ep) (hk : StrKeys es) :
    ∃ es' ep', (o.putName name h (.str name t) v).data = .dict es' ep' ∧ StrKeys es' ∧ es'.size ≤ es.size + 1 ∧ (nsFind es name ≠ none → es'.size = es.size) ∧ ∀ x, nsFind es' x = if x = name then some v else nsFind es x := by
  obtain ⟨c, d, dt, sl⟩ := o
  subst hd
  cases hi : es.findIdx? (·.key.isStr name) with
  | some i =>
    refine ⟨es.modify i fun e => { e with val := v }, ep, by simp only [Obj.putName_eq, Obj.putNameByArray, hi], hk.modify _ _, by simp, fun _ => by simp, fun x => ?_⟩
    exact findBy_modify (fun n v => v.isStr n) Value.isStr_inj es name x v i hi
  | none =>
    refine ⟨es.push ⟨h, .str name t, v⟩, ep + 1, by simp only [Obj.putName_eq, Obj.putNameByArray, hi], hk.push _ _ _ _, by simp, fun hne => ?_, fun x => ?_⟩
    · exfalso; apply hne
      unfold nsFind findBy
      rw [Option.map_eq_none_iff, Array.find?_eq_none]
      intro e he
      rw [Array.findIdx?_eq_none_iff] at hi
      simpa using hi e he
    · exact findBy_push (fun n v => v.isStr n) es name x _ _ v (fun y => by
        show (name == y) = decide (y = name)
        by_cases h : y = name
        · subst h; simp
        · have : ¬ name = y := fun e => h e.symm
          simp [h, this]) hi

theorem Put.keys {x : Str} {a : V} {l l' : List (Str × V)} (u : Put x a l l') : (x ∈ l.map (·.1) ∧ l'.map (·.1) = l.map (·.1)) ∨ (l'.map (·.1) = l.map (·.1) ++ [x]) := by
  induction u with
  | new => exact .inr rfl
  | here => exact .inl ⟨by simp, by simp⟩
  | there _ ih =>
    rcases ih with ⟨h1, h2⟩ | h
    · exact .inl ⟨by simp only [List.map_cons, List.mem_cons]; exact .inr h1, by simp only [List.map_cons, h2]⟩
    · exact .inr (by simp only [List.map_cons, h, List.cons_append])
theorem att_put {fz : Heap} {loc loc' : List (Str × V)} {o : Obj} {x : Str} {a : V} {v : Value} {h : Int} {t : Tok} (H : AttIs fz loc o) (u : Put x a loc loc') (nd : (loc'.map (·.1)).Nodup) (r : RV fz a v) :
    AttIs fz loc' (o.putName x h (.str x t) v) := by
  obtain ⟨es, ep, hd, hk, hz, h1, h2⟩ := H
  obtain ⟨es', ep', hd', hk', hz', hz2, hf⟩ := putNs (name := x) (h := h) (t := t) (v := v) hd hk
  have kk := u.keys
  refine ⟨es', ep', hd', hk', ?_, fun p hp => ?_, fun y hy => ?_⟩
  · rcases kk with ⟨m, e⟩ | e
    · have : nsFind es x ≠ none := by
        obtain ⟨p, hp, e'⟩ := List.mem_map.mp m
        obtain ⟨w, e2, _⟩ := h1 p hp
        rw [← e', e2]; exact fun z => nomatch z
      rw [hz2 this]
      have := congrArg List.length e
      simp only [List.length_map] at this
      (first | decide | exact Nat.le_trans (by assumption) (by decide) | lia | omega)
    · have := congrArg List.length e
      simp only [List.length_map, List.length_append, List.length_cons, List.length_nil] at this
      (first | decide | exact Nat.le_trans (by assumption) (by decide) | lia | omega)
  · rcases u.other nd p hp with rfl | ⟨hp', hne⟩
    · exact ⟨v, by rw [hf, if_pos rfl], r⟩
    · obtain ⟨w, e, r'⟩ := h1 p hp'; exact ⟨w, by rw [hf, if_neg hne]; exact e, r'⟩
  · rw [hf]
    rcases kk with ⟨m, e⟩ | e
    · rw [e] at hy
      rw [if_neg (fun q : y = x => hy (q ▸ m))]; exact h2 y hy
    · rw [e, List.mem_append] at hy
      rw [if_neg (fun q => hy (.inr (by simp [q])))]; exact h2 y (fun q => hy (.inl q))

theorem lookIn_of {o : Obj} {es : Array DictEntry} {ep : Nat} {name : Str} (hd : o.data = .dict es ep) (hk : StrKeys es) : lookIn name o = some (nsFind es name) := by
  unfold lookIn
  rw [hd]
  dsimp only
  have e : nsFind es name = (es.toList.find? (·.key.isStr name)).map (·.val) := by unfold nsFind findBy; rw [Array.find?_toList]
  rw [e]
  cases q : es.toList.find? (·.key.isStr name) with
  | some en => rfl
  | none =>
    have : es.toList.any (·.refKey) = false := by
      rw [List.any_eq_false]; intro z hz; obtain ⟨n, t, h⟩ := hk z (by simpa using hz); simp [DictEntry.refKey, h]
    simp [this]

theorem inst_at {fz : Heap} {s : Shared} {x dx C : Addr} {loc : List (Str × V)} (H : Hold W fz own s) (h1 : (x, Ob.obj (instObj C dx)) ∈ own) (h2 : (dx, Ob.att loc) ∈ own) :
    ∃ od, s.heap.get? dx = some od ∧ AttIs fz loc od ∧ InstAt s.heap x (instObj C dx) C (some od) := by
  obtain ⟨o, ho, e⟩ := H.get h1
  have e' : o = instObj C dx := e
  subst e'
  obtain ⟨od, hd, a⟩ := H.get h2
  exact ⟨od, hd, a, ho, rfl, rfl, hd⟩

/-- what the text's class must be -/
structure ClsOk (K : Frag) (C : Addr) : Prop where
  makes : makesIn K C = true
  ga : findIn K (.ref C) "__getattribute__" = some (some (.builtin "object.__getattribute__"))
  gattr : findIn K (.ref C) "__getattr__" = some none
  sa : findIn K (.ref C) "__setattr__" = some (some (.builtin "object.__setattr__"))
  plain : plainOver K C = true
  dict : (clsIn K C).any (·.hasDict) = true

theorem do_setattr {x dx C : Addr} {loc loc' : List (Str × V)} {name : Str} {a : V} {own' : Own} {Q : Own → Prop} (hc : ClsOk W.K C) (ht : takerIn W.K C name = some none) (h1 : (x, Ob.obj (instObj C dx)) ∈ own) (h2 : (dx, Ob.att loc) ∈ own)
    (u : Put name a loc loc') (nd : (loc'.map (·.1)).Nodup) (hz : loc'.length ≤ 1000) (up : Upd dx (.att loc) (.att loc') own own') (h : Q own') :
    S1 W A RU (fun v => setAttr (.ref x) name v) a own fun _ => Q := fun fz s v H tk r => by
  obtain ⟨od, hod, ha, I⟩ := inst_at H h1 up.mem
  refine set_plain H.kin I hc.sa ?_
  refine osa_open (s := { s with toks := s.toks + 1 }) H.kin I hc.plain ht fun b => ?_
  obtain ⟨cd, hcd, hdict⟩ := any_some hc.dict
  have ha' := att_put (h := PyData.keyHash W.w.params name) (t := s.toks + 1) ha u nd r
  have hhas := ha
  obtain ⟨es, ep, hd, hk, hsz, _, _⟩ := ha
  obtain ⟨hx, _, _, _⟩ := I
  have hnf : (Obj.putName name (PyData.keyHash W.w.params name) (.str name (s.toks + 1)) v od).isFreed = false := by
    obtain ⟨es', ep', hd', _⟩ := ha'
    have g : ∀ o : Obj, o.data = .dict es' ep' → o.isFreed = false := by rintro ⟨_, _, dt, _⟩ e; cases e; rfl
    exact g _ hd'
  refine wpAny_bind (wpAny_pure (wpAny_bind (wpAny_bind (wpAny_loadPart hx (wpAny_bind ((looks_clsIn (H.toks (s.toks + 1)).kin hcd).here ?_))))))
  rw [hdict]
  refine wpAny_pure (a := some dx) (wpAny_bind (wpAny_pure (wpAny_bind ?_)))
  unfold nsSet
  refine wpAny_bind (wpAny_bind (wpAny_askSetting (wpAny_pure (wpAny_bind (wpAny_mkText (wpAny_bind (wpAny_loadPart hod ?_)))))))
  have hany : es.any (·.refKey) = false := by
    rw [Array.any_eq_false']; intro e he; obtain ⟨n, t, h⟩ := hk e he; simp [DictEntry.refKey, h]
  rw [hd]
  dsimp only
  have c : (!es.any (·.key.isStr name) && es.any (·.refKey)) = false := by rw [hany, Bool.and_false]
  rw [aRefKeyMayBeTheName_at, c]
  refine wpAny_updatePart hod ?_
  have D' := Heap.get?_update_self (Obj.putName name (PyData.keyHash W.w.params name) (.str name (s.toks + 1)) v) hod hnf
  refine wpAny_bind (wpAny_lookBehind D' ?_ ?_)
  · obtain ⟨es', ep', hd', _, hz', _⟩ := ha'
    rw [hd']; exact pastItsLine_dict (by rw [sizeLine_eq]; (first | decide | exact Nat.le_trans (by assumption) (by decide) | lia | omega))
  · refine wpAny_pure ?_
    exact ⟨fz, (), own', .refl _, H.set (k := s.toks + 1 + 1) up (Heap.SameBut.update ..) D' ha', trivial, h⟩

theorem SX_AssignAttr {o : Expr} {name : Str} {pos' pos : Pos} {value : Expr} {Q : Fl → Own → Prop}
    (h : SE W A env value own fun a o1 => SE W A env o o1 fun b o2 => ∃ x, b = .ref x ∧ S1 W A RU (fun v => setAttr (.ref x) name v) a o2 fun _ o3 => Q .next o3)
    (hs : swapsWith value (some (.Attribute o name pos')) pos.line env = pure false := by rfl) : SX W A env (.Assign [.Attribute o name pos'] value pos) own Q := fun fz s H ht => by
  refine plainObj_wpAny_Assign_Attribute (wp_then (h fz s H ht) ht fun fz1 va a o1 s1 k1 H1 t1 r1 q1 => wp_then (q1 fz1 s1 H1 t1) t1 fun fz2 vb b o2 s2 k2 H2 t2 r2 q2 => ?_) hs
  obtain ⟨x, rfl, q⟩ := q2
  cases r2.val_inv
  refine wp_then (q fz2 s2 va H2 t2 (r1.mono k2)) t2 fun fz3 _ _ o3 s3 k3 H3 t3 _ q3 => ?_
  exact ⟨fz3, .next, o3, k1.trans (k2.trans k3), H3, .next, q3⟩

theorem handed_ref {a : Addr} : ∀ fz v, RV fz (.ref a) v → handedIn v = true := fun fz v r => by cases r.val_inv; rfl

/-- a method of the class -/
theorem mth_inst {x dx C f : Addr} {loc : List (Str × V)} {name : Str} {pl : Sem Bool} {Q : Value × List V → Own → Prop} (hc : ClsOk W.K C) (h1 : (x, Ob.obj (instObj C dx)) ∈ own) (h2 : (dx, Ob.att loc) ∈ own)
    (hf : findIn W.K (.ref C) name = some (some (.ref f))) (hty : typeIn W.K (.ref f) = some (.type "function")) (hn : name ∉ loc.map (·.1)) (h : Q (.ref f, [.ref x]) own) : SMth W A name pl (.ref x) own Q := fun fz s v H tk r => by
  cases r.val_inv
  obtain ⟨od, hod, ha, I⟩ := inst_at H h1 h2
  obtain ⟨es, ep, hd, hk, hsz, _, h4⟩ := ha
  refine method_fn H.kin I hc.ga hc.gattr hf hty ?_ ⟨fz, _, own, .refl _, H, ⟨rfl, .cons (.val _) .nil⟩, h⟩
  unfold shadowIn
  dsimp only
  rw [lookIn_of hd hk, h4 _ hn]
  rfl

/-- making a thing -/
theorem do_make {C fI : Addr} {args : List V} {Q : V → Own → Prop} (hc : ClsOk W.K C) (hi : findIn W.K (.ref C) "__init__" = some (some (.ref fI))) (hf : typeIn W.K (.ref fI) = some (.type "function"))
    (h : ∀ A' : Around, A'.handled = A.handled → A'.depth = A.depth + 1 → A'.units = A.units + 1 → ∀ x dx, SLC W A' (.ref fI) (.ref x :: args) ((x, .obj (instObj C dx)) :: (dx, .att []) :: own) fun r o => r = .none ∧ Q (.ref x) o) :
    SL W A RV (fun vs => call (.ref C) vs) args own Q := fun fz s vs H ht rs => by
  refine wpAny_call ?_
  have k : Keep s.heap ((s.heap.push emptyDict).push (instObj C s.heap.objs.size)) := (Keep.push _ _).trans (Keep.push _ _)
  have H1 : Hold W fz ((s.heap.objs.size, .att []) :: own) { s with heap := s.heap.push emptyDict, toks := s.toks } := H.new (Keep.push _ _) (get?_ge (Nat.le_refl _)) (Heap.get?_push_size _ rfl)
    ⟨#[], 0, rfl, fun e he => by simp at he, by simp, fun p hp => (nomatch hp), fun x _ => rfl⟩
  have H2 : Hold W fz ((s.heap.objs.size + 1, .obj (instObj C s.heap.objs.size)) :: (s.heap.objs.size, .att []) :: own) { s with heap := (s.heap.push emptyDict).push (instObj C s.heap.objs.size), toks := s.toks } := by
    have := H1.new (k := s.toks) (ob := .obj (instObj C s.heap.objs.size)) (Keep.push _ (instObj C s.heap.objs.size)) (get?_ge (Nat.le_refl _)) (Heap.get?_push_size _ rfl) rfl
    rw [show ({ s with heap := s.heap.push emptyDict, toks := s.toks } : Shared).heap.objs.size = s.heap.objs.size + 1 from Heap.size_push ..] at this
    exact this
  obtain ⟨hh, g, d, t, os⟩ := s
  refine make_core (makes_of H.kin hc.makes) (looks_findIn H.kin hi) (fun self => bind_fn H.kin self hf) (.inl rfl) ?_
  have key := h (A.under (.builtin "type.__call__" ⟨.ref C :: vs, []⟩)) rfl rfl rfl (hh.objs.size + 1) hh.objs.size fz _ _ H2 ht (.cons (.val _) rs)
  refine codeAny_mono key fun r s' x => ?_
  rcases r with e | (v | _ | _ | _) <;> first | exact x.elim | skip
  obtain ⟨fz', b, own', k', H', rb, rfl, q⟩ := x
  exact ⟨rb.none_inv, fz', _, own', k', H', .val _, q⟩
end
section
variable {W : Wd} {A : Around} {env : Env} {own : Own}

theorem ite_dec {p : Prop} [Decidable p] {P Q : Prop} (h1 : p → P) (h2 : ¬ p → Q) : if decide p = true then P else Q := by
  by_cases h : p
  · rw [if_pos (decide_eq_true h)]; exact h1 h
  · rw [if_neg (by simpa using h)]; exact h2 h
theorem ite_tt' {P Q : Prop} (h : P) : if true = true then P else Q := by rw [if_pos rfl]; exact h
theorem ite_ff' {P Q : Prop} (h : Q) : if false = true then P else Q := by rw [if_neg (by decide)]; exact h
theorem K_of {K K' : Frag} {a : Addr} {o : Obj} (hK : K = K') (h : K'.lookup a = some o) : K.lookup a = some o := hK ▸ h
theorem nsIn_of {K K' : Frag} {x : Str} {r : Option (Option Value)} (hK : K = K') (h : nsIn K' mainGlobals x = r) : nsIn K mainGlobals x = r := hK ▸ h
/-! ### texts as lists of signs -/
noncomputable def S (l : List Nat) : Str := ⟨l.toArray⟩
noncomputable def lit (x : Str) : List Nat := x.cps.toList
theorem S_lit (x : Str) : S (lit x) = x := by unfold S lit; simp
theorem S_len (l : List Nat) : (S l).length = l.length := by show l.toArray.size = _; simp
theorem S_cat (a b : List Nat) : S a ++ S b = S (a ++ b) := by
  show (⟨(S a).cps ++ (S b).cps⟩ : Str) = S (a ++ b)
  simp [S]
theorem S_inj {a b : List Nat} : S a = S b ↔ a = b := by
  constructor
  · intro h; have := congrArg (fun x : Str => x.cps.toList) h; simpa [S] using this
  · intro h; rw [h]

theorem SE_strS {x : Str} {k : Nat} {pos : Pos} {Q : V → Own → Prop} (h : Q (.str (S (lit x))) own) : SE W A env (.Constant (.str x) k pos) own Q := SE_str (by rw [S_lit] at h; exact h)
theorem SE_strL {x : Str} {l : List Nat} {k : Nat} {pos : Pos} {Q : V → Own → Prop} (hx : lit x = l) (h : Q (.str (S l)) own) : SE W A env (.Constant (.str x) k pos) own Q := SE_strS (by rw [hx]; exact h)
theorem op_catS {a b : List Nat} {Q : V → Own → Prop} (hz : a.length + b.length ≤ sizeLine) (h : Q (.str (S (a ++ b))) own) : S2 W A RV (binaryOp .Add) (.str (S a)) (.str (S b)) own Q := op_cat (by rw [S_len, S_len]; exact hz) (by rw [S_cat]; exact h)
theorem cmp_eqSS {a b : List Nat} {Q : V → Own → Prop} (h : Q (.bool (decide (a = b))) own) : S2 W A RV (compareOp .Eq) (.str (S a)) (.str (S b)) own Q := cmp_eqS (by
  have : decide (S a = S b) = decide (a = b) := by simp only [S_inj]
  rw [this]; exact h)
theorem cmp_neSS {a b : List Nat} {Q : V → Own → Prop} (h : Q (.bool (decide (a ≠ b))) own) : S2 W A RV (compareOp .NotEq) (.str (S a)) (.str (S b)) own Q := cmp_neS (by
  have : decide (S a ≠ S b) = decide (a ≠ b) := by simp only [ne_eq, S_inj]
  rw [this]; exact h)
theorem sub_strS {o i : Expr} {a : List Nat} {k : Int} {c : Nat} {Q : V → Own → Prop} (hlo : -(a.length : Int) ≤ k) (hhi : k < (a.length : Int)) (hz : a.length ≤ sizeLine) (hx : a[place k a.length]? = some c) (h : Q (.str (S [c])) own)
    (hs : ∀ v u, subscripted i false v u = operate [v, u] (getItem v u) := by intro _ _; with_unfolding_all rfl) : S2 W A RV (subscriptTail o i) (.str (S a)) (.int k) own Q :=
  sub_str (by rw [S_len]; exact hlo) (by rw [S_len]; exact hhi) (by rw [S_len]; exact hz) (by rw [S_len]; show a.toArray[_]? = _; simpa using hx) h hs
/-! ### a list of one's own handed on as data -/
inductive Take (D : Addr) (ob : Ob) : Own → Own → Prop
  | here {l : Own} : Take D ob ((D, ob) :: l) l
  | there {p : Addr × Ob} {l l' : Own} : Take D ob l l' → Take D ob (p :: l) (p :: l')
theorem Take.perm {D : Addr} {ob : Ob} {l l' : Own} (t : Take D ob l l') : l.Perm ((D, ob) :: l') := by
  induction t with
  | here => exact .refl _
  | there _ ih => exact (ih.cons _).trans (.swap ..)
theorem Upd.mid {D : Addr} {ob ob' : Ob} {post : Own} : ∀ {pre : Own}, Upd D ob ob' (pre ++ (D, ob) :: post) (pre ++ (D, ob') :: post)
  | [] => .here
  | _ :: _ => .there Upd.mid
theorem ite_nt {P Q : Prop} (h : Q) : if (!true) = true then P else Q := by rw [if_neg (by decide)]; exact h
theorem ite_nf {P Q : Prop} (h : P) : if (!false) = true then P else Q := by rw [if_pos (by decide)]; exact h
end
section
variable {W : Wd} {A : Around} {env : Env} {own : Own}

theorem GensIs.more {gs : Array GenState} (x : GensIs own gs) : ∀ {nw : Own}, (∀ p ∈ nw, p.2.genOf = none) → GensIs (nw ++ own) gs
  | [], _ => x
  | p :: nw, h => (GensIs.more x fun q hq => h q (List.mem_cons_of_mem _ hq)).cons (a := p.1) (h p List.mem_cons_self)
theorem Hold.more {fz : Heap} {s : Shared} (H : Hold W fz own s) {h' : Heap} {k : Nat} (hk : Keep s.heap h') {nw : Own} (hn : ∀ p ∈ nw, s.heap.get? p.1 = none) (ho : ∀ p ∈ nw, ∃ o, h'.get? p.1 = some o ∧ ObIs fz p.2 o)
    (nd : (nw.map (·.1)).Nodup) (hg : ∀ p ∈ nw, p.2.genOf = none) : Hold W fz (nw ++ own) { s with heap := h', toks := k } where
  base := H.base
  has := H.has.trans hk
  obs := fun p hp => by
    rcases List.mem_append.mp hp with hp | hp
    · exact ho p hp
    · obtain ⟨o', e, r⟩ := H.obs p hp; exact ⟨o', hk _ _ e, r⟩
  out := fun p hp => by
    rcases List.mem_append.mp hp with hp | hp
    · cases e : fz.get? p.1 with
      | none => rfl
      | some o' => exact absurd (H.has _ _ e) (by rw [hn p hp]; exact fun x => nomatch x)
    · exact H.out p hp
  nd := by
    rw [List.map_append, List.nodup_append]
    refine ⟨nd, H.nd, fun a ha b hb e => ?_⟩
    subst e
    obtain ⟨p, hp, rfl⟩ := List.mem_map.mp ha
    obtain ⟨q, hq, e⟩ := List.mem_map.mp hb
    obtain ⟨o', e', _⟩ := H.obs q hq
    rw [e, hn p hp] at e'
    cases e'
  gens := GensIs.more H.gens hg
  os := H.os

/-! ### calls with defaults -/
theorem do_callD {f : Addr} {args : List V} {Q : V → Own → Prop} {name qual : Str} {params : Arguments} {body : List Stmt} {scope : Scope} {dV kV doc pm cdv ct oc : Value} {an od : Option Addr} {osl : Array (Option Value)}
    (names : List Str) (dfl : List Value) (dfv : List V) (hdf : ∀ fz, RVs fz dfv dfl)
    (ho : W.K.lookup f = some ⟨oc, od, .func (fnOf name qual params body scope dV kV doc pm an cdv ct), osl⟩) (hcd : codeIn W.K cdv qual = true) (hroom : A.depth < recursionLimit)
    (hb : ∀ s vs, W.K.In s.heap → vs.length = args.length → BindsTo s (fnOf name qual params body scope dV kV doc pm an cdv ct) ⟨vs, []⟩ (names.zip (vs ++ dfl)))
    (hloc : ∀ y ∈ names, scope.names.lookup y = some .local) (nd : names.Nodup)
    (h : ∀ L, SXs W (A.deeper (envX qual scope L f cdv [])) (envX qual scope L f cdv []) body ((L, .ns (names.zip (args ++ dfv))) :: own) (retTo Q))
    (hco : scope.isCoroutine = false) (hgen : scope.isGenerator = false) (hk : scope.kind = .function)
    (hcell : ∀ x ∈ scope.names, x.2 ≠ .cell) : SLC W A (.ref f) args own Q := fun fz s vs H ht rs => by
  have ndz : ((names.zip (vs ++ dfl)).map (·.1)).Nodup := nd.sublist zip_fst
  refine (codeAny_call_def (fd := fnOf name qual params body scope dV kV doc pm an cdv ct) (body := body) (binds := names.zip (vs ++ dfl)) hroom (H.kin _ _ ho) rfl (W.top.nolimit.keeps H.keep) (codeRec_of H.kin hcd) rfl
    (hb s vs H.kin rs.length.symm) hcell (fun x hx => hloc _ (List.of_mem_zip (show (x.1, x.2) ∈ names.zip (vs ++ dfl) from hx)).1) (fun h₁ hns hk₁ => ?_) hco hgen hk)
  obtain ⟨o, ho', hob⟩ := of_ns (fz := fz) (loc := names.zip (args ++ dfv)) hns (fun p hp => by
    obtain ⟨v, e, r⟩ := zip_lookup (rs.append (hdf fz)) nd p hp
    exact ⟨v, by rw [lookup_reverse ndz]; exact e, r⟩)
  have H₁ : Hold W fz ((s.heap.objs.size, .ns (names.zip (args ++ dfv))) :: own) { s with heap := h₁, toks := s.toks + (names.zip (vs ++ dfl)).length } := H.new hk₁ (get?_ge (Nat.le_refl _)) ho' hob
  refine wpAny_mono (h s.heap.objs.size fz _ H₁ (Nat.le_trans ht (Nat.le_add_right _ _))) (fun fl s' x => ?_) fun _ _ x => x.elim
  obtain ⟨fz', b, own', k, H', r, own'', wk, q⟩ := x
  refine ⟨fz', _, own'', k, wk.hold H', ?_, q⟩
  cases r with
  | next => exact .dat .none
  | brk => exact .dat .none
  | cont => exact .dat .none
  | ret r => exact r

/-! ### calls of a def whose names are captured -/
noncomputable def AllL (fz : Heap) (m : Str → Option Value) : List (Str × V) → Prop
  | [] => True
  | p :: r => (∃ v, m p.1 = some v ∧ RV fz p.2 v) ∧ AllL fz m r
theorem AllL.get {fz : Heap} {m : Str → Option Value} {l : List (Str × V)} (h : AllL fz m l) (p : Str × V) (hp : p ∈ l) : ∃ v, m p.1 = some v ∧ RV fz p.2 v := by
  induction l with
  | nil => cases hp
  | cons q r ih =>
    rcases List.mem_cons.mp hp with rfl | hp
    · exact h.1
    · exact ih h.2 hp
noncomputable def AllC (fz : Heap) (m : Str → Option Value) : List (Str × Nat × Option V) → Prop
  | [] => True
  | (x, _, none) :: r => m x = none ∧ AllC fz m r
  | (x, _, some a) :: r => (∃ v, m x = some v ∧ RV fz a v) ∧ AllC fz m r
theorem AllC.get {fz : Heap} {m : Str → Option Value} {l : List (Str × Nat × Option V)} (h : AllC fz m l) (p : Str × Nat × Option V) (hp : p ∈ l) : match p.2.2 with | none => m p.1 = none | some a => ∃ v, m p.1 = some v ∧ RV fz a v := by
  induction l with
  | nil => cases hp
  | cons q r ih =>
    obtain ⟨x, n, o⟩ := q
    cases o with
    | none =>
      rcases List.mem_cons.mp hp with rfl | hp
      · exact h.1
      · exact ih h.2 hp
    | some a =>
      rcases List.mem_cons.mp hp with rfl | hp
      · exact h.1
      · exact ih h.2 hp
theorem lookup_mem_nodup {α : Type} : ∀ {l : List (Str × α)}, (l.map (·.1)).Nodup → ∀ {n : Str} {c : α}, (n, c) ∈ l → l.lookup n = some c
  | (k, v) :: r, nd, n, c, h => by
    rw [List.map_cons, List.nodup_cons] at nd
    rw [List.lookup_cons]
    rcases List.mem_cons.mp h with e | h
    · cases e; simp
    · have : n ≠ k := fun e => nd.1 (List.mem_map.mpr ⟨_, h, e⟩)
      have : (n == k) = false := by simpa using this
      rw [this]; exact lookup_mem_nodup nd.2 h

noncomputable abbrev cellsOwn (L : Addr) (ce : List (Str × Nat × Option V)) : Own := ce.map fun p => (L + p.2.1, Ob.cell p.2.2)
theorem do_callE {f : Addr} {args : List V} {Q : V → Own → Prop} {name qual : Str} {params : Arguments} {body : List Stmt} {scope : Scope} {dV kV doc pm cdv ct oc : Value} {an od : Option Addr} {osl : Array (Option Value)}
    (names : List Str) (loc : List (Str × V)) (ce : List (Str × Nat × Option V))
    (ho : W.K.lookup f = some ⟨oc, od, .func (fnOf name qual params body scope dV kV doc pm an cdv ct), osl⟩) (hcd : codeIn W.K cdv qual = true) (hroom : A.depth < recursionLimit)
    (hb : ∀ s vs, W.K.In s.heap → vs.length = args.length → BindsTo s (fnOf name qual params body scope dV kV doc pm an cdv ct) ⟨vs, []⟩ (names.zip vs))
    (hcl : ∀ L, cellsFrom (L + 1) scope.names [] = ce.map fun p => (p.1, L + p.2.1)) (ndc : (ce.map (·.1)).Nodup)
    (hkind : ∀ y ∈ names, scope.names.lookup y = some .local ∨ (scope.names.lookup y = some .cell ∧ y ∈ ce.map (·.1)))
    (hbind : ∀ fz vs L, RVs fz args vs → AllL fz (bindL (envX qual scope L f cdv (ce.map fun p => (p.1, L + p.2.1))).kindOf (names.zip vs) fun _ => none) loc ∧ AllC fz (bindC (envX qual scope L f cdv (ce.map fun p => (p.1, L + p.2.1))).kindOf (names.zip vs) fun _ => none) ce)
    (h : ∀ L, SXs W (A.deeper (envX qual scope L f cdv (ce.map fun p => (p.1, L + p.2.1)))) (envX qual scope L f cdv (ce.map fun p => (p.1, L + p.2.1))) body ((L, .ns loc) :: (cellsOwn L ce ++ own)) (retTo Q))
    (hco : scope.isCoroutine = false) (hgen : scope.isGenerator = false) (hk : scope.kind = .function) : SLC W A (.ref f) args own Q := fun fz s vs H ht rs => by
  have hlk : ∀ L, ∀ y ∈ ce.map (·.1), (((ce.map fun p => (p.1, L + p.2.1)) : List (Str × Addr)).lookup y).isSome = true := fun L y hy => by
    obtain ⟨p, hp, rfl⟩ := List.mem_map.mp hy
    rw [lookup_mem_nodup (l := ce.map fun p => (p.1, L + p.2.1)) (by rw [List.map_map]; exact ndc) (List.mem_map.mpr ⟨p, hp, rfl⟩)]; rfl
  refine codeAny_call_function hroom (H.kin _ _ ho) rfl hco hgen rfl (codeRec_of H.kin hcd) (hb s vs H.kin rs.length.symm _ _ _ _ ?_)
  have base := wpAny_newFunctionEnv_cells (M := model W.prog W.w) (A := A.in1) (E := fun e s' => False) (s := s) (scope := scope) (globals := mainGlobals) (binds := names.zip vs) (qual := qual ++ ".<locals>.") (func := some f) (code := cdv) (builtins := builtinsNs)
    (Q := fun env s' => env = newEnv scope s.heap.objs.size mainGlobals (cellsFrom (s.heap.objs.size + 1) scope.names []) (qual ++ ".<locals>.") (some f) cdv none builtinsNs ∧
      InCallC s env.locals (bindL env.kindOf (names.zip vs) fun _ => none) env.cells (bindC env.kindOf (names.zip vs) fun _ => none) s') hk (fun x hx => by
      rcases hkind _ (List.of_mem_zip (show (x.1, x.2) ∈ names.zip vs from hx)).1 with e | ⟨e, m⟩
      · exact .inl e
      · refine .inr ⟨e, ?_⟩
        rw [hcl]; exact hlk _ _ m) (fun env he s' x => ⟨he, x⟩)
  refine wpAny_mono (wpAny_toks_of ht base) (fun env' s' x => ?_) fun _ _ e => e.2.elim
  obtain ⟨t1, he, x⟩ := x
  have he' : env' = envX qual scope s.heap.objs.size f cdv (ce.map fun p => (p.1, s.heap.objs.size + p.2.1)) := by rw [he, hcl]; rfl
  subst he'
  clear he
  refine ⟨(W.top.nolimit.keeps H.keep).keeps x.toInCall.keep, codeAny_func ?_⟩
  have hk₁ := x.toInCall.keep
  obtain ⟨hL, hC⟩ := hbind fz vs s.heap.objs.size rs
  obtain ⟨o, ho', hob⟩ := of_ns (fz := fz) (loc := loc) x.toInCall.ns hL.get
  have hcells : ∀ p ∈ ce, ((ce.map fun p => (p.1, s.heap.objs.size + p.2.1)) : List (Str × Addr)).lookup p.1 = some (s.heap.objs.size + p.2.1) := fun p hp =>
    lookup_mem_nodup (l := ce.map fun p => (p.1, s.heap.objs.size + p.2.1)) (by rw [List.map_map]; exact ndc) (List.mem_map.mpr ⟨p, hp, rfl⟩)
  have habove : ∀ p ∈ ce, s.heap.objs.size < s.heap.objs.size + p.2.1 := fun p hp => x.above _ _ (List.mem_map.mpr ⟨p, hp, rfl⟩)
  obtain ⟨h₁, tk, rfl⟩ := x.toInCall.same
  have H₁ : Hold W fz ((s.heap.objs.size, .ns loc) :: cellsOwn s.heap.objs.size ce ++ own) { s with heap := h₁, toks := tk } := by
    refine H.more hk₁ (fun p hp => ?_) (fun p hp => ?_) ?_ (fun p hp => by rcases List.mem_cons.mp hp with rfl | hp; rfl; obtain ⟨q, _, rfl⟩ := List.mem_map.mp hp; rfl)
    · rcases List.mem_cons.mp hp with rfl | hp
      · exact get?_ge (Nat.le_refl _)
      · obtain ⟨q, hq, rfl⟩ := List.mem_map.mp hp
        exact get?_ge (Nat.le_of_lt (habove q hq))
    · rcases List.mem_cons.mp hp with rfl | hp
      · exact ⟨o, ho', hob⟩
      · obtain ⟨q, hq, rfl⟩ := List.mem_map.mp hp
        obtain ⟨oc', e, d⟩ := x.cell _ _ (hcells q hq)
        have g := hC.get q hq
        obtain ⟨qx, qn, qo⟩ := q
        cases qo with
        | none => exact ⟨oc', e, by dsimp only at g d; rw [g] at d; exact d⟩
        | some a =>
          obtain ⟨v, e2, r⟩ := g
          exact ⟨oc', e, v, by dsimp only at e2 d; rw [e2] at d; exact d, r⟩
    · rw [List.map_cons, List.nodup_cons]
      refine ⟨fun hm => ?_, ?_⟩
      · obtain ⟨q, hq, e⟩ := List.mem_map.mp hm
        obtain ⟨q', hq', rfl⟩ := List.mem_map.mp hq
        exact absurd (habove q' hq') (by rw [show s.heap.objs.size + q'.2.1 = s.heap.objs.size from e]; exact Nat.lt_irrefl _)
      · have ap := x.apart
        rw [List.pairwise_map] at ap
        rw [List.map_map, List.Nodup, List.pairwise_map]
        exact ap
  refine wpAny_mono (h s.heap.objs.size fz _ H₁ t1) (fun fl s' x => ?_) fun _ _ x => x.elim
  obtain ⟨fz', b, own', k, H', r, own'', wk, q⟩ := x
  refine ⟨fz', _, own'', k, wk.hold H', ?_, q⟩
  cases r with
  | next => exact .dat .none
  | brk => exact .dat .none
  | cont => exact .dat .none
  | ret r => exact r

/-! ### two clauses -/
theorem CL.wk {e : Expr} {d : Nat} {D : Addr} {cenv : Env} {it : Addr} {l : List V} {o o' : Own} {Q : Own → Prop} (k : Wk o o') (h : CL W A e d D cenv it l o' Q) : CL W A e d D cenv it l o Q :=
  fun fz s H ht => h fz s ((Wk.keep .refl k).hold H) ht

end
section
variable {W : Wd} {A : Around} {env : Env} {own : Own}

/-! ### equal data -/
noncomputable def Ok (n : Nat) (d : PyData) : Prop := d.canLay0 = true ∧ d.depth ≤ n
theorem Ok.mono {n m : Nat} {d : PyData} (h : Ok n d) (k : n ≤ m) : Ok m d := ⟨h.1, Nat.le_trans h.2 k⟩
theorem ok_none {n : Nat} : Ok (n + 1) .none := ⟨rfl, by simp [PyData.depth]⟩
theorem ok_int {n : Nat} {i : Int} : Ok (n + 1) (.int i) := ⟨rfl, by simp [PyData.depth]⟩
theorem ok_bool {n : Nat} {b : Bool} : Ok (n + 1) (.bool b) := ⟨rfl, by simp [PyData.depth]⟩
theorem ok_str {n : Nat} {l : List Nat} (h : ∀ c ∈ l, c < 1114112) : Ok (n + 1) (.str (S l)) := by
  refine ⟨?_, by simp [PyData.depth]⟩
  show PyData.strOk (S l) = true
  unfold PyData.strOk S
  simp only [List.all_toArray, List.all_eq_true]
  intro c hc; simpa using h c hc
theorem okAll {n : Nat} : ∀ {l : List PyData}, (∀ d ∈ l, Ok n d) → PyData.canLayAll0 l = true ∧ PyData.depthAll l ≤ n
  | [], _ => ⟨rfl, by simp [PyData.depthAll]⟩
  | d :: l, h => by
    obtain ⟨h1, h2⟩ := okAll (l := l) fun e he => h e (List.mem_cons_of_mem _ he)
    obtain ⟨k1, k2⟩ := h d List.mem_cons_self
    refine ⟨by simp [PyData.canLayAll0, h1, k1], ?_⟩
    simp only [PyData.depthAll]; (first | decide | exact Nat.le_trans (by assumption) (by decide) | lia | omega)
theorem ok_list {n : Nat} {l : List PyData} (h : ∀ d ∈ l, Ok n d) : Ok (n + 1) (.list l) := by
  obtain ⟨h1, h2⟩ := okAll h
  exact ⟨by simpa [PyData.canLay0] using h1, by simp only [PyData.depth]; (first | decide | exact Nat.le_trans (by assumption) (by decide) | lia | omega)⟩
theorem ok_tuple {n : Nat} {l : List PyData} (h : ∀ d ∈ l, Ok n d) : Ok (n + 1) (.tuple l) := by
  obtain ⟨h1, h2⟩ := okAll h
  exact ⟨by simpa [PyData.canLay0] using h1, by simp only [PyData.depth]; (first | decide | exact Nat.le_trans (by assumption) (by decide) | lia | omega)⟩

theorem cmp_eqR {a b : PyData} {Q : V → Own → Prop} (e : a = b) (ok : Ok 60 a) (hu : A.units + 60 < cLine) (h : Q (.bool true) own) : S2 W A RV (compareOp .Eq) (.dat a) (.dat b) own Q := fun fz s v u H _ r1 r2 => by
  subst e
  cases r1 with | dat r1 => cases r2 with | dat r2 =>
  refine SeqAt.compareEq_reads (Reads.keeps H.has r1) (Reads.keeps H.has r2) ok.1 ok.1 (by have := ok.2; (first | decide | exact Nat.le_trans (by assumption) (by decide) | lia | omega)) ?_
  rw [SeqAt.eqv_refl a ok.1]
  exact at_tok H _ (.dat (.bool _)) h
theorem cmp_neR {a b : PyData} {Q : V → Own → Prop} (e : a = b) (ok : Ok 60 a) (hu : A.units + 60 < cLine) (h : Q (.bool false) own) : S2 W A RV (compareOp .NotEq) (.dat a) (.dat b) own Q := fun fz s v u H _ r1 r2 => by
  subst e
  cases r1 with | dat r1 => cases r2 with | dat r2 =>
  refine SeqAt.compareNe_reads (Reads.keeps H.has r1) (Reads.keeps H.has r2) ok.1 ok.1 (by have := ok.2; (first | decide | exact Nat.le_trans (by assumption) (by decide) | lia | omega)) ?_
  rw [SeqAt.eqv_refl a ok.1]
  exact at_tok H _ (.dat (.bool _)) h

/-! ### a list of one's own becomes data where it is named -/
inductive VF (D : Addr) (d : PyData) : V → V → Prop
  | at_ : VF D d (.ref D) (.dat d)
  | same {v : V} : VF D d v v
inductive NF (D : Addr) (d : PyData) : List (Str × V) → List (Str × V) → Prop
  | nil : NF D d [] []
  | cons {x : Str} {v v' : V} {l l' : List (Str × V)} : VF D d v v' → NF D d l l' → NF D d ((x, v) :: l) ((x, v') :: l')
inductive LF (D : Addr) (d : PyData) : List V → List V → Prop
  | nil : LF D d [] []
  | cons {v v' : V} {l l' : List V} : VF D d v v' → LF D d l l' → LF D d (v :: l) (v' :: l')
  | refl {l : List V} : LF D d l l
inductive OF (D : Addr) (d : PyData) : Own → Own → Prop
  | refl {l : Own} : OF D d l l
  | ns {a : Addr} {loc loc' : List (Str × V)} {l l' : Own} : NF D d loc loc' → OF D d l l' → OF D d ((a, .ns loc) :: l) ((a, .ns loc') :: l')
  | cell {a : Addr} {v v' : V} {l l' : Own} : VF D d v v' → OF D d l l' → OF D d ((a, .cell (some v)) :: l) ((a, .cell (some v')) :: l')
  | list {a : Addr} {loc loc' : List V} {l l' : Own} : LF D d loc loc' → OF D d l l' → OF D d ((a, .list loc) :: l) ((a, .list loc') :: l')
  | same {p : Addr × Ob} {l l' : Own} : OF D d l l' → OF D d (p :: l) (p :: l')
theorem VF.rv {D : Addr} {d : PyData} {fz : Heap} (hD : RV fz (.dat d) (.ref D)) {a a' : V} (x : VF D d a a') {v : Value} (r : RV fz a v) : RV fz a' v := by
  cases x with
  | at_ => rw [r.val_inv]; exact hD
  | same => exact r
theorem LF.rv {D : Addr} {d : PyData} {fz : Heap} (hD : RV fz (.dat d) (.ref D)) {l l' : List V} (x : LF D d l l') : ∀ {vs : List Value}, RVs fz l vs → RVs fz l' vs := by
  induction x with
  | nil => intro vs r; exact r
  | refl => intro vs r; exact r
  | cons h _ ih => intro vs r; cases r with | cons r1 r2 => exact .cons (h.rv hD r1) (ih r2)
theorem NF.is {D : Addr} {d : PyData} {fz : Heap} (hD : RV fz (.dat d) (.ref D)) {l l' : List (Str × V)} (x : NF D d l l') {es : Array DictEntry} (h : ∀ p ∈ l, ∃ v, nsFind es p.1 = some v ∧ RV fz p.2 v) :
    ∀ p ∈ l', ∃ v, nsFind es p.1 = some v ∧ RV fz p.2 v := by
  induction x with
  | nil => exact h
  | cons hv _ ih =>
    intro p hp
    rcases List.mem_cons.mp hp with rfl | hp
    · obtain ⟨v, e, r⟩ := h _ List.mem_cons_self; exact ⟨v, e, hv.rv hD r⟩
    · exact ih (fun q hq => h q (List.mem_cons_of_mem _ hq)) p hp
theorem OF.is {D : Addr} {d : PyData} {fz : Heap} (hD : RV fz (.dat d) (.ref D)) {l l' : Own} (x : OF D d l l') : (l'.map (·.1) = l.map (·.1)) ∧ ∀ p' ∈ l', ∃ p ∈ l, p.1 = p'.1 ∧ ∀ o, ObIs fz p.2 o → ObIs fz p'.2 o := by
  induction x with
  | refl => exact ⟨rfl, fun p hp => ⟨p, hp, rfl, fun _ h => h⟩⟩
  | ns h _ ih =>
    refine ⟨by simp [ih.1], fun p hp => ?_⟩
    rcases List.mem_cons.mp hp with rfl | hp
    · exact ⟨_, List.mem_cons_self, rfl, fun o ⟨es, ep, h1, h2, h3⟩ => ⟨es, ep, h1, h2, h.is hD h3⟩⟩
    · obtain ⟨q, hq, r⟩ := ih.2 p hp; exact ⟨q, List.mem_cons_of_mem _ hq, r⟩
  | cell h _ ih =>
    refine ⟨by simp [ih.1], fun p hp => ?_⟩
    rcases List.mem_cons.mp hp with rfl | hp
    · exact ⟨_, List.mem_cons_self, rfl, fun o ⟨v, e, r⟩ => ⟨v, e, h.rv hD r⟩⟩
    · obtain ⟨q, hq, r⟩ := ih.2 p hp; exact ⟨q, List.mem_cons_of_mem _ hq, r⟩
  | list h _ ih =>
    refine ⟨by simp [ih.1], fun p hp => ?_⟩
    rcases List.mem_cons.mp hp with rfl | hp
    · exact ⟨_, List.mem_cons_self, rfl, fun o ⟨vs, n, e, r⟩ => ⟨vs, n, e, h.rv hD r⟩⟩
    · obtain ⟨q, hq, r⟩ := ih.2 p hp; exact ⟨q, List.mem_cons_of_mem _ hq, r⟩
  | same _ ih =>
    refine ⟨by simp [ih.1], fun p hp => ?_⟩
    rcases List.mem_cons.mp hp with rfl | hp
    · exact ⟨_, List.mem_cons_self, rfl, fun _ h => h⟩
    · obtain ⟨q, hq, r⟩ := ih.2 p hp; exact ⟨q, List.mem_cons_of_mem _ hq, r⟩
theorem OF.gens {D : Addr} {d : PyData} {l l' : Own} (x : OF D d l l') {gs : Array GenState} (G : GensIs l gs) : GensIs l' gs := by
  have key : (l'.filterMap fun p => p.2.genOf) = (l.filterMap fun p => p.2.genOf) ∧ ∀ p ∈ l', ∀ g P, p.2 = .gen g P → p ∈ l := by
    clear G
    induction x with
    | refl => exact ⟨rfl, fun p hp _ _ _ => hp⟩
    | ns _ _ ih =>
      refine ⟨by simpa [List.filterMap_cons, Ob.genOf] using ih.1, fun p hp g P e => ?_⟩
      rcases List.mem_cons.mp hp with rfl | hp
      · cases e
      · exact List.mem_cons_of_mem _ (ih.2 p hp g P e)
    | cell _ _ ih =>
      refine ⟨by simpa [List.filterMap_cons, Ob.genOf] using ih.1, fun p hp g P e => ?_⟩
      rcases List.mem_cons.mp hp with rfl | hp
      · cases e
      · exact List.mem_cons_of_mem _ (ih.2 p hp g P e)
    | list _ _ ih =>
      refine ⟨by simpa [List.filterMap_cons, Ob.genOf] using ih.1, fun p hp g P e => ?_⟩
      rcases List.mem_cons.mp hp with rfl | hp
      · cases e
      · exact List.mem_cons_of_mem _ (ih.2 p hp g P e)
    | same _ ih =>
      refine ⟨by rw [List.filterMap_cons, List.filterMap_cons, ih.1], fun p hp g P e => ?_⟩
      rcases List.mem_cons.mp hp with rfl | hp
      · exact List.mem_cons_self
      · exact List.mem_cons_of_mem _ (ih.2 p hp g P e)
  exact ⟨G.bare, fun p hp g P e => G.st p (key.2 p hp g P e) g P e, by rw [key.1]; exact G.nd⟩
theorem SG_frz {α β : Type} {R : Heap → β → α → Prop} {t : Sem α} {own₁ own' : Own} {Q : β → Own → Prop} {D : Addr} {ys : List V} {ds : List PyData} (tk : Take D (.list ys) own own₁) (ad : AllDat ys ds) (x : OF D (.list ds) own₁ own')
    (h : SG W A R t own' Q) : SG W A R t own Q := fun fz s H ht => by
  obtain ⟨fz', k, H', r⟩ := (H.perm tk.perm).freezeList ad
  obtain ⟨k1, k2⟩ := x.is r
  refine (h fz' s ⟨H'.base, H'.has, fun p hp => ?_, fun p hp => ?_, by rw [k1]; exact H'.nd, x.gens H'.gens, H'.os⟩ ht).weak k
  · obtain ⟨q, hq, e, f⟩ := k2 p hp
    obtain ⟨o, ho, i⟩ := H'.obs q hq
    exact ⟨o, e ▸ ho, f o i⟩
  · obtain ⟨q, hq, e, f⟩ := k2 p hp
    exact e ▸ H'.out q hq

end
section
variable {W : Wd} {A : Around} {env : Env} {own : Own}

/-! ### small calls -/
theorem strs_of {fz : Heap} : ∀ {ls : List (List Nat)} {vs : List Value}, RVs fz ((ls.map fun l => PyData.str (S l)).map V.dat) vs → StrsAre vs (ls.map S)
  | [], _, r => by cases r; exact .nil
  | n :: ns, _, r => by
    cases r with
    | cons h t => obtain ⟨t', rfl⟩ := RV.str_inv h; exact .cons _ _ (strs_of t)
/-! ### texts made of texts -/
/-! ### lists that grow -/
theorem mapSeq_app' {vs ws : List Value} {n : Nat} : (Obj.mapSeq (fun x => x ++ ws.toArray) (listObj vs n)) = listObj (vs ++ ws) (if (vs.toArray ++ ws.toArray).size == vs.toArray.size then n else n + 1) := by
  have := mapSeq_app vs.toArray ws.toArray n none #[]
  unfold listObj
  rw [this]
  simp
/-! ### replaced signs -/
/-! ### the end struck off -/
end
section
variable {W : Wd} {A : Around} {env : Env} {own : Own}

/-! ### formats -/
noncomputable def decT (n : Int) : List Nat := (if n < 0 then [45] else []) ++ (Str.ofString (toString ((n.natAbs : Nat) : Int))).cps.toList
end
section
variable {W : Wd} {A : Around} {env : Env} {own : Own}

/-! ### raised and caught in one frame -/
noncomputable def FrO (own : Own) : List Env → Prop
  | [] => True
  | e :: l => e.scope.kind ≠ .module ∧ (∃ L loc, e.frame = some L ∧ (L, Ob.ns loc) ∈ own) ∧ FrO own l
theorem FrO.mem {l : List Env} (h : FrO own l) {b : Addr} (hb : b ∈ l.filterMap (·.frame)) : ∃ loc, (b, Ob.ns loc) ∈ own := by
  induction l with
  | nil => simp at hb
  | cons e r ih =>
    obtain ⟨_, ⟨L, loc, hf, hm⟩, hr⟩ := h
    rw [List.filterMap_cons, hf] at hb
    rcases List.mem_cons.mp hb with e | hb
    · subst e; exact ⟨loc, hm⟩
    · exact ih hr hb
theorem FrO.fun {fz : Heap} {s : Shared} (H : Hold W fz own s) : ∀ {l : List Env}, FrO own l → s.heap.FunFrames fz l
  | [], _ => trivial
  | e :: l, ⟨h1, ⟨L, loc, hf, hm⟩, hr⟩ => by
    obtain ⟨o, ho, es, ep, hd, _⟩ := H.get hm
    exact ⟨h1, ⟨L, o, hf, H.out _ hm, ho, fun vs e => by rw [hd] at e; cases e⟩, FrO.fun H hr⟩
theorem Hold.slots {fz : Heap} {s : Shared} (H : Hold W fz own s) {h' : Heap} {S : List Addr} (hs : Heap.SlotsOnly S s.heap h') (hS : ∀ b ∈ S, ∃ loc, (b, Ob.ns loc) ∈ own) : Hold W fz own { s with heap := h' } where
  base := H.base
  has := fun b o e => by
    have : b ∉ S := fun hb => by obtain ⟨loc, hm⟩ := hS b hb; have := H.out _ hm; rw [this] at e; cases e
    rw [hs.2.1 b this]; exact H.has b o e
  obs := fun p hp => by
    obtain ⟨o, ho, hob⟩ := H.obs p hp
    by_cases hb : p.1 ∈ S
    · obtain ⟨loc, hm⟩ := hS _ hb
      obtain ⟨sl, e⟩ := hs.2.2 _ _ ho
      have := mem_unique H.nd hp hm rfl
      rw [this] at hob ⊢
      exact ⟨_, e, hob⟩
    · exact ⟨o, by rw [hs.2.1 _ hb]; exact ho, hob⟩
  out := H.out
  nd := H.nd
  gens := H.gens
  os := H.os
theorem Hold.off {fz : Heap} {s : Shared} (H : Hold W fz own s) {h' : Heap} {a : Addr} (hs : Heap.SameBut a s.heap h') (hf : fz.get? a = none) (ho : ∀ p ∈ own, p.1 ≠ a) : Hold W fz own { s with heap := h' } where
  base := H.base
  has := fun b o e => (hs.2 b (fun hb => by rw [hb, hf] at e; cases e)).trans (H.has b o e)
  obs := fun p hp => let ⟨o, e, r⟩ := H.obs p hp; ⟨o, (hs.2 _ (ho p hp)).trans e, r⟩
  out := H.out
  nd := H.nd
  gens := H.gens
  os := H.os
theorem off_of {fz : Heap} {s : Shared} (H : Hold W fz own s) {a : Addr} (h : s.heap.get? a = none) : fz.get? a = none ∧ ∀ p ∈ own, p.1 ≠ a := by
  refine ⟨?_, fun p hp e => ?_⟩
  · cases e : fz.get? a with
    | none => rfl
    | some o => have := H.has _ _ e; rw [h] at this; cases this
  · obtain ⟨o, ho, _⟩ := H.obs p hp; rw [e, h] at ho; cases ho

theorem name_same {prog : Program} {x : Str} {v : Value} {pos : Pos} {fz : Heap} {s : Shared} {P : Value → Shared → Prop} {E : Value → Shared → Prop} (H : Hold W fz own s) (hk : env.scope.kind = .function) (hg : env.globals = mainGlobals) (hb : env.builtins = builtinsNs) (hl : env.kindOf x = some .globalImplicit) (e : nsIn W.K mainGlobals x = some none)
    (hv : bootBuiltins x = some v) (hn : x ≠ "__name__") (hd : (x == ("__debug__" : Str)) = false) (h : P v s) : wpAny (model prog W.w) A (eval (.Name x pos) env) P E s := by
  refine wpAny_Name ?_ hd
  unfold loadName
  simp only [Env.blockKind, hk, hl, ScopeKind.isAnnotationScope, Bool.false_and, Bool.false_eq_true, if_false]
  exact Calls.loadGlobal_builtin (by rw [hg]; exact W.top.g.keeps H.keep) (mg_none_of W.kin W.top.g e) (by rw [hb]; exact W.top.b.keeps H.keep) ((W.top.builtins x hn).trans hv) h

theorem SX_TryN {body : List Stmt} {h₀ : ExceptHandler} {hs : List ExceptHandler} {pos : Pos} {Q : Fl → Own → Prop} (h : SXs W A env body own Q) : SX W A env (.Try body (h₀ :: hs) [] [] pos) own Q := fun fz s H ht => by
  refine wpAny_Try_except (wpAny_mono (wp_then (P := fun f s' => Post W RF Q fz f s') (h fz s H ht) ht fun fz1 va a o1 s1 k1 H1 t1 r1 q1 => ⟨fz1, a, o1, k1, H1, r1, q1⟩) ?_ fun _ _ x => x.elim)
  rintro f s1 ⟨fz1, a, o1, k1, H1, r1, q1⟩
  cases r1 with
  | next => exact wpAny_execs_nil ⟨fz1, _, o1, k1, H1, .next, q1⟩
  | brk => exact ⟨fz1, _, o1, k1, H1, .brk, q1⟩
  | cont => exact ⟨fz1, _, o1, k1, H1, .cont, q1⟩
  | ret r => exact ⟨fz1, _, o1, k1, H1, .ret r, q1⟩

/-! ### calls whose parameters have drawn tokens -/
/-! ### texts with fields -/
end
section
variable {W : Wd} {A : Around} {env : Env} {own : Own}
/-! ### a block in two parts -/
theorem execs_append (env : Env) : ∀ l1 l2 : List Stmt, execs (l1 ++ l2) env = (execs l1 env >>= fun f => match f with | .next => execs l2 env | f => pure f)
  | [], l2 => by
    have e : execs [] env = pure .next := by unfold execs; rfl
    rw [e, pure_bind]; rfl
  | s :: l1, l2 => by
    have e : ∀ r : List Stmt, execs (s :: r) env = (exec s env >>= fun f => match f with | .next => execs r env | f => pure f) := fun r => by rw [execs]; congr 1
    rw [List.cons_append, e, e, bind_assoc]
    congr 1
    funext f
    cases f <;> first | exact execs_append env l1 l2 | (simp only [pure_bind])
theorem SXs_append {l1 l2 : List Stmt} {Q : Fl → Own → Prop} (h : SXs W A env l1 own (onNext (fun o1 => SXs W A env l2 o1 Q) Q)) : SXs W A env (l1 ++ l2) own Q := fun fz s H ht => by
  unfold At
  rw [execs_append]
  refine wpAny_bind (wp_then (h fz s H ht) ht fun fz1 va a o1 s1 k1 H1 t1 r1 q1 => ?_)
  cases r1 with
  | next => exact At.weak (q1 fz1 s1 H1 t1) k1
  | brk => exact wpAny_pure ⟨fz1, _, o1, k1, H1, .brk, q1⟩
  | cont => exact wpAny_pure ⟨fz1, _, o1, k1, H1, .cont, q1⟩
  | ret r => exact wpAny_pure ⟨fz1, _, o1, k1, H1, .ret r, q1⟩
theorem SXs_splitAt (n : Nat) {l : List Stmt} {Q : Fl → Own → Prop} (h : SXs W A env (l.take n) own (onNext (fun o1 => SXs W A env (l.drop n) o1 Q) Q)) : SXs W A env l own Q := by
  have := SXs_append h
  rwa [List.take_append_drop] at this
end
section
variable {W : Wd} {A : Around} {env : Env} {own : Own}
/-! ### a def within a def -/
/-- a code object's table: empty, or the one code made so far -/
noncomputable def TabP (pos : Pos) (qual : Str) : Heap → Obj → Prop := fun fz o => o = tabObj #[] ∨ ∃ c', o = tabObj #[rawInt pos.line, rawInt pos.col, .ref c'] ∧ fz.CodeRec (.ref c') qual
theorem Hold.prop {fz : Heap} {s : Shared} (H : Hold W fz own s) {a : Addr} {P : Heap → Obj → Prop} (hm : (a, Ob.prop P) ∈ own) : ∃ o fz₀, s.heap.get? a = some o ∧ Keep fz₀ fz ∧ P fz₀ o :=
  let ⟨o, e, fz₀, k, p⟩ := H.get hm; ⟨o, fz₀, e, k, p⟩
/-- what a step that made a code has left -/
theorem Hold.made {fz : Heap} {s : Shared} {own' : Own} {P c' : Addr} {ob ob' : Ob} {h' : Heap} {oP oc : Obj} {k : Nat} (H : Hold W fz own s) (u : Upd P ob ob' own own') (hx : Heap.ExtBut P s.heap h') (hge : s.heap.objs.size ≤ c')
    (hoc : h'.get? c' = some oc) (hf : oc.isFreed = false) (hP : h'.get? P = some oP) (hob : ObIs (putH fz c' oc) ob' oP) (hg : ob'.genOf = none) :
    Keep fz (putH fz c' oc) ∧ Hold W (putH fz c' oc) own' { s with heap := h', toks := k } := by
  have hn : fz.get? c' = none := base_le H.has hge
  have kk := putH_keep (o := oc) hf hn
  refine ⟨kk, ⟨H.base.trans kk, fun b o e => ?_, fun p hp => ?_, fun p hp => ?_, by rw [u.keys]; exact H.nd, H.gens.upd u hg, H.os⟩⟩
  · rw [putH_get hf] at e
    by_cases hb : b = c'
    · subst hb; rw [if_pos rfl] at e; cases e; exact hoc
    · rw [if_neg hb] at e
      exact hx b o (fun q => by have := H.out _ u.mem; rw [q] at e; exact absurd e (by rw [this]; exact fun x => nomatch x)) (H.has b o e)
  · rcases u.other' H.nd p hp with rfl | ⟨h, hne⟩
    · exact ⟨oP, hP, hob⟩
    · obtain ⟨o', e, r⟩ := H.obs p h
      exact ⟨o', hx _ _ hne e, r.mono kk⟩
  · have hlt : p.1 < s.heap.objs.size := by
      rcases u.other' H.nd p hp with rfl | ⟨h, _⟩
      · exact H.lt (p := (P, ob)) u.mem
      · exact H.lt h
    rw [putH_get hf, if_neg (Nat.ne_of_lt (Nat.lt_of_lt_of_le hlt hge))]
    rcases u.other' H.nd p hp with rfl | ⟨h, _⟩
    · exact H.out (P, ob) u.mem
    · exact H.out _ h

theorem notFreed {h : Heap} {a : Addr} {o : Obj} (ho : h.get? a = some o) : o.isFreed = false := by
  have e := ho
  rw [get?_of_objs] at e
  obtain ⟨c, d, dt, sl⟩ := o
  cases dt <;> first | rfl | (exfalso; revert e; cases hq : h.objs[a]? with
    | none => intro e; cases e
    | some x => obtain ⟨c', d', dt', sl'⟩ := x; cases dt' <;> intro e <;> cases e)

theorem Upd.self {a : Addr} {ob : Ob} : ∀ {l : Own}, (a, ob) ∈ l → Upd a ob ob l l
  | p :: l, h => by
    by_cases e : p = (a, ob)
    · subst e; exact .here
    · exact .there (Upd.self (by rcases List.mem_cons.mp h with h | h; exact absurd h.symm e; exact h))
end
section
variable {W : Wd} {A : Around} {env : Env} {own : Own}
/-! ### tabs to blanks -/
end
section
variable {W : Wd} {A : Around} {env : Env} {own : Own}
/-! ### a sign in a text, a text's end struck off, a text repeated, a list copied -/
/-! ### short forms for the macros -/
theorem mth_append {D : Addr} {l : List V} {pl : Sem Bool} {Q : Value × List V → Own → Prop} (hm : (D, Ob.list l) ∈ own) (h : Q (.builtin "list.append", [.ref D]) own) : SMth W A (Str.ofString "append") pl (.ref D) own Q := mth_list hm PySem.F.slot_list_append PySem.F.type_list_append h
end
section
/-! ### a generator's code up to its next yield -/
section
variable {M : Model} {A : Around} {Φ : End → Shared → Prop} {c : Code} {fs : List Frame} {s : Shared}
/-- run on, it comes to an end as told: a yield or a return -/
noncomputable def Sg (M : Model) (A : Around) (Φ : End → Shared → Prop) (c : Code) (t : Sem Fin) (fs : List Frame) (s : Shared) : Prop :=
  ∀ Γ p, Γ.code = c → Γ.Woken A → ∃ e s', Runs M Γ p t fs s e s' ∧ Φ e s'
theorem sg_wrap {α : Type} {m : Sem α} {K : α → Sem Fin} {H : Value → Sem Fin} {gd : Bool → Bool} {lv : List Value → List Value}
    (h : wpAny M (A.over c fs) m (fun a s' => Sg M A Φ c (K a) fs s') (fun x s' => Sg M A Φ c (H x) fs s') s) : Sg M A Φ c (m.wrap K H gd lv) fs s := by
  rintro Γ p rfl hΓ
  exact runs_wrap_of_wp K H gd lv m (h (Γ.over fs) p (hΓ.over fs)) (fun a p' s' h' => h' Γ p' rfl hΓ) (fun x p' s' h' => h' Γ p' rfl hΓ)
theorem sg_at {p' : Pos} {k : Unit → Sem Fin} (h : Sg M A Φ c (k ()) fs s) : Sg M A Φ c (.at p' k) fs s :=
  sg_wrap (m := standAt p') (K := k) (H := .raise) (gd := id) (lv := id) (wpAny_standAt h)
theorem sg_point {l : List Value} {k : Unit → Sem Fin} (h : Sg M A Φ c (k ()) fs s) : Sg M A Φ c (.point l k) fs s :=
  sg_wrap (m := point) (K := k) (H := .raise) (gd := id) (lv := fun _ => l) (wpAny_point h)
theorem sg_call {c' : Code} {h : Option Value} {g : Bool} {l : List Value} {k : Result → Sem Fin} (hc : ∀ p, Sg M A Φ c' (M.den c') (.ret k h g l c p [] :: fs) s) : Sg M A Φ c (.call c' h g l k) fs s := by
  rintro Γ p rfl hΓ
  obtain ⟨e, s', hr, he⟩ := hc p (Γ.goto c') p rfl (hΓ.goto c')
  exact ⟨e, s', runs_call_seg hr, he⟩
theorem sg_leaf {k : Result → Sem Fin} {h : Option Value} {g : Bool} {l : List Value} {c₁ : Code} {p₁ : Pos} {kp : List Value} (r : Result) (hk : Sg M A Φ c₁ (k r) fs s) : Sg M A Φ c (leafOf r) (.ret k h g l c₁ p₁ kp :: fs) s := by
  rintro Γ p rfl hΓ
  obtain ⟨e, s', hr, he⟩ := hk (Γ.goto c₁) p₁ rfl (hΓ.goto c₁)
  exact ⟨e, s', Runs.pop r hr, he⟩
theorem sg_again {c' : Code} (hq : c'.quiet = true) (hc : Sg M A Φ c' (M.den c') fs s) : Sg M A Φ c (.pure (.again c')) fs s := by
  rintro Γ p rfl hΓ
  obtain ⟨e, s', hr, he⟩ := hc (Γ.goto c') p rfl (hΓ.goto c')
  exact ⟨e, s', Runs.head (c₁ := c') (fun _ _ x => .again hq x) hr, he⟩
theorem sg_end (r : Result) (h : Φ (.ret r) s) : Sg M A Φ c (leafOf r) [] s := by
  rintro Γ p rfl _
  exact ⟨.ret r, s, Runs.leaf r, h⟩
theorem sg_yield {v : Value} {g : Bool} {l : List Value} {k : Resume → Sem Fin} (hfs : splitAtGen fs = none) (h : ∀ p, Φ (.susp v g l k c p fs) s) : Sg M A Φ c (.yield v g l k) fs s := by
  rintro Γ p rfl _
  exact ⟨_, s, Runs.yield' fs hfs, h p⟩
end
variable {W : Wd} {A : Around} {env : Env} {own : Own} {Φ : End → Shared → Prop} {fz₀ : Heap} {c : Code} {fs : List Frame}
/-- the same, over the layer's states -/
noncomputable def Gk (W : Wd) (A : Around) (Φ : End → Shared → Prop) (fz₀ : Heap) (c : Code) (fs : List Frame) (t : Sem Fin) (own : Own) : Prop :=
  ∀ fz s, Keep fz₀ fz → Hold W fz own s → W.tk ≤ s.toks → Sg (model W.prog W.w) A Φ c t fs s
theorem Gk.perm {t : Sem Fin} {own' : Own} (k : own.Perm own') (h : Gk W A Φ fz₀ c fs t own') : Gk W A Φ fz₀ c fs t own := fun fz s k0 H ht => h fz s k0 (H.perm k) ht
theorem Gk.wk {t : Sem Fin} {own' : Own} (k : Wk own own') (h : Gk W A Φ fz₀ c fs t own') : Gk W A Φ fz₀ c fs t own := fun fz s k0 H ht => h fz s k0 (k.hold H) ht
section
variable {K : Flow → Sem Fin} {H : Value → Sem Fin} {gd : Bool → Bool} {lv : List Value → List Value}
noncomputable abbrev kNext (env : Env) (rest : List Stmt) (K : Flow → Sem Fin) (H : Value → Sem Fin) (gd : Bool → Bool) (lv : List Value → List Value) : Flow → Sem Fin := fun f => match f with
  | .next => (execs rest env).wrap K H gd lv
  | f => K f
theorem gk_nil (h : Gk W A Φ fz₀ c fs (K .next) own) : Gk W A Φ fz₀ c fs ((execs [] env).wrap K H gd lv) own := h
theorem gk_cons {st : Stmt} {rest : List Stmt} (h : Gk W A Φ fz₀ c fs ((exec st env).wrap (kNext env rest K H gd lv) H gd lv) own) : Gk W A Φ fz₀ c fs ((execs (st :: rest) env).wrap K H gd lv) own := fun fz s k0 Ho ht => by
  rw [execs_cons_wrap]
  exact h fz s k0 Ho ht
/-- a statement that yields nothing -/
theorem gk_plain {st : Stmt} (h : SX W (A.over c fs) env st own (fun fl o => fl = .next ∧ Gk W A Φ fz₀ c fs (K .next) o)) : Gk W A Φ fz₀ c fs ((exec st env).wrap K H gd lv) own := fun fz s k0 Ho ht => by
  refine sg_wrap (wpAny_mono (E := NoX) (wp_then (h fz s Ho ht) ht fun fz1 va a o1 s1 k1 H1 t1 r1 q1 => ?_) (fun _ _ x => x) fun _ _ x => x.elim)
  obtain ⟨rfl, q⟩ := q1
  cases r1
  exact q fz1 s1 (k0.trans k1) H1 t1
theorem gk_cont {pos : Pos} (h : Gk W A Φ fz₀ c fs (K .cont) own) : Gk W A Φ fz₀ c fs ((exec (.Continue pos) env).wrap K H gd lv) own := fun fz s k0 Ho ht =>
  sg_at (h fz s k0 Ho ht)
theorem gk_if {test : Expr} {b o : List Stmt} {pos : Pos} (h : ST W (A.over c fs) env test own fun r o1 => if r then Gk W A Φ fz₀ c fs ((execs b env).wrap K H gd lv) o1 else Gk W A Φ fz₀ c fs ((execs o env).wrap K H gd lv) o1) :
    Gk W A Φ fz₀ c fs ((exec (.If test b o pos) env).wrap K H gd lv) own := fun fz s k0 Ho ht => by
  rw [exec_If]
  refine sg_at ?_
  show Sg _ _ _ _ (Sem.wrap K H gd lv (isTrue test env (eval test env) >>= _)) _ _
  rw [Sem.bind_eq_wrap', Sem.wrap_wrap]
  refine sg_wrap (wpAny_mono (E := NoX) (wp_then (h fz s Ho ht) ht fun fz1 va a o1 s1 k1 H1 t1 r1 q1 => ?_) (fun _ _ x => x) fun _ _ x => x.elim)
  subst r1
  cases va
  · exact q1 fz1 s1 (k0.trans k1) H1 t1
  · exact q1 fz1 s1 (k0.trans k1) H1 t1
/-- a yield: what stands behind it goes on as K tells -/
theorem gk_yield {e : Expr} {ypos pos : Pos} (hfs : splitAtGen fs = none) (h : SE W (A.over c fs) env e own fun a o1 => ∀ fz s v l k p, Keep fz₀ fz → Hold W fz o1 s → W.tk ≤ s.toks → RV fz a v → k (.send .none) = K .next → Φ (.susp v (gd false) l k c p fs) s)
    (hco : env.scope.isCoroutine = false := by rfl) (hi : interactive env = false := by rfl) : Gk W A Φ fz₀ c fs ((exec (.Expr (.Yield (some e) ypos) pos) env).wrap K H gd lv) own := fun fz s k0 Ho ht => by
  rw [exec_Expr env _ pos hi rfl]
  show Sg _ A Φ c (.at pos fun _ => ((eval e env >>= fun v => (standAt ypos >>= fun _ => yieldOut env v)) >>= fun x => dropValue (.Yield (some e) ypos) pos x).wrap K H gd lv) fs s
  have hy : ∀ v, yieldOut env v = yieldValue v := fun v => by simp only [yieldOut, hco, Bool.false_eq_true, if_false]
  simp only [hy]
  refine sg_at ?_
  rw [Sem.bind_eq_wrap', Sem.bind_eq_wrap', Sem.wrap_wrap, Sem.wrap_wrap]
  refine sg_wrap (wpAny_mono (E := NoX) (wp_then (h fz s Ho ht) ht fun fz1 va a o1 s1 k1 H1 t1 r1 q1 => ?_) (fun _ _ x => x) fun _ _ x => x.elim)
  refine sg_at (sg_yield hfs fun p => ?_)
  exact q1 fz1 s1 va _ _ p (k0.trans k1) H1 t1 r1 rfl
/-- what stands behind a loop's end -/
noncomputable abbrev kBack (env : Env) (K : Flow → Sem Fin) (H : Value → Sem Fin) (gd : Bool → Bool) (lv : List Value → List Value) : Result → Sem Fin := fun r =>
  ((match r with | .ok f => (.pure f : Sem Flow) | .error e => .raise e).onRaise fun (x : Value) => do
    if (← field x 1) == Value.none then unsupported "frame.own-activation:exception-without-traceback"
    setFlight x env.frame).wrap K H gd lv
theorem gk_while {test : Expr} {body : List Stmt} {pos : Pos} (h : ∀ p, Gk W A Φ fz₀ (.whileLoop test body [] env) (.ret (kBack env K H gd lv) none (gd false) (lv []) c p [] :: fs) ((model W.prog W.w).den (.whileLoop test body [] env)) own) :
    Gk W A Φ fz₀ c fs ((exec (.While test body [] pos) env).wrap K H gd lv) own := fun fz s k0 Ho ht => sg_at (sg_call fun p => h p fz s k0 Ho ht)
theorem gk_for {target iter : Expr} {body : List Stmt} {pos : Pos} (h : SE W (A.over c fs) env iter own fun a o1 => S1 W (A.over c fs) RV pyIter a o1 fun b o2 => ∃ it, b = .ref it ∧
      ∀ p, Gk W A Φ fz₀ (.forLoop target (.ref it) body [] env) (.ret (kBack env K H gd lv) none (gd false) (lv []) c p [] :: fs) ((model W.prog W.w).den (.forLoop target (.ref it) body [] env)) o2)
    (hs : ∀ x, foldedSetIterable iter env x = pure x := by intro _; rfl) : Gk W A Φ fz₀ c fs ((exec (.For target iter body [] pos) env).wrap K H gd lv) own := fun fz s k0 Ho ht => by
  rw [exec_For]
  refine sg_at ?_
  show Sg _ _ _ _ (Sem.wrap K H gd lv (eval iter env >>= _)) _ _
  rw [Sem.bind_eq_wrap', Sem.wrap_wrap]
  refine sg_wrap (wpAny_mono (E := NoX) (wp_then (h fz s Ho ht) ht fun fz1 va a o1 s1 k1 H1 t1 r1 q1 => ?_) (fun _ _ x => x) fun _ _ x => x.elim)
  show Sg _ _ _ _ (Sem.wrap K H gd lv (foldedSetIterable iter env va >>= _)) _ _
  rw [hs, pure_bind]
  refine sg_at ?_
  show Sg _ _ _ _ (Sem.wrap K H gd lv (holding [va] (pyIter va) >>= _)) _ _
  rw [Sem.bind_eq_wrap', Sem.wrap_wrap]
  refine sg_wrap (wpAny_holding (wpAny_mono (E := NoX) (wp_then (q1 fz1 s1 va H1 t1 r1) t1 fun fz2 vb b o2 s2 k2 H2 t2 r2 q2 => ?_) (fun _ _ x => x) fun _ _ x => x.elim))
  obtain ⟨it, rfl, q2⟩ := q2
  cases r2.val_inv
  exact sg_call fun p => q2 p fz2 s2 (k0.trans (k1.trans k2)) H2 t2
end
/-- a leaf into the frame below -/
theorem gk_leaf {k : Result → Sem Fin} {h : Option Value} {g : Bool} {l : List Value} {c₁ : Code} {p₁ : Pos} {kp : List Value} {f : Flow} (hk : Gk W A Φ fz₀ c₁ fs (k (.ok f)) own) : Gk W A Φ fz₀ c (.ret k h g l c₁ p₁ kp :: fs) (.pure (.done f)) own :=
  fun fz s k0 Ho ht => sg_leaf (.ok f) (hk fz s k0 Ho ht)
theorem gk_back {K : Flow → Sem Fin} {H : Value → Sem Fin} {gd : Bool → Bool} {lv : List Value → List Value} {f : Flow} (h : Gk W A Φ fz₀ c fs (K f) own) : Gk W A Φ fz₀ c fs (kBack env K H gd lv (.ok f)) own := h
theorem gk_again {c' : Code} (hq : c'.quiet = true) (h : Gk W A Φ fz₀ c' fs ((model W.prog W.w).den c') own) : Gk W A Φ fz₀ c fs (.pure (.again c')) own :=
  fun fz s k0 Ho ht => sg_again hq (h fz s k0 Ho ht)
theorem gk_end {f : Flow} (h : ∀ fz s, Keep fz₀ fz → Hold W fz own s → W.tk ≤ s.toks → Φ (.ret (.ok f)) s) : Gk W A Φ fz₀ c [] (.pure (.done f)) own :=
  fun fz s k0 Ho ht => sg_end (.ok f) (h fz s k0 Ho ht)
/-- what a loop's turn does with a raise -/
noncomputable abbrev hTurn (env : Env) : Value → Sem Fin := fun e => (do noteFrame e env; theTreesLotGoes e : Sem Unit).wrap (fun _ => .raise e) .raise id id
noncomputable abbrev kTurn (c : Code) : Flow → Sem Fin := fun f => match f with
  | .next | .cont => .pure (.again c)
  | .brk => .pure (.done .next)
  | .ret v => .pure (.done (.ret v))
theorem gk_whileTurn {test : Expr} {body : List Stmt} (h : ST W (A.over (.whileLoop test body [] env) fs) env test own fun r o1 => if r then Gk W A Φ fz₀ (.whileLoop test body [] env) fs ((execs body env).wrap (kTurn (.whileLoop test body [] env)) (hTurn env) id id) o1 else Gk W A Φ fz₀ (.whileLoop test body [] env) fs (.pure (.done .next)) o1) :
    Gk W A Φ fz₀ (.whileLoop test body [] env) fs ((model W.prog W.w).den (.whileLoop test body [] env)) own := fun fz s k0 Ho ht => by
  show Sg _ A Φ _ ((whileTurn test body [] env).onRaise (fun x => do noteFrame x env; theTreesLotGoes x)) fs s
  unfold whileTurn
  rw [Sem.onRaise_eq_wrap, Sem.bind_eq_wrap', Sem.wrap_wrap]
  refine sg_wrap (wpAny_mono (E := NoX) (wp_then (h fz s Ho ht) ht fun fz1 va a o1 s1 k1 H1 t1 r1 q1 => ?_) (fun _ _ x => x) fun _ _ x => x.elim)
  subst r1
  cases va with
  | false => exact q1 fz1 s1 (k0.trans k1) H1 t1
  | true =>
    have q := (show Gk W A Φ fz₀ (.whileLoop test body [] env) fs _ o1 from q1) fz1 s1 (k0.trans k1) H1 t1
    show Sg _ A Φ _ (Sem.wrap _ _ _ _ (if true = true then _ else _)) fs s1
    rw [if_pos rfl, Sem.bind_eq_wrap', Sem.wrap_wrap]
    rw [Sem.wrap_congr (execs body env) _ _ (K' := kTurn (.whileLoop test body [] env)) (H' := hTurn env) (fun f => by cases f <;> rfl)
      (fun e => by first | exact Sem.bind_eq_wrap _ _ | (show (do noteFrame e env; theTreesLotGoes e : Sem Unit).bind (fun _ => .raise e) = _; rw [Sem.bind_eq_wrap]))]
    exact q
end
section
variable {W : Wd} {A : Around} {env : Env} {own : Own}
/-! ### a list's iterator that many read -/
noncomputable def LItP (l : List V) : Heap → Obj → Prop := fun fz o => o.cls = .type "list_iterator" ∧
  ((∃ a vs, ∃ i : Nat, fz.IsList a vs ∧ RVs fz l (vs.toList.drop i) ∧ o.data = .fields #[.ref a, .int i 0]) ∨ (l = [] ∧ ∃ k, o.data = .fields #[.none, k]))
theorem lit_end {prog : Program} {w : World} {E : Value → Shared → Prop} {s : Shared} {it l : Addr} {i : Nat} {items : Array Value} {Q : Option Value → Shared → Prop} (hh : A.handled = none)
    (hit : s.heap.IsListIter it l i) (hl : s.heap.IsList l items) (hx : items[i]? = none)
    (hQ : ∀ h' o', Heap.ExtBut it s.heap h' → h'.get? it = some o' → o'.cls = .type "list_iterator" → o'.data = .fields #[.none, .int i 0] → Q none { s with heap := h' }) : wpAny (model prog w) A (pyNext (.ref it)) Q E s := by
  obtain ⟨o, ho, hc, hd⟩ := id hit
  obtain ⟨ol, hol, _, nl, hdl⟩ := hl
  unfold pyNext
  refine wpAny_bind (wpAny_attempt (wpAny_callSpecial?_slot (name := Str.ofString "__next__") hit.typeIs slot_listiter_next
    (wpAny_call_entry slot_listiter_next hit.typeIs entry_listiter_next ?_ (args_listiter_next _))))
  show wpAny _ _ (field (.ref it) 0 >>= _) _ _ s
  refine wpAny_bind (wpAny_field ho hd (x := .ref l) rfl ?_)
  show wpAny _ _ (if (Value.ref l == Value.none) = true then _ else _) _ _ s
  rw [if_neg (show ¬ ((Value.ref l == Value.none) = true) from Bool.false_ne_true)]
  show wpAny _ _ (field (.ref it) 1 >>= _) _ _ s
  refine wpAny_bind (wpAny_field ho hd (x := .int i 0) rfl ?_)
  show wpAny _ _ (seqItems? (.ref l) >>= _) _ _ s
  refine wpAny_bind (wpAny_seqItems hol hdl ?_)
  simp only [Int.toNat_natCast, hx]
  refine wpAny_bind (wpAny_rule (wpAny_bind (wpAny_setField ho hd (by simp) ?_)))
  show wpAny _ _ (newExc (.type "StopIteration") [] >>= _) _ _ _
  refine wpAny_bind ?_
  simp only [newExc, newTuple]
  refine wpAny_bind (wpAny_newObj_type ?_ (by size_fits))
  refine wpAny_bind (m := firstArgMember _ _) (wpAny_of_eq (a := Value.none) (by first | rfl | (simp only [firstArgMember]; rfl)) ?_)
  refine wpAny_newObj_type ?_ (by size_fits)
  simp only [raiseNew]
  refine wpAny_bind (wpAny_handled ?_)
  rw [show A.in1.handled = none from hh]
  refine wpAny_bind (wpAny_pure (wpAny_throw ?_))
  refine wpAny_bind (wpAny_isInstance (T := "StopIteration") (b := true) ⟨_, Heap.get?_push_size _ rfl, rfl⟩ isSubtype_stop ?_)
  have hd₃ := Obj.data_mapFields hd (·.setIfInBounds 0 Value.none)
  have he := Heap.get?_update_self (Obj.mapFields (·.setIfInBounds 0 Value.none)) ho (Obj.isFreed_of_fields hd₃)
  exact wpAny_pure (hQ _ _ (((Heap.SameBut.update ..).extBut.push _).push _) (Heap.get?_push_of_some _ (Heap.get?_push_of_some _ he)) (by obtain ⟨c, d, dt, sl⟩ := o; cases dt <;> exact hc) (by rw [hd₃]; rfl))
theorem Hold.extBut' {fz : Heap} {s : Shared} {own' : Own} {a : Addr} {ob ob' : Ob} (H : Hold W fz own s) (u : Upd a ob ob' own own') {h' : Heap} {k : Nat} (he : Heap.ExtBut a s.heap h') {o : Obj} (ho : h'.get? a = some o) (hob : ObIs fz ob' o) (hg : ob'.genOf = none := by rfl) :
    Hold W fz own' { s with heap := h', toks := k } where
  base := H.base
  has := fun b o e => he b o (fun hb => by have := H.out _ u.mem; rw [hb] at e; exact absurd e (by rw [this]; exact fun x => nomatch x)) (H.has b o e)
  obs := fun p hp => by
    rcases u.other' H.nd p hp with rfl | ⟨h, hne⟩
    · exact ⟨o, ho, hob⟩
    · obtain ⟨o', e, r⟩ := H.obs p h
      exact ⟨o', he _ _ hne e, r⟩
  out := fun p hp => by
    rcases u.other' H.nd p hp with rfl | ⟨h, _⟩
    · exact H.out (a, ob) u.mem
    · exact H.out p h
  nd := by rw [u.keys]; exact H.nd
  gens := H.gens.upd u hg
  os := H.os
theorem lit_some {a : Addr} {x : V} {l : List V} {fz : Heap} {s : Shared} {own' : Own} {P : Option Value → Shared → Prop} (H : Hold W fz own s) (u : Upd a (.prop (LItP (x :: l))) (.prop (LItP l)) own own')
    (q : ∀ v s', Hold W fz own' s' → s.toks ≤ s'.toks → RV fz x v → P (some v) s') : wpAny (model W.prog W.w) A (pyNext (.ref a)) P NoX s := by
  obtain ⟨o, ho, fz₀, k, hc, h⟩ := H.get u.mem
  rcases h with ⟨b, vs, i, hl, rs, hd⟩ | ⟨e, _⟩
  · obtain ⟨v, e, rx, rl⟩ := rvs_drop rs
    refine wpAny_pyNext_list_item (l := b) (i := i) ⟨o, ho, hc, hd⟩ (IsList_keep (IsList_keep hl k) H.has) (by rw [← Array.getElem?_toList]; exact e) fun h' ⟨o', ho', hc', hd'⟩ hs' => ?_
    exact q v _ (H.set (k := s.toks) u hs' ho' ⟨fz₀, k, hc', .inl ⟨b, vs, i + 1, hl, rl, hd'⟩⟩) (Nat.le_refl _) (rx.mono k)
  · cases e
theorem lit_none {a : Addr} {fz : Heap} {s : Shared} {P : Option Value → Shared → Prop} (hh : A.handled = none) (H : Hold W fz own s) (hm : (a, Ob.prop (LItP [])) ∈ own)
    (q : ∀ s', Hold W fz own s' → s.toks ≤ s'.toks → P none s') : wpAny (model W.prog W.w) A (pyNext (.ref a)) P NoX s := by
  obtain ⟨o, ho, fz₀, k, hc, h⟩ := H.get hm
  rcases h with ⟨b, vs, i, hl, rs, hd⟩ | ⟨_, kv, hd⟩
  · refine lit_end hh (l := b) (i := i) ⟨o, ho, hc, hd⟩ (IsList_keep (IsList_keep hl k) H.has) (by rw [← Array.getElem?_toList]; exact rvs_drop_nil rs) fun h' o' he ho' hc' hd' => ?_
    exact q _ (H.extBut' (k := s.toks) (Upd.self hm) he ho' ⟨fz₀, k, hc', .inr ⟨rfl, _, hd'⟩⟩) (Nat.le_refl _)
  · exact next_over hh ho hc hd fun h' hk => q _ (H.grow (k := s.toks) hk) (Nat.le_refl _)
theorem lit_iter {a : Addr} {l : List V} {Q : V → Own → Prop} (hm : (a, Ob.prop (LItP l)) ∈ own) (h : Q (.ref a) own) : S1 W A RV pyIter (.ref a) own Q := fun fz s v H ht r => by
  cases r.val_inv
  obtain ⟨o, ho, fz₀, k, hc, _⟩ := H.get hm
  have hT : s.TypeIs (.ref a) "list_iterator" := ⟨o, ho, hc⟩
  refine wpAny_pyIter_slot hT slot_listiter_iter (wpAny_call_entry slot_listiter_iter hT entry_listiter_iter ?_ (args_listiter_iter _))
  show wpAny _ _ (ret (.ref a)) _ _ s
  exact wpAny_pure ⟨_, rfl, "list_iterator", _, hT, slot_listiter_next.lookup, ⟨fz, _, own, .refl _, H, .val _, h⟩⟩
/-! ### generators -/
noncomputable def Wake (M : Model) (A : Around) (Φ : End → Shared → Prop) (gs : GenState) (s : Shared) : Prop := match gs with
  | .fresh c => Sg M A Φ c (M.den c) [] s
  | .suspended k _ c _ fs _ => Sg M A Φ c (k (.send .none)) fs s
  | _ => False
theorem resume1 {M : Model} {E : Value → Shared → Prop} {s : Shared} {g : Nat} {gs : GenState} {l : List Value} {α : Type} {k : GenResult → Sem α} {Q : α → Shared → Prop} {Φ : End → Shared → Prop} (hg : s.gens[g]? = some gs)
    (hw : Wake M A Φ gs (s.setGen g .running)) (hq : ∀ e s', Φ e s' → e.quiet = true) (post : ∀ e₁ s₁, Φ e₁ s₁ → wpAny M A (k e₁.result) Q E (s₁.setGen g e₁.genState)) : wpAny M A (.resume g (.send .none) l k) Q E s := by
  intro Γ p hΓ
  rw [Sem.wp_resume]
  have hB : ∀ c, (Γ.wake c p).Woken A := fun c => hΓ.wake c p
  cases gs with
  | fresh c =>
    obtain ⟨e₁, s₁, hr, he⟩ := hw (Γ.wake c p) p rfl (hB c)
    exact ⟨_, _, by unfold Wakes; rw [hg]; exact ⟨e₁, s₁, hr, hq e₁ s₁ he, rfl, rfl⟩, post e₁ s₁ he Γ p hΓ⟩
  | suspended k₀ l₀ c₀ p₀ fs₀ cl =>
    obtain ⟨e₁, s₁, hr, he⟩ := hw (Γ.wake c₀ p) p₀ rfl (hB c₀)
    exact ⟨_, _, by unfold Wakes; rw [hg]; exact ⟨e₁, s₁, hr, hq e₁ s₁ he, rfl, rfl⟩, post e₁ s₁ he Γ p hΓ⟩
  | running => exact hw.elim
  | finished => exact hw.elim
theorem gens_set_ne {gs : Array GenState} {g g' : Nat} {x : GenState} (h : g' ≠ g) : (gs.setIfInBounds g x)[g']? = gs[g']? := Array.getElem?_setIfInBounds_ne (Ne.symm h)
theorem bare_set {gs : Array GenState} {g : Nat} {x : GenState} (h : AllBare gs) (hx : x.bare = true) : AllBare (gs.setIfInBounds g x) := fun y hy => by
  rcases Array.mem_or_eq_of_mem_setIfInBounds hy with h1 | h1
  · exact h y h1
  · rw [h1]; exact hx
/-- a generator's state is turned -/
theorem Hold.setGen {fz : Heap} {s : Shared} {ga : Addr} {g : Nat} {P P' : GenState → Prop} {x : GenState} (H : Hold W fz ((ga, .gen g P) :: own) s) (hb : x.bare = true) (hx : P' x) : Hold W fz ((ga, .gen g P') :: own) (s.setGen g x) := by
  obtain ⟨y, hy, _⟩ := H.gens.st _ List.mem_cons_self g P rfl
  have hlt : g < s.gens.size := by
    by_cases h : g < s.gens.size
    · exact h
    · rw [Array.getElem?_eq_none (Nat.not_lt.mp h)] at hy; cases hy
  have nd := H.gens.nd
  rw [List.filterMap_cons, show (ga, Ob.gen g P).2.genOf = some g from rfl] at nd
  have nd2 := List.nodup_cons.mp nd
  refine ⟨H.base, H.has, fun p hp => ?_, fun p hp => ?_, H.nd, ⟨bare_set H.gens.bare hb, fun p hp g' Q e => ?_, ?_⟩, H.os⟩
  · rcases List.mem_cons.mp hp with rfl | hp
    · exact H.obs (ga, .gen g P) List.mem_cons_self
    · exact H.obs p (List.mem_cons_of_mem _ hp)
  · rcases List.mem_cons.mp hp with rfl | hp
    · exact H.out (ga, .gen g P) List.mem_cons_self
    · exact H.out p (List.mem_cons_of_mem _ hp)
  · rcases List.mem_cons.mp hp with rfl | hp
    · cases e
      exact ⟨x, Array.getElem?_setIfInBounds_self_of_lt hlt, hx⟩
    · have hne : g' ≠ g := fun e' => nd2.1 (List.mem_filterMap.mpr ⟨p, hp, by rw [e]; exact congrArg some e'⟩)
      obtain ⟨z, hz, hq⟩ := H.gens.st p (List.mem_cons_of_mem _ hp) g' Q e
      exact ⟨z, (gens_set_ne hne).trans hz, hq⟩
  · rw [List.filterMap_cons, show (ga, Ob.gen g P').2.genOf = some g from rfl]; exact nd
theorem Hold.isGen {fz : Heap} {s : Shared} (H : Hold W fz own s) {ga : Addr} {g : Nat} {P : GenState → Prop} (hm : (ga, Ob.gen g P) ∈ own) : s.heap.IsGen ga g := by
  obtain ⟨o, ho, hc, ⟨nm, qn, hd⟩, hs⟩ := H.get hm
  exact ⟨o, nm, qn, ho, hc, hd, hs⟩
/-- a generator is made -/
theorem do_callG {f : Addr} {args : List V} {Q : V → Own → Prop} {name qual : Str} {params : Arguments} {body : List Stmt} {scope : Scope} {dV kV doc pm cdv ct oc : Value} {an od : Option Addr} {osl : Array (Option Value)}
    (names : List Str) (ho : W.K.lookup f = some ⟨oc, od, .func (fnOf name qual params body scope dV kV doc pm an cdv ct), osl⟩) (hcd : codeIn W.K cdv qual = true) (hroom : A.depth < recursionLimit)
    (hb : ∀ s vs, W.K.In s.heap → vs.length = args.length → BindsTo s (fnOf name qual params body scope dV kV doc pm an cdv ct) ⟨vs, []⟩ (names.zip vs))
    (hloc : ∀ y ∈ names, scope.names.lookup y = some .local) (nd : names.Nodup)
    (P : Addr → GenState → Prop) (hP : ∀ L, P L (.fresh (.func body (envX qual scope L f cdv [])))) (h : ∀ L ga g, Q (.ref ga) ((ga, .gen g (P L)) :: (L, .ns (names.zip args)) :: own))
    (hco : scope.isCoroutine = false) (hgen : scope.isGenerator = true) (hk : scope.kind = .function)
    (hcell : ∀ x ∈ scope.names, x.2 ≠ .cell) : SLC W A (.ref f) args own Q := fun fz s vs H ht rs => by
  have ndz : ((names.zip vs).map (·.1)).Nodup := nd.sublist zip_fst
  refine codeAny_call_generator (fd := fnOf name qual params body scope dV kV doc pm an cdv ct) (body := body) hroom (H.kin _ _ ho) rfl hco hgen rfl (codeRec_of H.kin hcd) (hb s vs H.kin rs.length.symm _ _ _ _ ?_)
  refine wpAny_newFunctionEnv hcell (fun x hx => hloc _ (List.of_mem_zip (show (x.1, x.2) ∈ names.zip vs from hx)).1) (fun h₁ hns hsb => ?_) hk
  have hk₁ : Keep s.heap h₁ := fun b o e => hsb.extBut b o (Nat.ne_of_lt (Heap.lt_size e)) (Heap.get?_push_of_some _ e)
  refine ⟨(W.top.nolimit.keeps H.keep).keeps hk₁, ?_⟩
  obtain ⟨o, ho', hob⟩ := of_ns (fz := fz) (loc := names.zip args) hns (fun p hp => by
    obtain ⟨v, e, r⟩ := zip_lookup rs nd p hp
    exact ⟨v, by rw [lookup_reverse ndz]; exact e, r⟩)
  have H₁ : Hold W fz ((s.heap.objs.size, .ns (names.zip args)) :: own) { s with heap := h₁, toks := s.toks + (names.zip vs).length } := H.new hk₁ (get?_ge (Nat.le_refl _)) ho' hob
  refine ⟨fz, _, _, .refl _, ?_, .val _, h s.heap.objs.size h₁.objs.size s.gens.size⟩
  have hfr : h₁.get? h₁.objs.size = none := get?_ge (Nat.le_refl _)
  obtain ⟨o1, o2⟩ := off_of H₁ hfr
  have hgl : ∀ p ∈ ((s.heap.objs.size, Ob.ns (names.zip args)) :: own : Own), ∀ g P, p.2 = .gen g P → g < s.gens.size := fun p hp g P e => by
    obtain ⟨x, hx, _⟩ := H₁.gens.st p hp g P e
    have hx' : s.gens[g]? = some x := hx
    by_cases hlt : g < s.gens.size
    · exact hlt
    · rw [Array.getElem?_eq_none (Nat.not_lt.mp hlt)] at hx'; cases hx'
  refine ⟨H₁.base, fun b o e => Heap.get?_push_of_some _ (H₁.has b o e), fun p hp => ?_, fun p hp => ?_, ?_, ⟨H₁.gens.bare.push rfl, fun p hp g P' e => ?_, ?_⟩, H₁.os⟩
  · rcases List.mem_cons.mp hp with rfl | hp
    · exact ⟨_, Heap.get?_push_size _ rfl, rfl, ⟨_, _, rfl⟩, rfl⟩
    · obtain ⟨o', e, r⟩ := H₁.obs p hp; exact ⟨o', Heap.get?_push_of_some _ e, r⟩
  · rcases List.mem_cons.mp hp with rfl | hp
    · exact o1
    · exact H₁.out p hp
  · rw [List.map_cons, List.nodup_cons]
    exact ⟨fun hm => by obtain ⟨p, hp, e⟩ := List.mem_map.mp hm; exact o2 p hp e, H₁.nd⟩
  · rcases List.mem_cons.mp hp with rfl | hp
    · cases e
      exact ⟨_, Array.getElem?_push_size, hP _⟩
    · obtain ⟨x, hx, hq⟩ := H₁.gens.st p hp g P' e
      have hlt := hgl p hp g P' e
      exact ⟨x, by rw [Array.getElem?_push_lt hlt]; exact (Array.getElem?_eq_getElem hlt).symm.trans hx, hq⟩
  · rw [List.filterMap_cons, show (h₁.objs.size, Ob.gen s.gens.size (P s.heap.objs.size)).2.genOf = some s.gens.size from rfl]
    refine List.nodup_cons.mpr ⟨fun hm => ?_, H₁.gens.nd⟩
    obtain ⟨p, hp, e⟩ := List.mem_filterMap.mp hm
    obtain ⟨pa, po⟩ := p
    cases po <;> first | (cases e; done) | skip
    rename_i g P'
    have e' : some g = some s.gens.size := e
    have := hgl _ hp g P' rfl
    cases e'
    exact Nat.lt_irrefl _ this
end
section
variable {W : Wd} {A : Around} {env : Env} {own : Own} {Φ : End → Shared → Prop} {fz₀ : Heap} {fs : List Frame}
/-! ### a generator's for over a shared iterator -/
theorem let_goL {prog : Program} {w : World} {E : Value → Shared → Prop} {s : Shared} {o : Obj} {it : Addr} {v : Value} {target : Expr} {Q : Unit → Shared → Prop} (ho : s.heap.get? it = some o) (hc : o.cls = .type "list_iterator") (h : Q () s) :
    wpAny (model prog w) A (letOwnedTupleGo target (.ref it) v) Q E s := by
  unfold letOwnedTupleGo
  have key : wpAny (model prog w) A (do
      let (.ref r, .ref a) := ((Value.ref it), v) | return
      let o ← load r
      match o.cls, o.data with
      | .type n, .fields vs =>
        if ["enumerate", "zip", "dict_itemiterator", "dict_reverseitemiterator", "odict_iterator", "itertools.zip_longest", "itertools.pairwise"].contains n && vs[0]? == some (rawInt a) then
          rule "for.unpacks-the-owned-tuple"
          updateField r 0 .none
      | _, _ => pure ()) Q E s := by
    cases v with
    | ref a =>
      show wpAny _ _ (load it >>= _) _ _ _
      refine wpAny_bind (wpAny_load ho ?_)
      obtain ⟨c, d, dt, sl⟩ := o
      cases hc
      cases dt <;> first
        | exact wpAny_pure h
        | (dsimp only; rw [show (["enumerate", "zip", "dict_itemiterator", "dict_reverseitemiterator", "odict_iterator", "itertools.zip_longest", "itertools.pairwise"].contains "list_iterator") = false by decide, Bool.false_and, if_neg Bool.false_ne_true]; exact wpAny_pure h)
    | _ => exact wpAny_pure h
  cases target <;> first | exact key | exact wpAny_pure h
theorem den_for (target : Expr) (it : Value) (body : List Stmt) (env : Env) : (model W.prog W.w).den (.forLoop target it body [] env) = ((forTurn target it body [] env).onRaise (fun x => do noteFrame x env; theTreesLotGoes x)) := rfl
theorem gk_for_none {target : Expr} {it : Addr} {body : List Stmt} (hh : (A.over (.forLoop target (.ref it) body [] env) fs).handled = none) (hm : (it, Ob.prop (LItP [])) ∈ own) (h : Gk W A Φ fz₀ (.block [] env) fs (.pure (.done .next)) own) :
    Gk W A Φ fz₀ (.forLoop target (.ref it) body [] env) fs ((model W.prog W.w).den (.forLoop target (.ref it) body [] env)) own := fun fz s k0 Ho ht => by
  rw [den_for]
  unfold forTurn
  rw [Sem.onRaise_eq_wrap]
  refine sg_at ?_
  show Sg _ _ _ _ (Sem.wrap _ _ _ _ ((pyNext (.ref it)).onRaise _ >>= _)) _ _
  rw [Sem.bind_eq_wrap', Sem.wrap_wrap]
  refine sg_wrap (wpAny_onRaise (wpAny_mono (E := NoX) (lit_none (P := fun r s' => r = none ∧ Hold W fz own s' ∧ W.tk ≤ s'.toks) hh Ho hm fun s' H' t' => ⟨rfl, H', Nat.le_trans ht t'⟩) ?_ fun _ _ x => x.elim))
  rintro r s' ⟨rfl, H', t'⟩
  exact sg_again rfl (h fz s' k0 H' t')
theorem gk_for_some {target : Expr} {it : Addr} {body : List Stmt} {x : V} {r : List V} {own' : Own} (u : Upd it (.prop (LItP (x :: r))) (.prop (LItP r)) own own')
    (h : SA W (A.over (.forLoop target (.ref it) body [] env) fs) env target x own' fun o2 => Gk W A Φ fz₀ (.forLoop target (.ref it) body [] env) fs ((execs body env).wrap (kTurn (.forLoop target (.ref it) body [] env)) (hTurn env) id id) o2) :
    Gk W A Φ fz₀ (.forLoop target (.ref it) body [] env) fs ((model W.prog W.w).den (.forLoop target (.ref it) body [] env)) own := fun fz s k0 Ho ht => by
  rw [den_for]
  unfold forTurn
  rw [Sem.onRaise_eq_wrap]
  refine sg_at ?_
  show Sg _ _ _ _ (Sem.wrap _ _ _ _ ((pyNext (.ref it)).onRaise _ >>= _)) _ _
  rw [Sem.bind_eq_wrap', Sem.wrap_wrap]
  refine sg_wrap (wpAny_onRaise (wpAny_mono (E := NoX) (lit_some (P := fun q s' => ∃ v, q = some v ∧ Hold W fz own' s' ∧ W.tk ≤ s'.toks ∧ RV fz x v) Ho u fun v s' H' t' rx => ⟨v, rfl, H', Nat.le_trans ht t', rx⟩) ?_ fun _ _ x => x.elim))
  rintro q s' ⟨v, rfl, H', t', rx⟩
  obtain ⟨ob, hob, fz1, _, hc, _⟩ := H'.get u.mem'
  show Sg _ _ _ _ (Sem.wrap _ _ _ _ (letOwnedTupleGo target (.ref it) v >>= _)) _ _
  rw [Sem.bind_eq_wrap', Sem.wrap_wrap]
  refine sg_wrap (let_goL hob hc ?_)
  show Sg _ _ _ _ (Sem.wrap _ _ _ _ (assign target env v >>= _)) _ _
  rw [Sem.bind_eq_wrap', Sem.wrap_wrap]
  refine sg_wrap (wpAny_mono (E := NoX) (wp_then (h fz s' v H' t' rx) t' fun fz2 _ _ o2 s2 k2 H2 t2 _ q2 => ?_) (fun _ _ x => x) fun _ _ x => x.elim)
  have q := q2 fz2 s2 (k0.trans k2) H2 t2
  show Sg _ _ _ _ (Sem.wrap _ _ _ _ (execs body env >>= _)) _ _
  rw [Sem.bind_eq_wrap', Sem.wrap_wrap]
  rw [Sem.wrap_congr (execs body env) _ _ (K' := kTurn (.forLoop target (.ref it) body [] env)) (H' := hTurn env) (fun f => by cases f <;> rfl)
    (fun e => by first | exact Sem.bind_eq_wrap _ _ | (show (do noteFrame e env; theTreesLotGoes e : Sem Unit).bind (fun _ => .raise e) = _; rw [Sem.bind_eq_wrap]))]
  exact q
theorem gk_func {body : List Stmt} (h : Gk W A Φ fz₀ (.func body env) fs ((execs body env).wrap (fun f => .pure (.done (.ret (match f with | .ret v => v | _ => .none)))) (fun e => (leaving env e).wrap (fun _ => .raise e) .raise id id) id id) own) :
    Gk W A Φ fz₀ (.func body env) fs ((model W.prog W.w).den (.func body env)) own := fun fz s k0 Ho ht => by
  show Sg _ A Φ _ (.point [] fun _ => ((execs body env).onRaise (leaving env)) >>= _) fs s
  refine sg_point ?_
  rw [Sem.onRaise_eq_wrap, Sem.bind_eq_wrap', Sem.wrap_wrap]
  rw [Sem.wrap_congr (execs body env) _ _ (K' := fun f => .pure (.done (.ret (match f with | .ret v => v | _ => .none))))
    (H' := fun e => (leaving env e).wrap (fun _ => .raise e) .raise id id) (fun f => by cases f <;> rfl)
    (fun e => by rw [Sem.bind_eq_wrap, Sem.wrap_wrap]; rfl)]
  exact h fz s k0 Ho ht
end
section
variable {W : Wd} {A : Around} {env : Env} {own : Own}
/-! ### is None -/
noncomputable def isNoneD : PyData → Bool
  | .none => true
  | _ => false
theorem cmp_isNone {d : PyData} {Q : V → Own → Prop} (h : Q (.bool (isNoneD d)) own) : S2 W A RV (compareOp .Is) (.dat d) .none own Q := fun fz s v u H _ r1 r2 => by
  rw [r2.none_inv]
  have fin : ∀ b, Q (.bool b) own → Post W RV Q fz (.bool b) s := fun b q => ⟨fz, _, own, .refl _, H, .dat (.bool _), q⟩
  cases r1 with
  | dat r =>
    cases r with
    | none => exact wpAny_is_self rfl (fin true h)
    | _ => exact wpAny_is_other rfl (fun e => nomatch e) (fin false h)
/-! ### the first of a list taken out -/
theorem call_pop0 {D : Addr} {x : V} {l : List V} {own' : Own} {Q : V → Own → Prop} (u : Upd D (.list (x :: l)) (.list l) own own') (hz : l.length < sizeLine) (h : Q x own') : SL W A RV (fun vs => call (.builtin "list.pop") vs) [.ref D, .int 0] own Q := SL2 fun fz s v w H ht r1 r2 => by
  cases r1.val_inv
  obtain ⟨t, rfl⟩ := r2.int_inv
  obtain ⟨ob, ho, vs, n, rfl, rs⟩ := H.get u.mem
  cases rs with
  | @cons _ y _ ys ry rys =>
    have hlen := rys.length
    refine call_meets PySem.F.slot_list_pop ⟨_, ho, rfl⟩ PySem.F.entry_list_pop (PySem.F.args_list_pop_2 _ _) (PySem.MeetsSeq.list_pop_at D (y :: ys).toArray n 0 t 0 y (by decide) (by simp [seqIndex?]) (by simp) (by simp only [List.size_toArray, List.length_cons]; (first | decide | exact Nat.le_trans (by assumption) (by decide) | lia | omega))) ⟨ho, ?_⟩
    have hs : Heap.SameBut D s.heap (s.heap.update D (Obj.mapSeq fun xs => xs.eraseIdxIfInBounds 0)) := Heap.SameBut.update ..
    have e : Obj.mapSeq (fun xs => xs.eraseIdxIfInBounds 0) (listObj (y :: ys) n) = listObj ys (n + 1) := by
      unfold listObj Obj.mapSeq
      simp [Array.eraseIdxIfInBounds]
    have hg := Heap.get?_update_self (Obj.mapSeq fun xs => xs.eraseIdxIfInBounds 0) ho (by rw [e]; rfl)
    rw [e] at hg
    exact ⟨fz, _, own', .refl _, H.set (k := s.toks) u hs hg ⟨ys, _, rfl, rys⟩, ry, h⟩
theorem mth_pop {D : Addr} {l : List V} {pl : Sem Bool} {Q : Value × List V → Own → Prop} (hm : (D, Ob.list l) ∈ own) (h : Q (.builtin "list.pop", [.ref D]) own) : SMth W A (Str.ofString "pop") pl (.ref D) own Q := mth_list hm PySem.F.slot_list_pop PySem.F.type_list_pop h
/-! ### unpacking -/
/-- stores in the names' order reversed -/
noncomputable def SSs (W : Wd) (A : Around) (env : Env) : List Str → List V → Own → (Own → Prop) → Prop
  | [], [], own, Q => Q own
  | x :: xs, a :: as, own, Q => SS W A env x a own fun o1 => SSs W A env xs as o1 Q
  | _, _, _, _ => False
theorem SSs_cons {x : Str} {xs : List Str} {a : V} {as : List V} {Q : Own → Prop} (h : SS W A env x a own fun o1 => SSs W A env xs as o1 Q) : SSs W A env (x :: xs) (a :: as) own Q := h
theorem SSs_nil {Q : Own → Prop} (h : Q own) : SSs W A env [] [] own Q := h
theorem SSs.run : ∀ {xs : List Str} {l : List V} {own : Own} {Q : Own → Prop}, SSs W A env xs l own Q → SL W A RU (fun vs => assignInOrder (xs.map fun n => bindName env n) vs) l own fun _ => Q
  | [], [], own, Q, h => fun fz s vs H ht r => by cases r; exact wpAny_pure ⟨fz, (), own, .refl _, H, trivial, h⟩
  | x :: xs, a :: as, own, Q, h => fun fz s vs H ht r => by
    cases r with
    | cons r rs =>
    show wpAny _ _ (holding _ (bindName env x _) >>= fun _ => assignInOrder (xs.map fun n => bindName env n) _) _ _ _
    refine wpAny_bind (wpAny_holding (wpAny_bindName (wp_then (h fz s _ H ht r) ht fun fz1 _ _ o1 s1 k1 H1 t1 _ q1 => ?_)))
    exact (SSs.run q1 fz1 s1 _ H1 t1 (rs.mono k1)).weak k1
  | [], _ :: _, _, _, h => h.elim
  | _ :: _, [], _, _, h => h.elim
theorem rvs_reverse {fz : Heap} {l : List V} {vs : List Value} (r : RVs fz l vs) : RVs fz l.reverse vs.reverse := by
  induction r with
  | nil => exact .nil
  | cons h _ ih => rw [List.reverse_cons, List.reverse_cons]; exact ih.append (.cons h .nil)
theorem SX_AssignSw {elts : List Expr} {k : Nat} {tpos pos : Pos} {value : Expr} {names : List Str} {Q : Fl → Own → Prop} (hh : A.handled = none)
    (hw : swappedStores [.Tuple elts k tpos] value env = pure (some names))
    (h : SE W A env value own fun a o1 => ∃ t l, a = .ref t ∧ (t, Ob.tup l) ∈ o1 ∧ l.length = names.length ∧ SSs W A env names.reverse l.reverse o1 fun o2 => Q .next o2)
    (hs : swapsWithSole [.Tuple elts k tpos] value pos.line env = pure false := by rfl) : SX W A env (.Assign [.Tuple elts k tpos] value pos) own Q := fun fz s H ht => by
  refine Assign_Tuple_swapped (names := names) (wp_then (h fz s H ht) ht fun fz1 va a o1 s1 k1 H1 t1 r1 q1 => ?_) hs hw
  obtain ⟨t, l, rfl, hm, hl, q⟩ := q1
  cases r1.val_inv
  obtain ⟨o, ho, vs, n, rfl, rs⟩ := H1.get hm
  have hlen := rs.length
  have hn : names.length = vs.toArray.size := by simp only [List.size_toArray]; (first | decide | exact Nat.le_trans (by assumption) (by decide) | lia | omega)
  rw [hn]
  refine wpAny_unpackItems_tuple hh (t := t) (items := vs.toArray) ⟨_, ho, rfl, n, rfl⟩ fun h' he => ?_
  have H2 := H1.grow (k := s1.toks) (h' := h') fun b o e => he b o (Nat.ne_of_lt (Heap.lt_size e)) e
  refine wp_then (SSs.run q fz1 _ _ H2 t1 (rvs_reverse (by simpa using rs))) t1 fun fz3 _ _ o3 s3 k3 H3 t3 _ q3 => ?_
  exact ⟨fz3, _, o3, k1.trans k3, H3, .next, q3⟩
/-! ### next, asked of an iterator or a generator, with a default -/
theorem next_entry {prog : Program} {w : World} {E : Value → Shared → Prop} {s : Shared} {it : Addr} {dflt f : Value} {T : String} {Q : Value → Shared → Prop} (hT : s.TypeIs (.ref it) T) (hs : typeLookup (.type T) (Str.ofString "__next__") = pure (some f))
    (h : wpAny (model prog w) A.in1 (pyNext (.ref it)) (fun r s' => Q (r.getD dflt) s') E s) : wpAny (model prog w) A (call (.builtin "next") [.ref it, dflt]) Q E s := by
  refine PySem.Calls.call_function_entry (by decide +kernel) (by decide +kernel) kdk_entry_next (kdk_args_next2 _ _) ?_
  unfold Builtin.«next»
  refine wpAny_bind (m := someArgs "next" 1 2 _) (wpAny_of_eq (a := [Value.ref it, dflt]) (by first | rfl | kernel_rfl!) ?_)
  dsimp only
  refine wpAny_bind (wpAny_specialOf (name := Str.ofString "__next__") hT hs ?_)
  refine wpAny_ite_split (fun hab => absurd hab (by simp)) (fun _ => ?_)
  exact wpAny_bind (wpAny_mono h (fun r s' q => wpAny_pure ⟨_, rfl, q⟩) fun _ _ x => x)
end
section
variable {W : Wd} {A : Around} {env : Env} {own : Own}
/-! ### range with a step, max of two -/
theorem call_max2 {a b : Int} {Q : V → Own → Prop} (hh : A.handled = none) (h : Q (.int (max a b)) own) : SL W A RV (fun vs => call (.builtin "max") vs) [.int a, .int b] own Q := SL2 fun fz s v w H ht r1 r2 => by
  obtain ⟨t, rfl⟩ := r1.int_inv; obtain ⟨t2, rfl⟩ := r2.int_inv
  refine max_two_ints hh fun h' tk hk => ?_
  by_cases hb : b > a
  · rw [if_pos hb]
    rw [show max a b = b by (first | decide | exact Nat.le_trans (by assumption) (by decide) | lia | omega)] at h
    exact ⟨fz, _, own, .refl _, H.grow (k := tk) hk, .dat (.int _ _), h⟩
  · rw [if_neg hb]
    rw [show max a b = a by (first | decide | exact Nat.le_trans (by assumption) (by decide) | lia | omega)] at h
    exact ⟨fz, _, own, .refl _, H.grow (k := tk) hk, .dat (.int _ _), h⟩
/-! ### a list unpacked -/
/-! ### an item of a list of one's own is set -/
/-! ### a list of one's own compared -/
theorem own_reads {fz : Heap} {s : Shared} (H : Hold W fz own s) {D : Addr} {ds : List PyData} (hm : (D, Ob.list (ds.map V.dat)) ∈ own) : ∃ as, Reads s.heap (.ref D) (.list ds) as := by
  obtain ⟨o, ho, vs, n, rfl, rs⟩ := H.get hm
  obtain ⟨as, ra⟩ := (rs.mono H.has).reads
  exact ⟨_, .list ho rfl rfl (by simpa using ra)⟩
/-! ### a list repeated, to be turned later -/
end
section
variable {W : Wd} {A : Around} {env : Env} {own : Own}
/-! ### an iterator over a list of one's own -/
/-! ### a comprehension, turn by turn, whose items may be made things -/
/-- a clause's loop, its iterator any -/
noncomputable def CLX (W : Wd) (A : Around) (e : Expr) (d : Nat) (D : Addr) (cenv : Env) (it : Addr) (ob : Ob) (own : Own) (Q : Own → Prop) : Prop :=
  ∀ fz s, Hold W fz ((it, ob) :: own) s → W.tk ≤ s.toks → codeAny (model W.prog W.w) A (.compLoop e d (.ref it) (.ref D) cenv)
    (fun r s' => match r with | .ok _ => ∃ fz' own', Keep fz fz' ∧ Hold W fz' own' s' ∧ W.tk ≤ s'.toks ∧ Q own' | .error _ => False) s
theorem CLX.wk {e : Expr} {d : Nat} {D : Addr} {cenv : Env} {it : Addr} {ob : Ob} {own' : Own} {Q : Own → Prop} (k : Wk own own') (h : CLX W A e d D cenv it ob own' Q) : CLX W A e d D cenv it ob own Q :=
  fun fz s H ht => h fz s ((Wk.keep .refl k).hold H) ht
/-! ### iter -/
theorem entry_iterB : entryFor table "iter" = some Builtin.«iter» := entryFor_of_fast (by kernel_rfl)
theorem args_iterB (a : Value) : argsOk "iter" ⟨[a], []⟩ := by unfold argsOk; kernel_rfl
theorem call_iter {l : List PyData} {Q : V → Own → Prop} (h : ∀ it, Q (.ref it) ((it, .prop (LItP (l.map V.dat))) :: own)) : SL W A RV (fun vs => call (.builtin "iter") vs) [.lst l] own Q := SL1 fun fz s v H ht r => by
  obtain ⟨a, vs, rfl, hl, rs⟩ := r.lst_inv
  refine PySem.Calls.call_function_entry (by decide +kernel) (by decide +kernel) entry_iterB (args_iterB _) ?_
  unfold Builtin.«iter»
  refine wpAny_bind (m := someArgs "iter" 1 2 _) (wpAny_of_eq (a := [Value.ref a]) (by first | rfl | kernel_rfl!) ?_)
  dsimp only
  refine wpAny_bind (wpAny_pyIter_list (IsList_keep hl H.has) (wpAny_pure ⟨_, rfl, ?_⟩))
  exact ⟨fz, _, _, .refl _, H.new (ob := .prop (LItP (l.map V.dat))) (k := s.toks) (Keep.push _ _) (get?_ge (Nat.le_refl _)) (Heap.get?_push_size _ rfl) ⟨fz, .refl _, rfl, .inl ⟨a, vs, 0, hl, by simpa using rs, rfl⟩⟩, .val _, h _⟩
end
section
variable {W : Wd} {A : Around} {env : Env} {own : Own}
/-! ### list(generator) -/
/-- a list of data, read off a source, one's own -/
theorem SE_CompMapO {α : Type} {elt target iter : Expr} {ifs : List Expr} {scope : Scope} {pos : Pos} {cl : List (Str × Addr)} {Q : V → Own → Prop}
    (hh : A.handled = none) (hclos : closureFor scope env = pure cl) (hcell : ∀ y ∈ scope.names, y.2 ≠ .cell) (hkind : scope.kind = .function) (hnames : ∀ y ∈ scope.names, y.2 = .local → scope.names.lookup y.1 = some .local)
    (h : SE W A env iter own fun a o1 => S1 W A RV pyIter a o1 fun b o2 => ∃ it l o3, b = .ref it ∧ o2 = (it, .it l) :: o3 ∧ ∃ (g : α → V) (p : α → Bool) (out : α → PyData) (xs : List α), l = xs.map g ∧ xs.length ≤ sizeLine ∧
      (∀ C D, MapTurn W A (cEnv scope cl C env) target elt ifs g p out xs o3 C D) ∧ ∀ D, Q (.ref D) ((D, .list (((xs.filter p).map out).map V.dat)) :: o3))
    (hs : ∀ x, foldedSetIterable iter env x = pure x := by intro _; rfl) : SE W A env (.ListComp elt [⟨target, iter, ifs, 0⟩] scope pos) own Q := by
  refine SE_Comp hclos hcell hkind hnames (SG.mono h fun a o1 h1 => S1.mono h1 fun b o2 h2 => ?_) hs
  obtain ⟨it, l, o3, rfl, rfl, g, p, out, xs, rfl, hz, turn, q⟩ := h2
  exact ⟨it, _, o3, rfl, rfl, fun C D => CL_map hh hz (turn C D) ⟨_, _, .refl, q D⟩⟩
end
section
/-! ### a function's text, taken apart without its names -/
noncomputable def txtO : Option Obj → Option (Str × Scope × Value × List Stmt)
  | some o => match o.data with
    | .func f => match f.body with
      | .stmts b => some (f.qualname, f.scope, f.code, b)
      | _ => none
    | _ => none
  | none => none
noncomputable def nthS : List Stmt → Nat → Stmt
  | [], _ => .Pass default
  | s :: _, 0 => s
  | _ :: l, n + 1 => nthS l n
noncomputable def forT : Stmt → Expr | .For t _ _ _ _ => t | _ => .Name (Str.ofString "") default
noncomputable def forI : Stmt → Expr | .For _ i _ _ _ => i | _ => .Name (Str.ofString "") default
noncomputable def forB : Stmt → List Stmt | .For _ _ b _ _ => b | _ => []
noncomputable def forP : Stmt → Pos | .For _ _ _ _ p => p | _ => default
noncomputable def ifT : Stmt → Expr | .If t _ _ _ => t | _ => .Name (Str.ofString "") default
noncomputable def ifB : Stmt → List Stmt | .If _ b _ _ => b | _ => []
noncomputable def ifE : Stmt → List Stmt | .If _ _ e _ => e | _ => []
noncomputable def ifP : Stmt → Pos | .If _ _ _ p => p | _ => default
noncomputable def whT : Stmt → Expr | .While t _ _ _ => t | _ => .Name (Str.ofString "") default
noncomputable def whB : Stmt → List Stmt | .While _ b _ _ => b | _ => []
noncomputable def whP : Stmt → Pos | .While _ _ _ p => p | _ => default
noncomputable def clB : Stmt → List Stmt | .ClassDef _ _ _ b _ _ _ _ _ _ _ => b | _ => []
noncomputable def fdA : Stmt → Arguments | .FunctionDef _ a _ _ _ _ _ _ _ _ => a | _ => default
noncomputable def fdB : Stmt → List Stmt | .FunctionDef _ _ b _ _ _ _ _ _ _ => b | _ => []
noncomputable def fdS : Stmt → Scope | .FunctionDef _ _ _ _ _ _ s _ _ _ => s | _ => default
noncomputable def fdN : Stmt → Str | .FunctionDef n _ _ _ _ _ _ _ _ _ => n | _ => default
noncomputable def exS : Expr → Str | .Constant (.str s) _ _ => s | _ => default
noncomputable def asS : Stmt → Str | .Assign _ v _ => exS v | _ => default
/-- a function that stands in the program's text -/
noncomputable abbrev fnO (s : Stmt) (qual : Str) (dV kV doc pm : Value) (an : Option Addr) (cdv ct : Value) : Obj := { cls := .type "function", data := .func (fnOf (fdN s) qual (fdA s) (fdB s) (fdS s) dV kV doc pm an cdv ct) }
theorem len_s {α β : Type} {l : List α} {a : β} {m : List β} (h : l.length = (a :: m).length) : ∃ x l', l = x :: l' ∧ l'.length = m.length := by
  cases l with
  | nil => cases h
  | cons x l' => exact ⟨x, l', rfl, Nat.succ.inj h⟩
theorem len_1 {α β : Type} {l : List α} {a : β} (h : l.length = [a].length) : ∃ x, l = [x] := by
  obtain ⟨x, l', rfl, h2⟩ := len_s h; exact ⟨x, by rw [List.eq_nil_of_length_eq_zero h2]⟩
theorem len_2 {α β : Type} {l : List α} {a b : β} (h : l.length = [a, b].length) : ∃ x y, l = [x, y] := by
  obtain ⟨x, l', rfl, h2⟩ := len_s h; obtain ⟨y, rfl⟩ := len_1 h2; exact ⟨x, y, rfl⟩
theorem len_3 {α β : Type} {l : List α} {a b c : β} (h : l.length = [a, b, c].length) : ∃ x y z, l = [x, y, z] := by
  obtain ⟨x, l', rfl, h2⟩ := len_s h; obtain ⟨y, z, rfl⟩ := len_2 h2; exact ⟨x, y, z, rfl⟩
end
section
variable {W : Wd} {A : Around} {env : Env} {own : Own}
/-! ### calls by keyword -/
/-! ### split and find -/
/-! ### in a list of texts -/
theorem any_eqS {ls : List (List Nat)} {l : List Nat} : (ls.map S).any (· == S l) = decide (l ∈ ls) := by
  induction ls with
  | nil => simp
  | cons a r ih =>
    rw [List.map_cons, List.any_cons, ih]
    by_cases e : l = a
    · subst e; simp
    · have : (S a == S l) = false := by
        rw [beq_eq_false_iff_ne]; exact fun h => e (S_inj.mp h).symm
      simp [this, e]
/-! ### kinds -/
theorem call_strI {n : Int} {Q : V → Own → Prop} (hd : n.natAbs.log2 < 1920) (h0 : 0 ≤ n) (h : Q (.str (S (decT n))) own) : SL W A RV (fun vs => call (.type "str") vs) [.int n] own Q := SL1 fun fz s v H ht r => by
  obtain ⟨t, rfl⟩ := r.int_inv
  refine P.str_of_int hd ?_
  have e : (toString n : Str) = S (decT n) := by
    unfold decT
    rw [if_neg (by (first | decide | exact Nat.le_trans (by assumption) (by decide) | lia | omega)), List.nil_append, Int.natAbs_of_nonneg h0]
    exact (S_lit _).symm
  rw [e]
  exact at_tok H _ (.dat (.str _ _)) h
/-! ### the last of a list taken out -/
end
section
variable {W : Wd} {A : Around} {env : Env} {own : Own}
/-! ### an exception on its way -/
theorem FrO.mono' {o o' : Own} (hs : ∀ p ∈ o, p ∈ o') : ∀ {l : List Env}, FrO o l → FrO o' l
  | [], _ => trivial
  | e :: l, ⟨h1, ⟨L, loc, hf, hm⟩, hr⟩ => ⟨h1, ⟨L, loc, hf, hs _ hm⟩, FrO.mono' hs hr⟩
/-- just made: no traceback yet -/
noncomputable def NewX (X : String) (fz : Heap) (own : Own) (h : Heap) (e : Addr) : Prop :=
  fz.get? e = none ∧ (∀ p ∈ own, p.1 ≠ e) ∧ ∃ o tt, h.get? e = some o ∧ o.cls = .type X ∧ o.data = .fields #[tt, .none, .none, .none, .bool false, .none]
/-- it has a traceback, whose head's flight is as told -/
noncomputable def FlyX (X : String) (fl : Value) (fz : Heap) (own : Own) (h : Heap) (e : Addr) : Prop :=
  fz.get? e = none ∧ (∀ p ∈ own, p.1 ≠ e) ∧ ∃ o vs T oT ts, h.get? e = some o ∧ o.cls = .type X ∧ o.data = .fields vs ∧ vs[1]? = some (.ref T) ∧ T ≠ e ∧
    fz.get? T = none ∧ (∀ p ∈ own, p.1 ≠ T) ∧ h.get? T = some oT ∧ oT.data = .fields ts ∧ ts[3]? = some fl
theorem newX_of {fz : Heap} {s : Shared} (H : Hold W fz own s) {h' : Heap} {e : Addr} {X : String} {k : Nat} (x : Heap.NewExc s.heap h' e X) : Hold W fz own { s with heap := h', toks := k } ∧ NewX X fz own h' e := by
  obtain ⟨ke, hen, ob, tt, he, hcls, hd⟩ := x
  obtain ⟨o1, o2⟩ := off_of H hen
  exact ⟨H.grow ke, o1, o2, ob, tt, he, hcls, hd⟩
theorem note_entry {M : Model} {E : Value → Shared → Prop} {fz : Heap} {s : Shared} {outer : List Env} {L e : Addr} {ob : Obj} {vs : Array Value} {head : Value} {hadNext : Bool} {X : String} {Q : Unit → Shared → Prop}
    (hfr : A.frames = some (env :: outer)) (hF : FrO own (env :: outer)) (hL : env.frame = some L) (H : Hold W fz own s) (he : s.heap.get? e = some ob) (hc : ob.cls = .type X) (hd : ob.data = .fields vs) (h1 : 1 < vs.size)
    (o1 : fz.get? e = none) (o2 : ∀ p ∈ own, p.1 ≠ e) (h : ∀ h', Hold W fz own { s with heap := h' } → FlyX X (rawInt L) fz own h' e → Q () { s with heap := h' }) :
    wpAny M A (do let a ← frameOf env; let pl ← entryPlaceOf L hadNext; let b ← EntryCells.newEntry head a .none (rawInt L) .none pl; setField (.ref e) 1 b) Q E s := by
  refine wpAny_bind (wpAny_frameOf_fun hfr (FrO.fun H hF) hL fun h₂ hs₂ => ?_)
  have H2 : Hold W fz own { s with heap := h₂ } := H.slots hs₂ fun b hb => hF.mem hb
  refine wpAny_bind (wpAny_entryPlaceOf fun pl hpl => ?_)
  unfold EntryCells.newEntry newFields
  refine wpAny_bind (wpAny_newObj_type ?_ (hpl.sizeOk5 _ _ _ _ _))
  have hef : e ∉ (env :: outer).filterMap (·.frame) := fun hm => by obtain ⟨loc, hm⟩ := hF.mem hm; exact o2 _ hm rfl
  have he₂ : h₂.get? e = some ob := by rw [hs₂.2.1 _ hef]; exact he
  have htbe : h₂.objs.size ≠ e := Nat.ne_of_gt (Heap.lt_size he₂)
  have hdO : ∀ p ∈ own, p.1 ≠ h₂.objs.size := (off_of H2 (get?_ge (Nat.le_refl _))).2
  have hdF : fz.get? h₂.objs.size = none := (off_of H2 (get?_ge (Nat.le_refl _))).1
  have he₃ := Heap.get?_push_of_some (h := h₂) { cls := .type "traceback", dict := none, data := .fields ([head, .ref L, .none, rawInt L, .none] ++ (if pl.isEmpty then List.replicate 6 Value.none else pl)).toArray } he₂
  refine wpAny_setField he₃ hd h1 ?_
  have hd₃ := Obj.data_mapFields hd (·.setIfInBounds 1 (Value.ref h₂.objs.size))
  have he₄ := Heap.get?_update_self (Obj.mapFields (·.setIfInBounds 1 (Value.ref h₂.objs.size))) he₃ (Obj.isFreed_of_fields hd₃)
  have ht₄ := (Heap.get?_update_other (h₂.push { cls := .type "traceback", dict := none, data := .fields ([head, .ref L, .none, rawInt L, .none] ++ (if pl.isEmpty then List.replicate 6 Value.none else pl)).toArray }) (Obj.mapFields (·.setIfInBounds 1 (Value.ref h₂.objs.size))) (Ne.symm htbe)).trans (Heap.get?_push_size h₂ rfl)
  have H3 : Hold W fz own { s with heap := (h₂.push { cls := .type "traceback", dict := none, data := .fields ([head, .ref L, .none, rawInt L, .none] ++ (if pl.isEmpty then List.replicate 6 Value.none else pl)).toArray }) } := H2.grow (k := s.toks) (Keep.push _ _)
  have H4 := H3.off (Heap.SameBut.update (h₂.push { cls := .type "traceback", dict := none, data := .fields ([head, .ref L, .none, rawInt L, .none] ++ (if pl.isEmpty then List.replicate 6 Value.none else pl)).toArray }) e (Obj.mapFields (·.setIfInBounds 1 (Value.ref h₂.objs.size)))) o1 o2
  exact h _ H4 ⟨o1, o2, _, _, h₂.objs.size, _, _, he₄, (Obj.cls_mapFields _ _).trans hc, hd₃, by simp [h1], htbe, hdF, hdO, ht₄, rfl, rfl⟩
theorem note_new {M : Model} {E : Value → Shared → Prop} {fz : Heap} {s : Shared} {outer : List Env} {L e : Addr} {X : String} {Q : Unit → Shared → Prop}
    (hfr : A.frames = some (env :: outer)) (hF : FrO own (env :: outer)) (hL : env.frame = some L) (H : Hold W fz own s) (x : NewX X fz own s.heap e)
    (h : ∀ h', Hold W fz own { s with heap := h' } → FlyX X (rawInt L) fz own h' e → Q () { s with heap := h' }) : wpAny M A (noteFrame (.ref e) env) Q E s := by
  obtain ⟨o1, o2, ob, tt, he, hc, hd⟩ := x
  unfold noteFrame
  simp only [hL]
  have hq1 : (#[tt, Value.none, Value.none, Value.none, Value.bool false, Value.none] : Array Value)[1]? = some .none := rfl
  refine wpAny_bind (wpAny_field he hd hq1 ?_)
  rw [if_neg (by decide)]
  exact note_entry hfr hF hL H he hc hd (by simp) o1 o2 h
/-- the head's flight is set -/
theorem fly_set {M : Model} {E : Value → Shared → Prop} {fz : Heap} {s : Shared} {e : Addr} {X : String} {fl : Value} {fr : Option Addr} {Q : Unit → Shared → Prop} (H : Hold W fz own s) (x : FlyX X fl fz own s.heap e)
    (h : ∀ h', Hold W fz own { s with heap := h' } → FlyX X (fr.elim .none fun f => rawInt f) fz own h' e → Q () { s with heap := h' }) : wpAny M A (setFlight (.ref e) fr) Q E s := by
  obtain ⟨o1, o2, ob, vs, T, oT, ts, he, hc, hd, h1, hTe, t1, t2, hT, hdT, h3⟩ := x
  have hsz3 : 3 < ts.size := (Array.getElem?_eq_some_iff.mp h3).1
  unfold setFlight
  refine wpAny_bind (wpAny_field he hd h1 ?_)
  rw [if_pos (show (Value.ref T != Value.none) = true from by simp)]
  refine wpAny_setField hT hdT hsz3 (h _ (H.off (Heap.SameBut.update ..) t1 t2) ⟨o1, o2, ob, vs, T, _, _, (Heap.get?_update_other _ _ hTe).trans he, hc, hd, h1, hTe, t1, t2,
    Heap.get?_update_self _ hT (Obj.isFreed_of_fields (Obj.data_mapFields hdT _)), Obj.data_mapFields hdT _, by simp [hsz3]⟩)
/-- a further frame is noted -/
theorem note_on {M : Model} {E : Value → Shared → Prop} {fz : Heap} {s : Shared} {outer : List Env} {L e : Addr} {X : String} {Q : Unit → Shared → Prop}
    (hfr : A.frames = some (env :: outer)) (hF : FrO own (env :: outer)) (hL : env.frame = some L) (H : Hold W fz own s) (x : FlyX X .none fz own s.heap e)
    (h : ∀ h', Hold W fz own { s with heap := h' } → FlyX X (rawInt L) fz own h' e → Q () { s with heap := h' }) : wpAny M A (noteFrame (.ref e) env) Q E s := by
  obtain ⟨o1, o2, ob, vs, T, oT, ts, he, hc, hd, h1, hTe, t1, t2, hT, hdT, h3⟩ := x
  have hsz3 : 3 < ts.size := (Array.getElem?_eq_some_iff.mp h3).1
  unfold noteFrame
  simp only [hL]
  refine wpAny_bind (wpAny_field he hd h1 ?_)
  rw [if_pos (show (Value.ref T != Value.none) = true from by simp)]
  refine wpAny_bind (wpAny_field hT hdT h3 ?_)
  rw [if_neg (show ¬ ((Value.none == rawInt L) = true) from by simp [rawInt])]
  refine wpAny_bind (wpAny_setField hT hdT hsz3 ?_)
  exact note_entry hfr hF hL (H.off (Heap.SameBut.update ..) t1 t2) ((Heap.get?_update_other _ _ hTe).trans he) hc hd (Array.getElem?_eq_some_iff.mp h1).1 o1 o2 h
/-- the frame is noted already -/
theorem note_again {M : Model} {E : Value → Shared → Prop} {fz : Heap} {s : Shared} {L e : Addr} {X : String} {Q : Unit → Shared → Prop} (hL : env.frame = some L) (x : FlyX X (rawInt L) fz own s.heap e) (h : Q () s) : wpAny M A (noteFrame (.ref e) env) Q E s := by
  obtain ⟨o1, o2, ob, vs, T, oT, ts, he, hc, hd, h1, hTe, t1, t2, hT, hdT, h3⟩ := x
  unfold noteFrame
  simp only [hL]
  refine wpAny_bind (wpAny_field he hd h1 ?_)
  rw [if_pos (show (Value.ref T != Value.none) = true from by simp)]
  refine wpAny_bind (wpAny_field hT hdT h3 ?_)
  rw [if_pos (show (rawInt L == rawInt L) = true from by simp)]
  exact wpAny_pure h
theorem FlyX.fld1 {X : String} {fl : Value} {fz : Heap} {h : Heap} {e : Addr} (x : FlyX X fl fz own h e) : ∃ o vs T, h.get? e = some o ∧ o.data = .fields vs ∧ vs[1]? = some (.ref T) := by
  obtain ⟨o1, o2, ob, vs, T, oT, ts, he, hc, hd, h1, _⟩ := x
  exact ⟨ob, vs, T, he, hd, h1⟩
theorem FlyX.is {X : String} {fl : Value} {fz : Heap} {h : Heap} {e : Addr} (x : FlyX X fl fz own h e) : ∃ o, h.get? e = some o ∧ o.cls = .type X := by
  obtain ⟨o1, o2, ob, vs, T, oT, ts, he, hc, _⟩ := x
  exact ⟨ob, he, hc⟩
theorem FlyX.wk {X : String} {fl : Value} {fz : Heap} {h : Heap} {e : Addr} {own' : Own} (hs : ∀ p ∈ own', p.1 ∈ own.map (·.1)) (x : FlyX X fl fz own h e) : FlyX X fl fz own' h e := by
  obtain ⟨o1, o2, ob, vs, T, oT, ts, he, hc, hd, h1, hTe, t1, t2, r⟩ := x
  refine ⟨o1, fun p hp q => ?_, ob, vs, T, oT, ts, he, hc, hd, h1, hTe, t1, fun p hp q => ?_, r⟩
  · obtain ⟨p', hp', e'⟩ := List.mem_map.mp (hs p hp); exact o2 p' hp' (e'.trans q)
  · obtain ⟨p', hp', e'⟩ := List.mem_map.mp (hs p hp); exact t2 p' hp' (e'.trans q)
theorem Wk.keys {o o' : Own} (k : Wk o o') : ∀ p ∈ o', p.1 ∈ o.map (·.1) := by
  induction k with
  | nil => intro p hp; cases hp
  | refl => intro p hp; exact List.mem_map_of_mem hp
  | keep _ _ ih => intro p hp; rcases List.mem_cons.mp hp with rfl | hp; exact List.mem_cons_self; exact List.mem_cons_of_mem _ (ih p hp)
  | drop _ ih => intro p hp; exact List.mem_cons_of_mem _ (ih p hp)
/-! ### what raises -/
/-- behind a raise -/
noncomputable def XP (W : Wd) (T : Heap → Own → Heap → Addr → Prop) (R : Own → Prop) (fz : Heap) : Value → Shared → Prop := fun v s' =>
  ∃ e fz' o, v = .ref e ∧ Keep fz fz' ∧ Hold W fz' o s' ∧ W.tk ≤ s'.toks ∧ T fz' o s'.heap e ∧ R o
theorem XP.weak {T : Heap → Own → Heap → Addr → Prop} {R : Own → Prop} {fz fz' : Heap} {v : Value} {s : Shared} (x : XP W T R fz' v s) (k : Keep fz fz') : XP W T R fz v s := by
  obtain ⟨e, fz2, o, h1, k2, r⟩ := x
  exact ⟨e, fz2, o, h1, k.trans k2, r⟩
noncomputable def XG {α : Type} (W : Wd) (A : Around) (T : Heap → Own → Heap → Addr → Prop) (t : Sem α) (own : Own) (R : Own → Prop) : Prop :=
  ∀ fz s, Hold W fz own s → W.tk ≤ s.toks → wpAny (model W.prog W.w) A t (fun _ _ => False) (XP W T R fz) s
theorem XG.go {α : Type} {T : Heap → Own → Heap → Addr → Prop} {t : Sem α} {R : Own → Prop} {fz fz0 : Heap} {s : Shared} {Q : α → Shared → Prop} (h : XG W A T t own R) (H : Hold W fz own s) (ht : W.tk ≤ s.toks) (k : Keep fz0 fz) : wpAny (model W.prog W.w) A t Q (XP W T R fz0) s :=
  wpAny_mono (h fz s H ht) (fun _ _ x => x.elim) fun _ _ x => x.weak k
theorem x_then {α β : Type} {T : Heap → Own → Heap → Addr → Prop} {R : Own → Prop} {R0 : Heap → β → α → Prop} {t : Sem α} {Q : β → Own → Prop} {fz : Heap} {s : Shared} {P : α → Shared → Prop} (h : At W A R0 t Q fz s) (ht : W.tk ≤ s.toks)
    (q : ∀ fz' a b own' s', Keep fz fz' → Hold W fz' own' s' → W.tk ≤ s'.toks → R0 fz' b a → Q b own' → P a s') : wpAny (model W.prog W.w) A t P (XP W T R fz) s :=
  wpAny_mono (wp_then h ht q) (fun _ _ x => x) fun _ _ x => x.elim
theorem x_then' {α β : Type} {T : Heap → Own → Heap → Addr → Prop} {R : Own → Prop} {R0 : Heap → β → α → Prop} {t : Sem α} {Q : β → Own → Prop} {fz fz0 : Heap} {s : Shared} {P : α → Shared → Prop} (h : At W A R0 t Q fz s) (ht : W.tk ≤ s.toks) (k0 : Keep fz0 fz)
    (q : ∀ fz' a b own' s', Keep fz0 fz' → Hold W fz' own' s' → W.tk ≤ s'.toks → R0 fz' b a → Q b own' → P a s') : wpAny (model W.prog W.w) A t P (XP W T R fz0) s :=
  wpAny_mono (wp_then h ht fun fz' a b own' s' k H t' r q' => q fz' a b own' s' (k0.trans k) H t' r q') (fun _ _ x => x) fun _ _ x => x.elim
noncomputable abbrev XE (W : Wd) (A : Around) (T : Heap → Own → Heap → Addr → Prop) (env : Env) (e : Expr) (own : Own) (R : Own → Prop) : Prop := XG W A T (eval e env) own R
noncomputable abbrev XEs (W : Wd) (A : Around) (T : Heap → Own → Heap → Addr → Prop) (env : Env) (pos : Pos) (l : List Expr) (own : Own) (R : Own → Prop) : Prop := XG W A T (spliced (backTo pos (starEach l env))) own R
variable {T : Heap → Own → Heap → Addr → Prop} {R : Own → Prop}
theorem XG.mono {α : Type} {t : Sem α} {R' : Own → Prop} (h : XG W A T t own R) (q : ∀ o, R o → R' o) : XG W A T t own R' := fun fz s H ht =>
  wpAny_mono (h fz s H ht) (fun _ _ x => x) fun _ _ ⟨e, fz', o, h1, k, H', t', x, r⟩ => ⟨e, fz', o, h1, k, H', t', x, q o r⟩
theorem XEs_here {pos : Pos} {e : Expr} {rest : List Expr} (h : XE W A T env e own R) (he : starEach (e :: rest) env = (false, eval e env) :: starEach rest env := by rfl) : XEs W A T env pos (e :: rest) own R := fun fz s H ht => by
  rw [he]
  show wpAny _ _ (spliced ((false, eval e env) :: backTo pos (starEach rest env))) _ _ _
  exact Calls.spliced_cons (h.go H ht (.refl _))
theorem XEs_there {pos : Pos} {e : Expr} {rest : List Expr} (h : SE W A env e own fun a o1 => XEs W A T env pos rest o1 R) (he : starEach (e :: rest) env = (false, eval e env) :: starEach rest env := by rfl) : XEs W A T env pos (e :: rest) own R := fun fz s H ht => by
  rw [he]
  show wpAny _ _ (spliced ((false, eval e env) :: backTo pos (starEach rest env))) _ _ _
  exact Calls.spliced_cons (x_then (h fz s H ht) ht fun fz1 va a o1 s1 k1 H1 t1 r1 q1 => XG.go q1 H1 t1 k1)
theorem XE_List {elts : List Expr} {pos : Pos} (h : XEs W A T env pos elts own R) : XE W A T env (.List elts pos) own R := fun fz s H ht => List_ (h.go H ht (.refl _))
theorem x_callWith {pos : Pos} {f : Value} {firstV : List Value} {args : List Expr} {fz fz0 : Heap} {s : Shared} (H : Hold W fz own s) (ht : W.tk ≤ s.toks) (k0 : Keep fz0 fz)
    (hp : (backTo pos (starEach args env)).any (·.1) = false) (h : XEs W A T env pos args own R) : wpAny (model W.prog W.w) A (callWith pos f firstV (backTo pos (starEach args env)) []) (fun _ _ => False) (XP W T R fz0) s := by
  have h1 : wpAny (model W.prog W.w) A (spliced (backTo pos (starEach args env))) (fun _ _ => False) (XP W T R fz0) s := h.go H ht k0
  have key : wpAny (model W.prog W.w) A (evalArgs f true (backTo pos (starEach args env)) []) (fun a s₁ => False ∧ wpAny (model W.prog W.w) A (call f (firstV ++ a.pos) a.kw) (fun _ _ => False) (XP W T R fz0) s₁) (XP W T R fz0) s := by
    generalize backTo pos (starEach args env) = trees at hp h1 ⊢
    cases trees with
    | nil =>
      unfold evalArgs
      show wpAny _ _ (spliced [] >>= _) _ _ _
      exact wpAny_bind (wpAny_mono h1 (fun _ _ x => x.elim) fun _ _ x => x)
    | cons t rest =>
      obtain ⟨b, t⟩ := t
      cases b with
      | false => exact Calls.evalArgs_plain (wpAny_mono h1 (fun _ _ x => x.elim) fun _ _ x => x)
      | true => simp at hp
  exact callWith_of (P := fun _ => False) (by simpa using hp) (fun h x => x.elim) key
theorem XE_CallArgs {func : Expr} {args : List Expr} {pos : Pos} (h : SE W A env func own fun _ o1 => XEs W A T env pos args o1 R)
    (he : eval (.Call func args [] pos) env = (do callWith pos (← eval func env) [] (backTo pos (starEach args env)) (backToKw pos (keywordEach [] env))) := by rfl)
    (hp : (backTo pos (starEach args env)).any (·.1) = false := by rfl) : XE W A T env (.Call func args [] pos) own R := fun fz s H ht =>
  Call_ (x_then (h fz s H ht) ht fun fz1 va a o1 s1 k1 H1 t1 r1 q1 => x_callWith H1 t1 k1 hp q1) he
theorem XE_MethArgs {o : Expr} {name : Str} {apos pos : Pos} {args : List Expr} {pl : Sem Bool} (h : SE W A env o own fun a o1 => SMth W A name pl a o1 fun _ o2 => XEs W A T env pos args o2 R)
    (he : eval (.Call (.Attribute o name apos) args [] pos) env = (do
      let ov ← eval o env
      standAt apos.atName
      let (f, first) ← holding [ov] (getMethod ov name pl)
      callWith pos f first (backTo pos (starEach args env)) []) := by rfl)
    (hp : (backTo pos (starEach args env)).any (·.1) = false := by rfl) : XE W A T env (.Call (.Attribute o name apos) args [] pos) own R := fun fz s H ht =>
  MethodCall_ (x_then (h fz s H ht) ht fun fz1 va a o1 s1 k1 H1 t1 r1 q1 => x_then' (q1 fz1 s1 va H1 t1 r1) t1 k1 fun fz2 vb b o2 s2 k2 H2 t2 r2 q2 => x_callWith H2 t2 k2 hp q2) he
end
section
variable {W : Wd} {A : Around} {env : Env} {own : Own} {T : Heap → Own → Heap → Addr → Prop} {R : Own → Prop}
/-! ### raises further in -/
theorem XE_Comp {elt target iter : Expr} {ifs : List Expr} {gs : List Comprehension} {scope : Scope} {pos : Pos} {cl : List (Str × Addr)}
    (hclos : closureFor scope env = pure cl) (hkind : scope.kind = .function) (hnames : ∀ y ∈ scope.names, y.2 = .local → scope.names.lookup y.1 = some .local)
    (h : XE W A T env iter own R) (hs : ∀ x, foldedSetIterable iter env x = pure x := by intro _; rfl) : XE W A T env (.ListComp elt (⟨target, iter, ifs, 0⟩ :: gs) scope pos) own R := fun fz s H ht => by
  rw [eval_ListComp]
  exact wpAny_comprehension_free (use := none) rfl hs hclos hkind hnames (h.go H ht (.refl _))
noncomputable def X2 {α : Type} (W : Wd) (A : Around) (T : Heap → Own → Heap → Addr → Prop) (f : Value → Value → Sem α) (a b : V) (own : Own) (R : Own → Prop) : Prop :=
  ∀ fz s v u, Hold W fz own s → W.tk ≤ s.toks → RV fz a v → RV fz b u → wpAny (model W.prog W.w) A (f v u) (fun _ _ => False) (XP W T R fz) s
theorem XE_Sub {o i : Expr} {pos : Pos} (h : SE W A env o own fun a o1 => SE W A env i o1 fun b o2 => X2 W A T (subscriptTail o i) a b o2 R) : XE W A T env (.Subscript o i pos) own R := fun fz s H ht =>
  Subscript_ (x_then (h fz s H ht) ht fun fz1 va a o1 s1 k1 H1 t1 r1 q1 => wpAny_mono (x_then (T := T) (R := R) (P := fun i s₂ => wpAny _ _ (subscriptTail o _ _ i) (fun _ _ => False) (XP W T R fz1) s₂) (q1 fz1 s1 H1 t1) t1 fun fz2 vb b o2 s2 k2 H2 t2 r2 q2 =>
    wpAny_mono (q2 fz2 s2 va vb H2 t2 (r1.mono k2) r2) (fun _ _ x => x) fun _ _ x => x.weak k2) (fun _ _ x => wpAny_mono x (fun _ _ x => x) fun _ _ x => x.weak k1) fun _ _ x => x.weak k1)
/-! ### a dict from texts to ints -/
noncomputable def DicP (prog : Program) (w : World) (f : List Nat → Option Int) : Heap → Obj → Prop := fun _ o => ∃ es ep, o.ExactDict ∧ o.data = .dict es ep ∧ KeysOf (PySem.strKind prog w) es ∧
  ∀ k, match f k with | some i => ∃ t, findBy (PySem.strKind prog w).is es (S k) = some (.int i t) | none => findBy (PySem.strKind prog w).is es (S k) = none
theorem dic_map {fz : Heap} {s : Shared} {d : Addr} {f : List Nat → Option Int} (H : Hold W fz own s) (hm : (d, Ob.prop (DicP W.prog W.w f)) ∈ own) :
    ∃ g, s.heap.MapOf (PySem.strKind W.prog W.w) d g ∧ ∀ k, match f k with | some i => ∃ t, g (S k) = some (.int i t) | none => g (S k) = none := by
  obtain ⟨o, ho, fz₀, k, es, ep, h1, h2, h3, h4⟩ := H.get hm
  exact ⟨_, ⟨o, es, ep, ho, h1, h2, h3, fun _ => rfl⟩, h4⟩
theorem sub_dic {o i : Expr} {d : Addr} {f : List Nat → Option Int} {k : List Nat} {n : Int} {Q : V → Own → Prop} (hm : (d, Ob.prop (DicP W.prog W.w f)) ∈ own) (hf : f k = some n) (h : Q (.int n) own)
    (hs : ∀ v u, subscripted i false v u = operate [v, u] (getItem v u) := by intro _ _; with_unfolding_all rfl) : S2 W A RV (subscriptTail o i) (.ref d) (.str (S k)) own Q := fun fz s v u H ht r1 r2 => by
  cases r1.val_inv
  obtain ⟨t, rfl⟩ := r2.str_inv
  obtain ⟨g, hg, hk⟩ := dic_map H hm
  have := hk k
  rw [hf] at this
  obtain ⟨t2, e⟩ := this
  exact tail_any hg.typeIs slot_dict_getitem.lookup (wpAny_getItem_of (by simp [PySem.strKind, Value.isStrOf]) hg e (at_tok H _ (.dat (.int _ _)) h)) (hs _ _)
theorem x_dic {o i : Expr} {d : Addr} {f : List Nat → Option Int} {k : List Nat} (hh : A.handled = none) (hd : (d == sysModules) = false) (hm : (d, Ob.prop (DicP W.prog W.w f)) ∈ own) (hf : f k = none) (h : R own)
    (hs : ∀ v u, subscripted i false v u = operate [v, u] (getItem v u) := by intro _ _; with_unfolding_all rfl) : X2 W A (NewX "KeyError") (subscriptTail o i) (.ref d) (.str (S k)) own R := fun fz s v u H ht r1 r2 => by
  cases r1.val_inv
  obtain ⟨t, rfl⟩ := r2.str_inv
  obtain ⟨g, hg, hk⟩ := dic_map H hm
  have := hk k
  rw [hf] at this
  refine tail_any hg.typeIs slot_dict_getitem.lookup (wpAny_getItem_missing_of (by simp [PySem.strKind, Value.isStrOf]) hd hh hg this fun h' e x => ?_) (hs _ _)
  obtain ⟨H', nx⟩ := newX_of (k := s.toks + 1) H x
  exact ⟨e, fz, own, rfl, .refl _, H', by show W.tk ≤ s.toks + 1; (first | decide | exact Nat.le_trans (by assumption) (by decide) | lia | omega), nx, h⟩
/-- a dict display of written texts and ints -/
noncomputable def dicOf : List (List Nat × Int) → List Nat → Option Int
  | [], _ => none
  | (k, n) :: r, x => if x = k then some n else dicOf r x
theorem S_eq {a b : List Nat} : (S a = S b) = (a = b) := propext S_inj
theorem SE_Dic4 {x1 x2 x3 x4 : Str} {l1 l2 l3 l4 : List Nat} {i1 i2 i3 i4 : Int} {a1 a2 a3 a4 b1 b2 b3 b4 : Nat} {p1 p2 p3 p4 q1 q2 q3 q4 pos : Pos} {Q : V → Own → Prop} (e1 : lit x1 = l1) (e2 : lit x2 = l2) (e3 : lit x3 = l3) (e4 : lit x4 = l4) (nd : [l1, l2, l3, l4].Nodup)
    (h : ∀ d, (d == sysModules) = false → Q (.ref d) ((d, .prop (DicP W.prog W.w (dicOf [(l1, i1), (l2, i2), (l3, i3), (l4, i4)]))) :: own)) :
    SE W A env (.Dict [some (.Constant (.str x1) a1 p1), some (.Constant (.str x2) a2 p2), some (.Constant (.str x3) a3 p3), some (.Constant (.str x4) a4 p4)] [.Constant (.int i1) b1 q1, .Constant (.int i2) b2 q2, .Constant (.int i3) b3 q3, .Constant (.int i4) b4 q4] pos) own Q := fun fz s H ht => by
  have E1 : x1 = S l1 := by rw [← e1, S_lit]
  have E2 : x2 = S l2 := by rw [← e2, S_lit]
  have E3 : x3 = S l3 := by rw [← e3, S_lit]
  have E4 : x4 = S l4 := by rw [← e4, S_lit]
  subst E1 E2 E3 E4
  clear e1 e2 e3 e4
  refine wpAny_Dict_walk (knd := PySem.strKind W.prog W.w) rfl rfl (by simp) (by simp) ?_
  refine pairTrees_cons_walk (wpAny_Constant_str (wpAny_Constant_int ?_))
  refine pairTrees_cons_walk (wpAny_Constant_str (wpAny_Constant_int ?_))
  refine pairTrees_cons_walk (wpAny_Constant_str (wpAny_Constant_int ?_))
  refine pairTrees_cons_walk (wpAny_Constant_str (wpAny_Constant_int ?_))
  refine pairTrees_nil_walk ?_
  have hnd : (([S l1, S l2, S l3, S l4] : List Str)).Nodup := by
    simp only [List.nodup_cons, List.mem_cons, List.not_mem_nil, or_false, S_eq] at nd ⊢
    exact ⟨nd.1, nd.2.1, nd.2.2.1, nd.2.2.2.1, List.nodup_nil⟩
  refine display_done_str rfl hnd (Heap.DictOf.new _) fun h' hd hs => ?_
  have hsz : mainGlobals < s.heap.objs.size := (W.top.g.keeps H.keep).lt
  have hns : (s.heap.objs.size == sysModules) = false := by
    rw [beq_eq_false_iff_ne]
    intro e
    rw [e] at hsz
    exact absurd hsz (by decide)
  have H1 : Hold W fz ((s.heap.objs.size, .prop (fun _ _ => True)) :: own) { s with heap := s.heap.push { cls := .type "dict", data := .dict #[] } } := H.new (k := s.toks) (Keep.push _ _) (get?_ge (Nat.le_refl _)) (Heap.get?_push_size _ rfl) ⟨fz, Keep.refl _, trivial⟩
  have hd' := hd
  obtain ⟨o, es, ep, ho, x1, x2, x3, x4, x5⟩ := hd'
  have hm := hd.mapOf
  obtain ⟨o', es', ep', ho', y1, y2, y3, y4⟩ := hm
  have H2 := H1.set (k := s.toks + 1 + 1 + 1 + 1 + 1 + 1 + 1 + 1 + 4) (ob' := .prop (DicP W.prog W.w (dicOf [(l1, i1), (l2, i2), (l3, i3), (l4, i4)]))) .here hs ho' ⟨fz, Keep.refl _, es', ep', y1, y2, y3, fun k => ?_⟩
  · exact ⟨fz, _, _, .refl _, H2, .val _, h _ hns⟩
  · rw [y4]
    simp only [strPairs, valueAt, dicOf, List.find?_cons, List.find?_nil, S_eq]
    by_cases h1 : k = l1
    · subst h1; simp
    · rw [if_neg h1, decide_eq_false (fun e => h1 e.symm)]
      by_cases h2 : k = l2
      · subst h2; simp
      · rw [if_neg h2, decide_eq_false (fun e => h2 e.symm)]
        by_cases h3 : k = l3
        · subst h3; simp
        · rw [if_neg h3, decide_eq_false (fun e => h3 e.symm)]
          by_cases h4 : k = l4
          · subst h4; simp
          · rw [if_neg h4, decide_eq_false (fun e => h4 e.symm)]; simp
/-! ### a list extended by a list -/
theorem call_extendO {D E : Addr} {a b : List V} {own' : Own} {Q : V → Own → Prop} (hE : (E, Ob.list b) ∈ own) (u : Upd D (.list a) (.list (a ++ b)) own own') (hz : a.length + b.length ≤ 1000) (h : Q .none own') : SL W A RV (fun vs => call (.builtin "list.extend") vs) [.ref D, .ref E] own Q := SL2 fun fz s v w H ht r1 r2 => by
  cases r1.val_inv
  cases r2.val_inv
  obtain ⟨_, ho, vs, n, rfl, rs⟩ := H.get u.mem
  obtain ⟨_, ho2, ws, n2, rfl, rs2⟩ := H.get hE
  have h1 := rs.length
  have h2 := rs2.length
  have hsz : vs.toArray.size + ws.toArray.size ≤ sizeLine := by simp only [List.size_toArray]; rw [sizeLine_eq]; (first | decide | exact Nat.le_trans (by assumption) (by decide) | lia | omega)
  refine call_meets PySem.F.slot_list_extend ⟨_, ho, rfl⟩ PySem.F.entry_list_extend (PySem.F.args_list_extend_2 _ _) (AutoSeq1.list_extend_list_list_0 D vs.toArray n E ws.toArray n2 (extend_door hsz) (Nat.le_trans (Nat.le_add_right _ _) hsz) (Nat.le_succ_of_le hsz)) ⟨ho, ho2, ?_⟩
  have e := mapSeq_app' (vs := vs) (ws := ws) (n := n)
  have hg := Heap.get?_update_self (Obj.mapSeq fun x => x ++ ws.toArray) ho (by rw [e]; rfl)
  rw [e] at hg
  exact ⟨fz, _, own', .refl _, H.set (k := s.toks) u (Heap.SameBut.update ..) hg ⟨_, _, rfl, rs.append rs2⟩, .dat .none, h⟩
theorem mth_extend {D : Addr} {l : List V} {pl : Sem Bool} {Q : Value × List V → Own → Prop} (hm : (D, Ob.list l) ∈ own) (h : Q (.builtin "list.extend", [.ref D]) own) : SMth W A (Str.ofString "extend") pl (.ref D) own Q := mth_list hm PySem.F.slot_list_extend PySem.F.type_list_extend h
/-! ### a thing's own attribute that hides a method -/
theorem method_shadow {x C : Addr} {ox : Obj} {od : Option Obj} {name : Str} {f : Value} {pl : Sem Bool} {K : Frag} {prog : Program} {w : World} {E : Value → Shared → Prop} {s : Shared} {Q : Value × List Value → Shared → Prop} (X : K.In s.heap) (I : InstAt s.heap x ox C od) (hga : findIn K (.ref C) "__getattribute__" = some (some (.builtin "object.__getattribute__"))) (hk : findIn K (.ref C) "__getattr__" = some none)
    (hf : findIn K (.ref C) name = some (some f)) (ht : typeIn K f = some (.type "function")) (hs : shadowIn od name = some true) (h : wpAny (model prog w) A (getAttr (.ref x) name) (fun v => Q (v, [])) E s) :
    wpAny (model prog w) A (getMethod (.ref x) name pl) Q E s := by
  have hcan := PySem.F.canon_object_ga
  have u : wpAny (model prog w) A (do return (← getAttr (.ref x) name, ([] : List Value))) Q E s := wpAny_bind (wpAny_mono h (fun _ _ z => wpAny_pure z) fun _ _ z => z)
  unfold getMethod specialOf
  refine wpAny_bind (wpAny_bind (I.type.here ((looks_findIn X hga).here ?_)))
  dsimp only
  rw [hcan, if_neg (by decide)]
  refine wpAny_bind (wpAny_bind (I.type.here ((looks_findIn X hk).here ?_)))
  refine wpAny_bind (wpAny_bind (I.type.here ((looks_findIn X hf).here (wpAny_bind ((looks_typeIn X ht).here ?_)))))
  rw [if_neg (by decide +kernel)]
  refine wpAny_bind (wpAny_loadPart I.at_ ?_)
  have hd := I.dict
  cases e : ox.dict with
  | none =>
    cases od with
    | none => cases hs
    | some o => rw [e] at hd; exact hd.elim
  | some dx =>
    cases od with
    | none => rw [e] at hd; exact hd.elim
    | some o =>
      rw [e] at hd
      obtain ⟨r, a, b⟩ := Option.map_eq_some_iff.mp hs
      refine wpAny_bind (wpAny_bind (wpAny_loadPart hd ?_))
      rw [nsLook_of a]
      refine wpAny_pure ?_
      rw [b]
      exact u
theorem mth_own {x dx C f : Addr} {loc : List (Str × V)} {name : Str} {pl : Sem Bool} {g : Addr} {Q : Value × List V → Own → Prop} (hc : ClsOk W.K C) (h1 : (x, Ob.obj (instObj C dx)) ∈ own) (h2 : (dx, Ob.att loc) ∈ own)
    (hf : findIn W.K (.ref C) name = some (some (.ref f))) (hty : typeIn W.K (.ref f) = some (.type "function")) {gv : Option Value} (hg : specialIn W.K (.ref f) "__get__" = some gv) (htk : takesIn W.K (.ref f) = some false) (hx : (name, V.ref g) ∈ loc)
    (h : Q (.ref g, []) own) : SMth W A name pl (.ref x) own Q := fun fz s v H tk r => by
  cases r.val_inv
  obtain ⟨od, hod, ha, I⟩ := inst_at H h1 h2
  obtain ⟨es, ep, hd, hk, hsz, h3, h4⟩ := ha
  obtain ⟨u, e, ru⟩ := h3 _ hx
  cases ru.val_inv
  obtain ⟨cd, hcd, hdict⟩ := any_some hc.dict
  refine method_shadow H.kin I hc.ga hc.gattr hf hty ?_ (get_value (v := .ref g) H.kin I hc.ga ?_ (handed_ref fz _ ru) ⟨fz, _, own, .refl _, H.toks _, ⟨rfl, .nil⟩, h⟩)
  · unfold shadowIn
    dsimp only
    rw [lookIn_of hd hk, e]
    rfl
  · unfold findObj
    rw [hcd, Option.bind_some, hf, Option.bind_some]
    dsimp only
    rw [hg, Option.bind_some]
    have hown : PySem.W.ownOf cd (some od) name = some (some (.ref g)) := by
      unfold PySem.W.ownOf
      rw [hdict, if_pos rfl]
      dsimp only
      rw [lookIn_of hd hk, e]
    cases gv with
    | none => dsimp only; rw [Option.bind_some]; dsimp only; rw [hown]; rfl
    | some gv => dsimp only; rw [htk, Option.bind_some]; dsimp only; rw [hown]; rfl
end
section
variable {W : Wd} {A : Around} {env : Env} {own : Own} {T : Heap → Own → Heap → Addr → Prop} {R : Own → Prop}
/-! ### a lambda -/
noncomputable def FnL (name qual : Str) (params : Arguments) (body : Expr) (scope : Scope) (clos : List (Str × Addr)) : Heap → Obj → Prop := fun fz o =>
  ∃ pm c' ctv, o = kla_obj name qual params body scope clos pm c' ctv ∧ fz.CodeRec (.ref c') qual
theorem make_lam {name qual : Str} {params : Arguments} {body : Expr} {scope : Scope} {clos : List (Str × Addr)} {c P : Addr} {pos : Pos} {firstLine : Nat} {own' : Own} {Q : V → Own → Prop}
    (hcl : closureFor scope env = pure clos) (hg : env.globals = mainGlobals) (hcode : env.code = .ref c) (hC : codeHdIn W.K c P = true) (u : Upd P (.prop (TabP pos qual)) (.prop (TabP pos qual)) own own')
    (h : ∀ f, Q (.ref f) ((f, .prop (FnL name qual params body scope clos)) :: own')) :
    SG W A RV (makeFunction name qual params (.expr body) scope env [] [] [] pos firstLine) own Q := fun fz s H ht => by
  obtain ⟨oP, fz₀, hP, k₀, hp⟩ := H.prop u.mem
  have hgs := W.top.g.keeps H.keep
  obtain ⟨bm, ob, b1, b2, b3, b4, b5, b6⟩ := W.bm
  have b3' := H.keep _ _ b3
  have hcls : oP.cls = .none := by rcases hp with rfl | ⟨c', rfl, _⟩ <;> rfl
  have hdt : ∃ vs, oP.data = .fields vs := by rcases hp with rfl | ⟨c', rfl, _⟩ <;> exact ⟨_, rfl⟩
  have hgP : mainGlobals ≠ P := fun q => by
    obtain ⟨o, es, ep, e, hd, _⟩ := hgs
    obtain ⟨vs, hv⟩ := hdt
    rw [q, hP] at e; cases e; rw [hd] at hv; cases hv
  have hbP : bm ≠ P := fun q => by
    rw [q, hP] at b3'; cases b3'; rw [hcls] at b4; cases b4
  have hbG : bm ≠ mainGlobals := fun q => by
    obtain ⟨o, es, ep, e, hd, _⟩ := hgs
    rw [q, e] at b3'; cases b3'; rw [hd] at b6; cases b6
  have C := codeHd_of_K H.kin hC
  rcases hp with rfl | ⟨c', rfl, hrec⟩
  · refine kla_makeFunction (mg := W.mg) hcl hg hgs hcode C hP trivial rfl hgP ⟨bm, ob, b1, b2, hbG, hbP, b3', b4, b5, b6⟩ fun c' ctv h' tk hx hge hlt hrec htb => ?_
    have hrec' := hrec
    obtain ⟨c₂, oc, vs, t, e2, hoc, hd, hv⟩ := hrec
    cases e2
    have hcr : (putH fz c' oc).CodeRec (.ref c') qual := ⟨c', oc, vs, t, rfl, putH_at (notFreed hoc), hd, hv⟩
    obtain ⟨kk, H'⟩ := H.made (k := tk) u hx hge hoc (notFreed hoc) htb ⟨_, Keep.refl _, .inr ⟨c', rfl, hcr⟩⟩ rfl
    refine ⟨_, _, _, kk, H'.new (ob := .prop (FnL name qual params body scope clos)) (k := tk) (Keep.push _ _) (get?_ge (Nat.le_refl _)) (Heap.get?_push_size _ rfl) ?_, .val _, h _⟩
    exact ⟨_, Keep.refl _, _, c', ctv, rfl, hcr⟩
  · have hrec2 := hrec.keeps k₀
    refine kla_makeFunctionHit (mg := W.mg) (cv := .ref c') hcl hg hgs hcode C hP trivial (by simp [codeAmong, rawInt]) ⟨bm, ob, b1, b2, hbG, hbP, b3', b4, b5, b6⟩ fun ctv h' tk hk hsz => ?_
    have H' : Hold W fz own' { s with heap := h', toks := tk } := by
      have H1 := H.grow (k := tk) hk
      refine ⟨H1.base, H1.has, fun p hp => ?_, fun p hp => ?_, by rw [u.keys]; exact H1.nd, H1.gens.upd u rfl, H1.os⟩
      · rcases u.other p hp with rfl | hp
        · exact ⟨_, hk _ _ hP, fz, Keep.refl _, .inr ⟨c', rfl, hrec2⟩⟩
        · exact H1.obs p hp
      · rcases u.other p hp with rfl | hp
        · exact H1.out _ u.mem
        · exact H1.out p hp
    refine ⟨fz, _, _, Keep.refl _, H'.new (ob := .prop (FnL name qual params body scope clos)) (k := tk) (Keep.push _ _) (get?_ge (Nat.le_refl _)) (Heap.get?_push_size _ rfl) ?_, .val _, h _⟩
    exact ⟨fz, Keep.refl _, _, c', ctv, rfl, hrec2⟩
theorem SE_Lambda {params : Arguments} {body : Expr} {scope : Scope} {pos : Pos} {qual : Str} {Q : V → Own → Prop} (hq : env.qual ++ "<lambda>" = qual) (h : SG W A RV (makeFunction "<lambda>" qual params (.expr body) scope env [] [] [] pos pos.line) own Q)
    (hdef : defaultsOf params env = ([], []) := by rfl) : SE W A env (.Lambda params body scope pos) own Q := fun fz s H ht => by
  subst hq
  exact kla_eval hdef (h fz s H ht)
theorem kp_lam {f : Addr} {name qual : Str} {params : Arguments} {body : Expr} {scope : Scope} {clos : List (Str × Addr)} (hm : (f, Ob.prop (FnL name qual params body scope clos)) ∈ own) : KpO W own (.ref f) := fun fz s H => by
  obtain ⟨o, fz₀, ho, k, pm, c', ctv, rfl, _⟩ := H.prop hm
  exact ⟨.frame, .inl rfl, (Looks.ld (part := none) ho).andThen .now⟩
theorem SSs.bind : ∀ {xs : List Str} {l : List V} {own : Own} {Q : Own → Prop}, SSs W A env xs l own Q → ∀ (f : Str × Value → PUnit → Sem (ForInStep PUnit)), (∀ n v u, f (n, v) u = (do storeName env n v; pure (.yield ⟨⟩))) →
    ∀ {fz : Heap} {s : Shared} {vs : List Value} {P : PUnit → Shared → Prop}, Hold W fz own s → W.tk ≤ s.toks → RVs fz l vs → (∀ fz' o s', Keep fz fz' → Hold W fz' o s' → W.tk ≤ s'.toks → Q o → P ⟨⟩ s') → wpAny (model W.prog W.w) A (forIn (xs.zip vs) (PUnit.unit : PUnit) f) P NoX s
  | [], [], own, Q, h, f, hf, fz, s, vs, P, H, ht, r, q => by cases r; exact wpAny_pure (q fz own s (.refl _) H ht h)
  | x :: xs, a :: as, own, Q, h, f, hf, fz, s, vs, P, H, ht, r, q => by
    cases r with
    | @cons _ v _ vs' r rs =>
    rw [List.zip_cons_cons, List.forIn_cons, hf]
    refine wpAny_bind (wpAny_bind (wp_then (h fz s _ H ht r) ht fun fz1 _ _ o1 s1 k1 H1 t1 _ q1 => wpAny_pure ?_))
    exact SSs.bind q1 f hf H1 t1 (rs.mono k1) fun fz' o s' k' H' t' q' => q fz' o s' (k1.trans k') H' t' q'
  | [], _ :: _, _, _, h, _, _, _, _, _, _, _, _, _, _ => h.elim
  | _ :: _, [], _, _, h, _, _, _, _, _, _, _, _, _, _ => h.elim
/-- into a made lambda's frame: two of its names are captured, it captures others -/
theorem in_lam {f : Addr} {args : List V} {name qual : Str} {params : Arguments} {body : Expr} {scope : Scope} {clos : List (Str × Addr)} {RR : Result → Shared → Prop} {fz : Heap} {s : Shared} {vs : List Value} {y1 y2 : Str}
    (names : List Str) (hm : (f, Ob.prop (FnL name qual params body scope clos)) ∈ own) (hroom : A.depth < recursionLimit)
    (hb : ∀ s vs pm c' ctv, vs.length = args.length → BindsTo s (kla_fn name qual params body scope clos pm (.ref c') ctv) ⟨vs, []⟩ (names.zip vs))
    (hpc : ∀ h, pushCells h scope.names = (h.push { cls := .type "cell", data := .cell none }).push { cls := .type "cell", data := .cell none })
    (hcl : ∀ n : Nat, cellsFrom n scope.names clos = (y2, n + 1) :: (y1, n) :: clos)
    (H : Hold W fz own s) (ht : W.tk ≤ s.toks) (rs : RVs fz args vs) (hco : scope.isCoroutine = false) (hgen : scope.isGenerator = false) (hk : scope.kind = .function)
    (h : ∀ L cdv, SSs W A.in1 (envX qual scope L f cdv ((y2, L + 1 + 1) :: (y1, L + 1) :: clos)) names args ((L + 1 + 1, .cell none) :: (L + 1, .cell none) :: (L, .ns []) :: own) fun o1 => ∀ fz' s', Keep fz fz' → Hold W fz' o1 s' → W.tk ≤ s'.toks →
      wpAny (model W.prog W.w) (A.deeper (envX qual scope L f cdv ((y2, L + 1 + 1) :: (y1, L + 1) :: clos))) (eval body (envX qual scope L f cdv ((y2, L + 1 + 1) :: (y1, L + 1) :: clos))) (fun v s' => RR (.ok (.ret v)) s')
        (fun e' s' => wpAny (model W.prog W.w) (A.deeper (envX qual scope L f cdv ((y2, L + 1 + 1) :: (y1, L + 1) :: clos))) (leaving (envX qual scope L f cdv ((y2, L + 1 + 1) :: (y1, L + 1) :: clos)) e') (fun _ s'' => RR (.error e') s'') (fun e'' s'' => RR (.error e'') s'') s') s') :
    codeAny (model W.prog W.w) A (.call (.ref f) ⟨vs, []⟩) RR s := by
  obtain ⟨o, fz₀, ho, k₀, pm, c', ctv, rfl, hrec⟩ := H.prop hm
  refine kla_callFunE hroom ho rfl hco hgen rfl (hrec.keeps (k₀.trans H.has)) (hb s vs pm c' ctv rs.length.symm _ _ _ _ ?_)
  simp only [newFunctionEnv, Option.isSome_none, Bool.false_eq_true, if_false]
  refine wpAny_bind (wpAny_alloc ?_)
  refine wpAny_bind (wpAny_layCells _ (fun name kind cells => by cases hkc : kind == NameKind.cell <;> simp [hkc]) _ _ _ _ ?_)
  rw [show ({ s with heap := s.heap.push { cls := .type "frame", data := .dict #[] } } : Shared).heap.objs.size = s.heap.objs.size + 1 from Heap.size_push .., hcl, hpc]
  have H1 : Hold W fz ((s.heap.objs.size, .ns []) :: own) { s with heap := s.heap.push { cls := .type "frame", data := .dict #[] } } := H.new (k := s.toks) (ob := .ns []) (Keep.push _ _) (get?_ge (Nat.le_refl _)) (Heap.get?_push_size _ rfl) ⟨#[], _, rfl, fun e he => by simp at he, fun p hp => (nomatch hp)⟩
  have H2 := H1.new (k := s.toks) (ob := .cell none) (Keep.push _ { cls := .type "cell", data := .cell none }) (get?_ge (Nat.le_refl _)) (Heap.get?_push_size _ rfl) rfl
  have H3 := H2.new (k := s.toks) (ob := .cell none) (Keep.push _ { cls := .type "cell", data := .cell none }) (get?_ge (Nat.le_refl _)) (Heap.get?_push_size _ rfl) rfl
  simp only [Heap.size_push] at H3
  have q := h s.heap.objs.size (.ref c')
  refine wpAny_bind (wpAny_mono (SSs.bind (P := fun _ s' => ∃ fz' o1, Keep fz fz' ∧ Hold W fz' o1 s' ∧ W.tk ≤ s'.toks ∧ ∀ fz' s', Keep fz fz' → Hold W fz' o1 s' → W.tk ≤ s'.toks →
      wpAny (model W.prog W.w) (A.deeper (envX qual scope s.heap.objs.size f (.ref c') ((y2, s.heap.objs.size + 1 + 1) :: (y1, s.heap.objs.size + 1) :: clos))) (eval body (envX qual scope s.heap.objs.size f (.ref c') ((y2, s.heap.objs.size + 1 + 1) :: (y1, s.heap.objs.size + 1) :: clos))) (fun v s' => RR (.ok (.ret v)) s')
        (fun e' s' => wpAny (model W.prog W.w) (A.deeper (envX qual scope s.heap.objs.size f (.ref c') ((y2, s.heap.objs.size + 1 + 1) :: (y1, s.heap.objs.size + 1) :: clos))) (leaving (envX qual scope s.heap.objs.size f (.ref c') ((y2, s.heap.objs.size + 1 + 1) :: (y1, s.heap.objs.size + 1) :: clos)) e') (fun _ s'' => RR (.error e') s'') (fun e'' s'' => RR (.error e'') s'') s') s')
    q _ (fun _ _ _ => rfl) H3 ht rs fun fz' o s' k' H' t' q' => ⟨fz', o, k', H', t', q'⟩) ?_ fun _ _ x => x.elim)
  rintro _ s' ⟨fz', o1, k', H', t', q'⟩
  refine wpAny_pure ⟨W.top.nolimit.keeps H'.keep, ?_⟩
  exact kla_codeExpr (q' fz' s' k' H' t')
end
section
variable {W : Wd} {A : Around} {env : Env} {own : Own} {T : Heap → Own → Heap → Addr → Prop} {R : Own → Prop}
/-! ### calls that raise -/
noncomputable def XLC (W : Wd) (A : Around) (T : Heap → Own → Heap → Addr → Prop) (f : Value) (args : List V) (own : Own) (R : Own → Prop) : Prop :=
  ∀ fz s vs, Hold W fz own s → W.tk ≤ s.toks → RVs fz args vs → codeAny (model W.prog W.w) A (.call f ⟨vs, []⟩) (fun r s' => match r with | .ok _ => False | .error v => XP W T R fz v s') s
noncomputable def XLs (W : Wd) (A : Around) (T : Heap → Own → Heap → Addr → Prop) (f : List Value → Sem Value) (l : List V) (own : Own) (R : Own → Prop) : Prop :=
  ∀ fz s vs, Hold W fz own s → W.tk ≤ s.toks → RVs fz l vs → wpAny (model W.prog W.w) A (f vs) (fun _ _ => False) (XP W T R fz) s
theorem XLC.call {f : Value} {args : List V} (h : XLC W A T f args own R) : XLs W A T (fun vs => call f vs) args own R := fun fz s vs H ht rs =>
  wpAny_call (codeAny_mono (h fz s vs H ht rs) fun r s' x => by rcases r with e | (v | _ | _ | _) <;> first | exact x | exact x.elim)
theorem SSs.mono' {Q Q' : Own → Prop} (q : ∀ o, Q o → Q' o) : ∀ {xs : List Str} {l : List V} {own : Own}, SSs W A env xs l own Q → SSs W A env xs l own Q'
  | [], [], own, h => q own h
  | x :: xs, a :: as, own, h => (S1.mono h fun _ o1 h1 => SSs.mono' q h1 : S1 W A RU (storeName env x) a own _)
  | [], _ :: _, _, h => h.elim
  | _ :: _, [], _, h => h.elim
theorem x_callWith' {pos : Pos} {f : Value} {first : List V} {firstV : List Value} {args : List Expr} {fz fz0 : Heap} {s : Shared} (H : Hold W fz own s) (ht : W.tk ≤ s.toks) (k0 : Keep fz0 fz) (rf : RVs fz first firstV)
    (hp : (backTo pos (starEach args env)).any (·.1) = false) (h : SEs W A env pos args own fun l o2 => KpO W o2 f ∧ XLs W A T (fun vs => call f vs) (first ++ l) o2 R) :
    wpAny (model W.prog W.w) A (callWith pos f firstV (backTo pos (starEach args env)) []) (fun _ _ => False) (XP W T R fz0) s := by
  have key : wpAny (model W.prog W.w) A (evalArgs f true (backTo pos (starEach args env)) []) (fun a s₁ => (∃ k, (k = Keeper.frame ∨ k = Keeper.machine ∨ k = Keeper.boundFrame) ∧ Looks (model W.prog W.w) s₁.heap (keeperOf f) k) ∧
      wpAny (model W.prog W.w) A (call f (firstV ++ a.pos) a.kw) (fun _ _ => False) (XP W T R fz0) s₁) (XP W T R fz0) s := by
    have h1 : wpAny (model W.prog W.w) A (spliced (backTo pos (starEach args env))) (fun vs s₁ => (∃ k, (k = Keeper.frame ∨ k = Keeper.machine ∨ k = Keeper.boundFrame) ∧ Looks (model W.prog W.w) s₁.heap (keeperOf f) k) ∧
      wpAny (model W.prog W.w) A (call f (firstV ++ vs) []) (fun _ _ => False) (XP W T R fz0) s₁) (XP W T R fz0) s := by
      refine wpAny_mono (wp_then (P := fun vs s₁ => (∃ k, (k = Keeper.frame ∨ k = Keeper.machine ∨ k = Keeper.boundFrame) ∧ Looks (model W.prog W.w) s₁.heap (keeperOf f) k) ∧
        wpAny (model W.prog W.w) A (call f (firstV ++ vs) []) (fun _ _ => False) (XP W T R fz0) s₁) (h fz s H ht) ht fun fz1 vs l o1 s1 k1 H1 t1 r1 q1 => ⟨q1.1 fz1 s1 H1, ?_⟩) (fun _ _ x => x) fun _ _ x => x.elim
      exact wpAny_mono (q1.2 fz1 s1 _ H1 t1 ((rf.mono k1).append r1)) (fun _ _ x => x) fun _ _ x => x.weak (k0.trans k1)
    generalize backTo pos (starEach args env) = trees at hp h1 ⊢
    cases trees with
    | nil =>
      unfold evalArgs
      show wpAny _ _ (spliced [] >>= _) _ _ _
      refine wpAny_bind (wpAny_mono h1 (fun vs s' h' => wpAny_bind (wpAny_pure ?_)) fun _ _ x => x)
      refine wpAny_holding ?_
      exact wpAny_bind (wpAny_pure (wpAny_bind (wpAny_pure (wpAny_pure h'))))
    | cons t rest =>
      obtain ⟨b, t⟩ := t
      cases b with
      | false => exact Calls.evalArgs_plain h1
      | true => simp at hp
  exact callWith_of (P := fun h => ∃ k, (k = Keeper.frame ∨ k = Keeper.machine ∨ k = Keeper.boundFrame) ∧ Looks (model W.prog W.w) h (keeperOf f) k) (by simpa using hp) (fun h x => x) key
/-- an exception made in a frame leaves it -/
theorem leave_new {X : String} {fs : List Env} {L : Addr} {fz0 : Heap} {E : Value → Shared → Prop} {s : Shared} {v : Value} {R' : Own → Prop} {P : Unit → Shared → Prop} (hfr : A.frames = some (env :: fs)) (hL : env.frame = some L)
    (x : XP W (NewX X) (fun o => FrO o (env :: fs) ∧ R' o) fz0 v s) (q : ∀ s', XP W (FlyX X .none) R' fz0 v s' → P () s') : wpAny (model W.prog W.w) A (leaving env v) P E s := by
  obtain ⟨e, fz', o, rfl, k, H, t, nx, hF, r⟩ := x
  unfold leaving
  refine wpAny_bind (note_new hfr hF hL H nx fun h' H' fx => ?_)
  exact fly_set H' fx fun h2 H2 fx2 => q _ ⟨e, fz', o, rfl, k, H2, t, fx2, r⟩
/-- a lambda that raises -/
theorem lam_raise {X : String} {fs : List Env} {f : Addr} {args : List V} {name qual : Str} {params : Arguments} {body : Expr} {scope : Scope} {clos : List (Str × Addr)} {y1 y2 : Str}
    (names : List Str) (hm : (f, Ob.prop (FnL name qual params body scope clos)) ∈ own) (hroom : A.depth < recursionLimit) (hfr : A.frames = some fs)
    (hb : ∀ s vs pm c' ctv, vs.length = args.length → BindsTo s (kla_fn name qual params body scope clos pm (.ref c') ctv) ⟨vs, []⟩ (names.zip vs))
    (hpc : ∀ h, pushCells h scope.names = (h.push { cls := .type "cell", data := .cell none }).push { cls := .type "cell", data := .cell none })
    (hcl : ∀ n : Nat, cellsFrom n scope.names clos = (y2, n + 1) :: (y1, n) :: clos) (hco : scope.isCoroutine = false) (hgen : scope.isGenerator = false) (hk : scope.kind = .function)
    (h : ∀ L cdv, SSs W A.in1 (envX qual scope L f cdv ((y2, L + 1 + 1) :: (y1, L + 1) :: clos)) names args ((L + 1 + 1, .cell none) :: (L + 1, .cell none) :: (L, .ns []) :: own) fun o1 =>
      XE W (A.deeper (envX qual scope L f cdv ((y2, L + 1 + 1) :: (y1, L + 1) :: clos))) (NewX X) (envX qual scope L f cdv ((y2, L + 1 + 1) :: (y1, L + 1) :: clos)) body o1 fun o2 => FrO o2 (envX qual scope L f cdv ((y2, L + 1 + 1) :: (y1, L + 1) :: clos) :: fs) ∧ ∃ o3, Wk o2 o3 ∧ R o3) :
    XLC W A (FlyX X .none) (.ref f) args own R := fun fz s vs H ht rs => by
  refine in_lam (y1 := y1) (y2 := y2) names hm hroom hb hpc hcl H ht rs hco hgen hk fun L cdv => ?_
  refine SSs.mono' (fun o1 h1 fz' s' k' H' t' => ?_) (h L cdv)
  refine wpAny_mono (h1 fz' s' H' t') (fun _ _ x => x.elim) fun v s2 x => ?_
  refine leave_new (Around.frames_deeper hfr) rfl (x.weak k') fun s3 y => ?_
  obtain ⟨e, fz2, o, rfl, k, H3, t3, fx, o3, wk, r⟩ := y
  exact ⟨e, fz2, o3, rfl, k, wk.hold H3, t3, fx.wk wk.keys, r⟩
/-- a lambda that gives back -/
theorem lam_call {f : Addr} {args : List V} {name qual : Str} {params : Arguments} {body : Expr} {scope : Scope} {clos : List (Str × Addr)} {y1 y2 : Str} {Q : V → Own → Prop}
    (names : List Str) (hm : (f, Ob.prop (FnL name qual params body scope clos)) ∈ own) (hroom : A.depth < recursionLimit)
    (hb : ∀ s vs pm c' ctv, vs.length = args.length → BindsTo s (kla_fn name qual params body scope clos pm (.ref c') ctv) ⟨vs, []⟩ (names.zip vs))
    (hpc : ∀ h, pushCells h scope.names = (h.push { cls := .type "cell", data := .cell none }).push { cls := .type "cell", data := .cell none })
    (hcl : ∀ n : Nat, cellsFrom n scope.names clos = (y2, n + 1) :: (y1, n) :: clos) (hco : scope.isCoroutine = false) (hgen : scope.isGenerator = false) (hk : scope.kind = .function)
    (h : ∀ L cdv, SSs W A.in1 (envX qual scope L f cdv ((y2, L + 1 + 1) :: (y1, L + 1) :: clos)) names args ((L + 1 + 1, .cell none) :: (L + 1, .cell none) :: (L, .ns []) :: own) fun o1 =>
      SE W (A.deeper (envX qual scope L f cdv ((y2, L + 1 + 1) :: (y1, L + 1) :: clos))) (envX qual scope L f cdv ((y2, L + 1 + 1) :: (y1, L + 1) :: clos)) body o1 fun a o2 => ∃ o3, Wk o2 o3 ∧ Q a o3) :
    SLC W A (.ref f) args own Q := fun fz s vs H ht rs => by
  refine in_lam (y1 := y1) (y2 := y2) names hm hroom hb hpc hcl H ht rs hco hgen hk fun L cdv => ?_
  refine SSs.mono' (fun o1 h1 fz' s' k' H' t' => ?_) (h L cdv)
  refine wpAny_mono (h1 fz' s' H' t') (fun v s2 x => ?_) fun _ _ x => x.elim
  obtain ⟨fz2, b, o2, k, H2, r, o3, wk, q⟩ := x
  exact ⟨fz2, b, o3, k'.trans k, wk.hold H2, r, q⟩
theorem XE_MethCall {o : Expr} {name : Str} {apos pos : Pos} {args : List Expr} {pl : Sem Bool}
    (h : SE W A env o own fun a o1 => SMth W A name pl a o1 fun fx o2 => SEs W A env pos args o2 fun l o3 => KpO W o3 fx.1 ∧ XLs W A T (fun vs => call fx.1 vs) (fx.2 ++ l) o3 R)
    (he : eval (.Call (.Attribute o name apos) args [] pos) env = (do
      let ov ← eval o env
      standAt apos.atName
      let (f, first) ← holding [ov] (getMethod ov name pl)
      callWith pos f first (backTo pos (starEach args env)) []) := by rfl)
    (hp : (backTo pos (starEach args env)).any (·.1) = false := by rfl) : XE W A T env (.Call (.Attribute o name apos) args [] pos) own R := fun fz s H ht => by
  refine MethodCall_ (x_then (h fz s H ht) ht fun fz1 va a o1 s1 k1 H1 t1 r1 q1 => x_then' (q1 fz1 s1 va H1 t1 r1) t1 k1 fun fz2 vb b o2 s2 k2 H2 t2 r2 q2 => ?_) he
  obtain ⟨f, fs⟩ := vb
  obtain ⟨e1, e2⟩ := r2
  dsimp only at e1 e2 ⊢
  subst e1
  exact x_callWith' H2 t2 k2 e2 hp q2
theorem XE_CallX {func : Expr} {args : List Expr} {pos : Pos}
    (h : SE W A env func own fun fv o1 => ∃ f, fv = .val f ∧ SEs W A env pos args o1 fun l o2 => KpO W o2 f ∧ XLs W A T (fun vs => call f vs) l o2 R)
    (he : eval (.Call func args [] pos) env = (do callWith pos (← eval func env) [] (backTo pos (starEach args env)) (backToKw pos (keywordEach [] env))) := by rfl)
    (hp : (backTo pos (starEach args env)).any (·.1) = false := by rfl) : XE W A T env (.Call func args [] pos) own R := fun fz s H ht => by
  refine Call_ (x_then (h fz s H ht) ht fun fz1 va a o1 s1 k1 H1 t1 r1 q1 => ?_) he
  obtain ⟨f, rfl, q⟩ := q1
  cases r1.val_inv
  exact x_callWith' (first := []) H1 t1 k1 .nil hp q
/-! ### statements that raise -/
theorem XX_Expr {e : Expr} {pos : Pos} (h : XE W A T env e own R) (hi : interactive env = false := by rfl) (hs : swapsWith e none pos.line env = pure false := by rfl) : XG W A T (exec (.Expr e pos) env) own R := fun fz s H ht =>
  wpAny_Expr_any (wpAny_mono (h fz s H ht) (fun _ _ x => x.elim) fun _ _ x => x) hi hs
theorem XX_Return {e : Expr} {pos : Pos} (h : XE W A T env e own R) : XG W A T (exec (.Return (some e) pos) env) own R := fun fz s H ht => wpAny_Return_some (wpAny_mono (h fz s H ht) (fun _ _ x => x.elim) fun _ _ x => x)
theorem XXs_here {st : Stmt} {rest : List Stmt} (h : XG W A T (exec st env) own R) : XG W A T (execs (st :: rest) env) own R := fun fz s H ht => wpAny_execs_cons (wpAny_mono (h fz s H ht) (fun _ _ x => x.elim) fun _ _ x => x)
end
section
variable {W : Wd} {A : Around} {env : Env} {own : Own} {R : Own → Prop} {Φ : End → Shared → Prop} {fz₀ : Heap} {c : Code}
/-! ### a raise through a generator's for -/
noncomputable abbrev hOut (env : Env) : Value → Sem Fin := fun e => (leaving env e).wrap (fun _ => .raise e) .raise id id
theorem sg_out {X : String} {L : Addr} {v : Value} {s : Shared} (hL : env.frame = some L) (x : XP W (FlyX X (rawInt L)) R fz₀ v s) (h : ∀ s', XP W (FlyX X .none) R fz₀ v s' → Φ (.ret (.error v)) s') : Sg (model W.prog W.w) A Φ c (hOut env v) [] s := by
  obtain ⟨e, fz', o, rfl, k, H, t, fx, r⟩ := x
  refine sg_wrap ?_
  unfold leaving
  refine wpAny_bind (note_again hL fx ?_)
  refine fly_set H fx fun h2 H2 fx2 => ?_
  exact sg_end (.error (.ref e)) (h _ ⟨e, fz', o, rfl, k, H2, t, fx2, r⟩)
theorem sg_back {X : String} {L : Addr} {v : Value} {s : Shared} {K : Flow → Sem Fin} {H : Value → Sem Fin} {gd : Bool → Bool} {lv : List Value → List Value} {fs : List Frame} (hL : env.frame = some L) (x : XP W (FlyX X (rawInt L)) R fz₀ v s)
    (h : ∀ s', XP W (FlyX X (rawInt L)) R fz₀ v s' → Sg (model W.prog W.w) A Φ c (H v) fs s') : Sg (model W.prog W.w) A Φ c (kBack env K H gd lv (.error v)) fs s := by
  obtain ⟨e, fz', o, rfl, k, Ho, t, fx, r⟩ := x
  obtain ⟨ob, vs, T, he, hd, h1⟩ := fx.fld1
  show Sg _ A Φ c ((Sem.bind (do
    if (← field (.ref e) 1) == Value.none then unsupported "frame.own-activation:exception-without-traceback"
    setFlight (.ref e) env.frame : Sem Unit) fun _ => (.raise (.ref e) : Sem Flow)).wrap K H gd lv) fs s
  rw [Sem.bind_eq_wrap, Sem.wrap_wrap]
  refine sg_wrap ?_
  refine wpAny_bind (wpAny_field he hd h1 ?_)
  rw [if_neg (show ¬ ((Value.ref T == Value.none) = true) from Bool.false_ne_true)]
  refine fly_set Ho fx fun h2 H2 fx2 => ?_
  rw [hL] at fx2
  exact h _ ⟨e, fz', o, rfl, k, H2, t, fx2, r⟩
theorem gk_raise {X : String} {st : Stmt} {K K' : Flow → Sem Fin} {gd gd' : Bool → Bool} {lv lv' : List Value → List Value} {g : Bool} {l : List Value} {cU : Code} {p : Pos} {kp : List Value} {L : Addr} {outer : List Env}
    (hfr : (A.over c [.ret (kBack env K' (hOut env) gd' lv') none g l cU p kp]).frames = some (env :: outer)) (hL : env.frame = some L)
    (h : XG W (A.over c [.ret (kBack env K' (hOut env) gd' lv') none g l cU p kp]) (FlyX X .none) (exec st env) own (fun o => FrO o (env :: outer) ∧ R o))
    (hΦ : ∀ s v, XP W (FlyX X .none) R fz₀ v s → Φ (.ret (.error v)) s) :
    Gk W A Φ fz₀ c [.ret (kBack env K' (hOut env) gd' lv') none g l cU p kp] ((exec st env).wrap K (hTurn env) gd lv) own := fun fz s k0 Ho ht => by
  refine sg_wrap (wpAny_mono (h fz s Ho ht) (fun _ _ x => x.elim) fun v s1 x => ?_)
  obtain ⟨e, fz', o, rfl, k, H1, t, fx, hF, r⟩ := x.weak k0
  refine sg_wrap (wpAny_bind (note_on hfr hF hL H1 fx fun h2 H2 fx2 => wpAny_theTreesLotGoes ?_))
  refine sg_leaf (.error (.ref e)) ?_
  refine sg_back (R := R) hL ⟨e, fz', o, rfl, k, H2, t, fx2, r⟩ fun s3 x3 => ?_
  exact sg_out hL x3 (hΦ · _)
/-- the end of a segment that may raise -/
noncomputable def OutX (W : Wd) (fz : Heap) (ga : Addr) (g : Nat) (R : V → (GenState → Prop) → Own → Prop) (S : Own → Prop) (X : String) (RX : Own → Prop) (e : End) (s' : Shared) : Prop :=
  e.quiet = true ∧ match e with
  | .ret (.ok f) => f = .ret .none ∧ ∃ fz' o, Keep fz fz' ∧ Hold W fz' ((ga, .gen g (· = .running)) :: o) s' ∧ W.tk ≤ s'.toks ∧ S o
  | .ret (.error v) => XP W (FlyX X .none) (fun o' => ∃ o, o' = (ga, .gen g (· = .running)) :: o ∧ RX o) fz v s'
  | .susp v .. => ∃ fz' b P o, Keep fz fz' ∧ Hold W fz' ((ga, .gen g (· = .running)) :: o) s' ∧ W.tk ≤ s'.toks ∧ RV fz' b v ∧ P e.genState ∧ R b P o
theorem FlyX.gen {X : String} {fl : Value} {fz : Heap} {h : Heap} {e ga : Addr} {g : Nat} {P P' : GenState → Prop} {o : Own} (x : FlyX X fl fz ((ga, .gen g P) :: o) h e) : FlyX X fl fz ((ga, .gen g P') :: o) h e := x.wk fun p hp => by
  rcases List.mem_cons.mp hp with rfl | hp
  · exact List.mem_cons_self
  · exact List.mem_cons_of_mem _ (List.mem_map_of_mem hp)
theorem gen_nextX {fz : Heap} {s : Shared} {ga : Addr} {g : Nat} {P : GenState → Prop} {R : V → (GenState → Prop) → Own → Prop} {S RX : Own → Prop} {X : String} {Q : Option Value → Shared → Prop} {E : Value → Shared → Prop} (hh : A.handled = none) (hroom : A.depth < recursionLimit)
    (hX : isSubtype (.type X) (.type "StopIteration") = pure false) (H : Hold W fz ((ga, .gen g P) :: own) s) (ht : W.tk ≤ s.toks)
    (hw : ∀ gs, P gs → ∀ s', Hold W fz ((ga, .gen g (· = .running)) :: own) s' → W.tk ≤ s'.toks → Wake (model W.prog W.w) A.in1 (OutX W fz ga g R S X RX) gs s')
    (hy : ∀ v b P' o fz' s', Keep fz fz' → Hold W fz' ((ga, .gen g P') :: o) s' → W.tk ≤ s'.toks → RV fz' b v → R b P' o → Q (some v) s')
    (hr : ∀ o fz' s', Keep fz fz' → Hold W fz' ((ga, .gen g (· = .finished)) :: o) s' → W.tk ≤ s'.toks → S o → Q none s')
    (hx : ∀ v s', XP W (FlyX X .none) (fun o' => ∃ o, o' = (ga, .gen g (· = .finished)) :: o ∧ RX o) fz v s' → E v s') : wpAny (model W.prog W.w) A (pyNext (.ref ga)) Q E s := by
  have hg := H.isGen List.mem_cons_self
  obtain ⟨gs, hgs, hP⟩ := H.gens.st _ List.mem_cons_self g P rfl
  have hw' := hw gs hP _ (H.setGen (x := .running) rfl rfl) ht
  unfold pyNext
  refine wpAny_bind (wpAny_attempt (wpAny_callSpecial?_slot (name := Str.ofString "__next__") hg.typeIs slot_gen_next
    (wpAny_call_entry slot_gen_next hg.typeIs entry_gen_next ?_ (args_gen_next _))))
  show wpAny _ _ (Builtin.Generator.genWake (.ref ga) (.send .none)) _ _ s
  unfold Builtin.Generator.genWake
  refine wpAny_bind (wpAny_holding (wpAny_genNumber hg (wpAny_bind (wpAny_genState hgs ?_))))
  have hl : s.heap.NoLimit := W.top.nolimit.keeps H.keep
  have fin : ∀ e s₁, OutX W fz ga g R S X RX e s₁ → e.quiet = true := fun e s₁ x => x.1
  cases gs with
  | running => exact hw'.elim
  | finished => exact hw'.elim
  | _ =>
    refine wpAny_bind (wpAny_roomToWake hl hroom ?_)
    show wpAny _ _ (.resume g (.send .none) [] _) _ _ s
    refine resume1 hgs hw' fin fun e₁ s₁ hx' => ?_
    obtain ⟨hq, hx'⟩ := hx'
    cases e₁ with
    | ret r =>
      cases r with
      | ok f =>
        obtain ⟨rfl, fz', o, k', H', t', hS⟩ := hx'
        show wpAny _ _ (newExc (.type "StopIteration") [] >>= _) _ _ _
        refine wpAny_bind ?_
        simp only [newExc, newTuple]
        refine wpAny_bind (wpAny_newObj_type ?_ (by size_fits))
        refine wpAny_bind (m := firstArgMember _ _) (wpAny_of_eq (a := Value.none) (by first | rfl | (simp only [firstArgMember]; rfl)) ?_)
        refine wpAny_newObj_type ?_ (by size_fits)
        simp only [raiseNew]
        refine wpAny_bind (wpAny_bind (wpAny_handled ?_))
        rw [show A.in1.handled = none from hh]
        refine wpAny_throw ?_
        refine wpAny_bind (wpAny_isInstance (T := "StopIteration") (b := true) ⟨_, Heap.get?_push_size _ rfl, rfl⟩ isSubtype_stop ?_)
        have H2 := H'.setGen (x := .finished) (P' := (· = .finished)) rfl rfl
        exact wpAny_pure (hr o fz' _ k' (H2.grow (k := s₁.toks) ((Keep.push _ _).trans (Keep.push _ _))) t' hS)
      | error v =>
        obtain ⟨e, fz', o', rfl, k', H', t', fx, o, rfl, rx⟩ := hx'
        obtain ⟨oe, hoe, hce⟩ := fx.is
        have H2 := H'.setGen (x := .finished) (P' := (· = .finished)) rfl rfl
        obtain ⟨og, hog, hcg, ⟨nm, qn, hdg⟩, _⟩ := H2.get List.mem_cons_self
        show wpAny _ _ (Builtin.Generator.genLeft (.ref ga) (.ref e)) _ _ _
        unfold Builtin.Generator.genLeft Builtin.Generator.madeByALambda
        refine wpAny_bind (wpAny_bind (wpAny_load hog (wpAny_pure ?_)))
        rw [hcg, hdg]
        have hT : (s₁.setGen g GenState.finished).TypeIs (.ref e) X := ⟨oe, hoe, hce⟩
        refine wpAny_bind (wpAny_isInstance (T := X) (b := false) hT hX ?_)
        rw [Bool.and_false, if_neg Bool.false_ne_true]
        unfold Builtin.Generator.genEscaped
        refine wpAny_bind (wpAny_isInstance (T := X) (b := false) hT hX ?_)
        dsimp only
        rw [show (!false) = true from rfl, if_pos rfl]
        refine wpAny_bind (wpAny_throw ?_)
        refine wpAny_bind (wpAny_isInstance (T := X) (b := false) hT hX ?_)
        rw [if_neg Bool.false_ne_true]
        exact wpAny_throw (hx _ _ ⟨e, fz', _, rfl, k', H2, t', fx.gen, o, rfl, rx⟩)
    | susp v g₀ l₀ k₀ c₀ p₀ fs₀ =>
      obtain ⟨fz', b, P', o, k', H', t', r, hP', hR⟩ := hx'
      exact wpAny_pure ⟨v, rfl, wpAny_pure (hy v b P' o fz' _ k' (H'.setGen (End.bare_of_quiet hq) hP') t' r hR)⟩
end
section
variable {W : Wd} {A : Around} {env : Env} {own : Own} {R : Own → Prop}
/-! ### caught: an exception that came from below -/
theorem SX_TryT {body : List Stmt} {x : Str} {px ph pos : Pos} {b₀ : Stmt} {suite : List Stmt} {X T : String} {L : Addr} {outer : List Env} {Q : Fl → Own → Prop}
    (hfr : A.frames = some (env :: outer)) (hL : env.frame = some L)
    (hk : env.scope.kind = .function) (hg : env.globals = mainGlobals) (hb : env.builtins = builtinsNs) (hl : env.kindOf x = some .globalImplicit) (hx : nsIn W.K mainGlobals x = some none)
    (hv : bootBuiltins x = some (.type T)) (hn : x ≠ "__name__") (hd : (x == ("__debug__" : Str)) = false)
    (hexc : isSubtype (.type T) (.type "BaseException") = pure true) (hnt : isSubtype (.type ((Manifest.find? T).elim "type" fun y => y.metatype)) (.type "tuple") = pure false) (hsub : isSubtype (.type X) (.type T) = pure true)
    (hbody : XG W A (FlyX X .none) (execs body env) own fun o => FrO o (env :: outer) ∧ R o)
    (h : ∀ (A' : Around) (o : Own), R o → SXs W A' env (b₀ :: suite) o Q) : SX W A env (.Try body [.ExceptHandler (some (.Name x px)) none (b₀ :: suite) ph] [] [] pos) own Q := fun fz s H ht => by
  refine wpAny_Try_except (wpAny_mono (hbody fz s H ht) (fun _ _ x => x.elim) ?_)
  rintro v s1 ⟨e, fz', o, rfl, k, H1, t1, fx, hF, r⟩
  refine note_on hfr hF hL H1 fx fun h2 H2 fx2 => ?_
  refine fly_set H2 fx2 fun h3 H3 fx3 => ?_
  refine wpAny_handleBy_builtin (X := X) (T := T) (b := true) hexc hnt hsub (name_same H3 hk hg hb hl hx hv hn hd ⟨rfl, fx3.is, ?_⟩)
  rw [if_pos rfl]
  refine fly_set H3 fx3 fun h4 H4 fx4 => ?_
  exact wpAny_mono (h _ o r fz' _ H4 t1) (fun _ _ x => x.weak k) fun _ _ x => x.elim
/-! ### next, with a default, of a generator that may raise -/
theorem next_ok {ga : Addr} {g : Nat} {P : GenState → Prop} {o0 : Own} {RY : V → (GenState → Prop) → Own → Prop} {S RX : Own → Prop} {X : String} {a : V} {Q : V → Own → Prop} (hh : A.handled = none) (hroom : A.depth < recursionLimit)
    (hX : isSubtype (.type X) (.type "StopIteration") = pure false) (hp : own.Perm ((ga, .gen g P) :: o0))
    (hw : ∀ fz gs, P gs → ∀ s', Hold W fz ((ga, .gen g (· = .running)) :: o0) s' → W.tk ≤ s'.toks → Wake (model W.prog W.w) A.in1.in1 (OutX W fz ga g RY S X RX) gs s')
    (hy : ∀ b P' o, RY b P' o → Q b ((ga, .gen g P') :: o)) (hr : ∀ o, S o → Q a ((ga, .gen g (· = .finished)) :: o)) (hx : ∀ o, ¬ RX o) : SL W A RV (fun vs => call (.builtin "next") vs) [.ref ga, a] own Q := SL2 fun fz s v w H ht r1 r2 => by
  cases r1.val_inv
  have H1 := H.perm hp
  have hg := H1.isGen List.mem_cons_self
  refine next_entry hg.typeIs slot_gen_next.lookup (gen_nextX (A := A.in1) (R := RY) (S := S) (X := X) (RX := RX) hh hroom hX H1 ht (hw fz) ?_ ?_ ?_)
  · intro v b P' o fz' s' k' H' t' rb q
    exact ⟨fz', _, _, k', H', rb, hy b P' o q⟩
  · intro o fz' s' k' H' t' q
    exact ⟨fz', _, _, k', H', r2.mono k', hr o q⟩
  · rintro v s' ⟨e, fz', o', _, _, _, _, _, o, _, rx⟩
    exact (hx o rx).elim
theorem next_x {ga : Addr} {g : Nat} {P : GenState → Prop} {o0 : Own} {RY : V → (GenState → Prop) → Own → Prop} {S RX : Own → Prop} {X : String} {a : V} (hh : A.handled = none) (hroom : A.depth < recursionLimit)
    (hX : isSubtype (.type X) (.type "StopIteration") = pure false) (hp : own.Perm ((ga, .gen g P) :: o0))
    (hw : ∀ fz gs, P gs → ∀ s', Hold W fz ((ga, .gen g (· = .running)) :: o0) s' → W.tk ≤ s'.toks → Wake (model W.prog W.w) A.in1.in1 (OutX W fz ga g RY S X RX) gs s')
    (hy0 : ∀ b P o, ¬ RY b P o) (hs0 : ∀ o, ¬ S o) (hx : ∀ o, RX o → R ((ga, .gen g (· = .finished)) :: o)) : XLs W A (FlyX X .none) (fun vs => call (.builtin "next") vs) [.ref ga, a] own R := fun fz s vs H ht r => by
  obtain ⟨v1, v2, rfl, r1, r2⟩ : ∃ v1 v2, vs = [v1, v2] ∧ RV fz (.ref ga) v1 ∧ RV fz a v2 := by
    cases r with | cons r1 r => cases r with | cons r2 r => cases r; exact ⟨_, _, rfl, r1, r2⟩
  cases r1.val_inv
  have H1 := H.perm hp
  have hg := H1.isGen List.mem_cons_self
  refine next_entry hg.typeIs slot_gen_next.lookup (gen_nextX (A := A.in1) (R := RY) (S := S) (X := X) (RX := RX) hh hroom hX H1 ht (hw fz) ?_ ?_ ?_)
  · intro v b P' o fz' s' k' H' t' rb q; exact hy0 _ _ _ q
  · intro o fz' s' k' H' t' q; exact hs0 _ q
  · rintro v s' ⟨e, fz', o', rfl, k, H', t', fx, o, rfl, rx⟩
    exact ⟨e, fz', _, rfl, k, H', t', fx, hx o rx⟩
end
section
theorem reads_ints {h h' : Heap} : ∀ {ns : List Int} {vs : List Value} {as : List Addr}, ReadsAll h vs (ns.map .int) as → ReadsAll h' vs (ns.map .int) as := by
  intro ns
  induction ns with
  | nil => intro vs as x; cases x; exact .nil
  | cons n ns ih =>
    intro vs as x
    rw [List.map_cons] at x ⊢
    cases x with | cons a t => cases a; exact .cons (.int _ _) (ih t)
/-- the same, with one code object's table laid aside -/
theorem join_lawT {prog : Program} {w : World} {s₁ : Shared} {K : Frag} {p : Program} {loose : List Str} {mean : ExcName → Option Value} {mg mb : Str → Option Value} {fa f a c P : Addr} {ns : List Int} {as : List Addr} {pos : Pos} {qual : Str}
    (T : Top p loose mean mg mb s₁.heap) (KX : K.In s₁.heap) (hKt : noTabs K = true) (hC : codeHdIn K c P = true) (hP : s₁.heap.get? P = some (tabObj #[]))
    (hmg : mg (Str.ofString "law") = some (.ref fa)) (hg : s₁.gens = #[]) (hns : nsIn K mainGlobals (Str.ofString "law") = some (some (.ref f)))
    (r0 : Reads s₁.heap (.ref a) (.list (ns.map .int)) as)
    (h : ∀ W : Wd, W.w = w → W.K = K → SLC W callerA (.ref f) [.lst (ns.map .int)] [(P, .prop (TabP pos qual))] (fun r o => r = .bool true ∧ (P, .prop (TabP pos qual)) ∈ o)) :
    codeAny (model prog w) callerA (.call (.ref fa) ⟨[.ref a], []⟩) (fun r s' => r = .ok (.ret (.bool true)) ∧ OldK s₁.heap s'.heap ∧ s'.os = s₁.os ∧ AllBare s'.gens) s₁ := by
  have e := mg_of KX T.g hns
  rw [hmg] at e
  cases e
  have CH := codeHd_of_K KX hC
  have hT : TabsAt [(c, P)] s₁.heap := fun q hq => by
    rcases List.mem_cons.mp hq with rfl | hq
    · exact ⟨CH, hP⟩
    · cases hq
  have T' := ghost_top hT T
  have KX' := ghost_K hT KX hKt
  have kb : Keep (ghostOf s₁.heap [(c, P)]) s₁.heap := fun b o e => of_hideAll _ e
  let W : Wd := { prog := prog, w := w, base := ghostOf s₁.heap [(c, P)], os := s₁.os, K := K, p := _, loose := _, mg := mg, mb := mb, kin := KX', top := topRead_of T', bm := T'.bmain, tk := 0 }
  have H : Hold W (ghostOf s₁.heap [(c, P)]) [(P, .prop (TabP pos qual))] s₁ := by
    refine ⟨.refl _, kb, fun p hp => ?_, fun p hp => ?_, by simp, .cons (.nil (.of_eq hg)) rfl, rfl⟩
    · rcases List.mem_cons.mp hp with rfl | hp
      · exact ⟨_, hP, _, Keep.refl _, .inl rfl⟩
      · cases hp
    · rcases List.mem_cons.mp hp with rfl | hp
      · exact hideAll_none _ (by simp)
      · cases hp
  have r0' : Reads (ghostOf s₁.heap [(c, P)]) (.ref a) (.list (ns.map .int)) as := by
    cases r0 with
    | @list a o vs n xs as ho hc hd hr =>
      refine .list (ghost_get hT ho (fun q => by rw [q] at hc; cases hc)) hc hd ?_
      exact reads_ints hr
  refine codeAny_mono (h W rfl rfl _ s₁ [.ref a] H (Nat.zero_le _) (.cons (.dat r0') .nil)) fun r s' x => ?_
  rcases r with e | (v | _ | _ | _) <;> first | exact x.elim | skip
  obtain ⟨fz', b, own', k, H', rb, rfl, hm⟩ := x
  rw [rb.bool_inv]
  obtain ⟨oP, fz₀, hoP, _, hp⟩ := H'.prop hm
  obtain ⟨ps, rfl⟩ : ∃ ps, oP = tabObj ps := by rcases hp with rfl | ⟨c', rfl, _⟩ <;> exact ⟨_, rfl⟩
  have keep : ∀ b o, b ≠ P → s₁.heap.get? b = some o → s'.heap.get? b = some o := fun b o hb e => (k.trans H'.has) b o (ghost_ne e (by simpa using hb))
  refine ⟨rfl, ⟨fun b o e => ?_, fun b o e => ?_⟩, H'.os, H'.gens.bare⟩
  · by_cases hb : b = P
    · subst hb
      rw [hP] at e; cases e
      exact .inr (.inl ⟨(CH.tab hP).isCodeTable, rfl, #[], ps, rfl, by rw [Array.empty_append]; exact hoP⟩)
    · exact .inl (keep b o hb e)
  · by_cases hb : b = P
    · subst hb; exact ⟨_, hoP⟩
    · exact ⟨o, keep b o hb e⟩
end
noncomputable def lawS (i : Nat) : Stmt := nthS PySem.Challenge.pw_dm0066_03.main.body i
 def nthQ : List Stmt → Nat → Stmt
  | [], _ => .Pass default
  | st :: _, 0 => st
  | _ :: l, n + 1 => nthQ l n
 def lawQ (i : Nat) : Stmt := nthQ PySem.Challenge.pw_dm0066_03.main.body i
/-- the same program, its statements by their place -/
 def pwP : Program := { PySem.Challenge.pw_dm0066_03 with main := { PySem.Challenge.pw_dm0066_03.main with body := [lawQ 0, lawQ 1, lawQ 2, lawQ 3, lawQ 4, lawQ 5, lawQ 6, lawQ 7, lawQ 8, lawQ 9, lawQ 10] } }
 def rwP : OpenLaw := { prog := pwP, name := Str.ofString "law", about := [Str.ofString "HtmlDiff", Str.ofString "_line_wrapper"], foot := 2, most := some 63, bound := none, writes := false }
noncomputable def K1 (P : Params) : Frag := [(3, { cls := Value.type "dict", data := Data.dict #[{ hash := PyData.keyHash P (Str.ofString "__name__"), key := Value.str (Str.ofString "__name__") 165, val := Value.str (Str.ofString "law_dm0066_03") 371 }, { hash := PyData.keyHash P (Str.ofString "__doc__"), key := Value.str (Str.ofString "__doc__") 166, val := Value.none }, { hash := PyData.keyHash P (Str.ofString "__package__"), key := Value.str (Str.ofString "__package__") 167, val := Value.none }, { hash := PyData.keyHash P (Str.ofString "__loader__"), key := Value.str (Str.ofString "__loader__") 168, val := Value.builtin "__main__.__loader__#opaque" }, { hash := PyData.keyHash P (Str.ofString "__spec__"), key := Value.str (Str.ofString "__spec__") 169, val := Value.none }, { hash := PyData.keyHash P (Str.ofString "__annotations__"), key := Value.str (Str.ofString "__annotations__") 170, val := Value.ref 6 }, { hash := PyData.keyHash P (Str.ofString "__builtins__"), key := Value.str (Str.ofString "__builtins__") 171, val := Value.ref 4 }, { hash := PyData.keyHash P (Str.ofString "__file__"), key := Value.str (Str.ofString "__file__") 173, val := Value.str (Str.ofString "/claim/cut.py") 172 }, { hash := PyData.keyHash P (Str.ofString "__cached__"), key := Value.str (Str.ofString "__cached__") 174, val := Value.none }, { hash := PyData.keyHash P (Str.ofString "_wall"), key := Value.str (Str.ofString "_wall") 193, val := Value.ref 21 }, { hash := PyData.keyHash P (Str.ofString "IS_CHARACTER_JUNK"), key := Value.str (Str.ofString "IS_CHARACTER_JUNK") 204, val := Value.ref 29 }, { hash := PyData.keyHash P (Str.ofString "file_template_difflib"), key := Value.str (Str.ofString "file_template_difflib") 206, val := Value.str (asS (lawS 3)) 205 }, { hash := PyData.keyHash P (Str.ofString "styles_difflib"), key := Value.str (Str.ofString "styles_difflib") 208, val := Value.str (asS (lawS 4)) 207 }, { hash := PyData.keyHash P (Str.ofString "table_template_difflib"), key := Value.str (Str.ofString "table_template_difflib") 210, val := Value.str (asS (lawS 5)) 209 }, { hash := PyData.keyHash P (Str.ofString "legend_difflib"), key := Value.str (Str.ofString "legend_difflib") 212, val := Value.str (asS (lawS 6)) 211 }, { hash := PyData.keyHash P (Str.ofString "HtmlDiff"), key := Value.str (Str.ofString "HtmlDiff") 370, val := Value.ref 113 }, { hash := PyData.keyHash P (Str.ofString "_law_next"), key := Value.str (Str.ofString "_law_next") 379, val := Value.ref 124 }, { hash := PyData.keyHash P (Str.ofString "law"), key := Value.str (Str.ofString "law") 385, val := Value.ref 129 }] 18 }),
  (37, { cls := Value.type "tuple", data := Data.seq #[Value.int 8 231, Value.none, Value.none, Value.ref 29] }),
  (43, { cls := Value.type "code", data := Data.fields #[Value.str (Str.ofString "__init__") 232, Value.str (Str.ofString "HtmlDiff.__init__") 233, Value.str (Str.ofString "/claim/cut.py") 234, Value.int 18 0, Value.int 5 0, Value.int 0 0, Value.int 0 0, Value.int 3 0, Value.ref 38, Value.bool Bool.true, Value.int 181 0, Value.ref 39, Value.none, Value.ref 40, Value.ref 41, Value.ref 42, Value.int 240 0, Value.int 18 0, Value.str (Str.ofString "/claim/cut.py") 241] }),
  (44, fnO (nthS (clB (lawS 7)) 5) (Str.ofString "HtmlDiff.__init__") (Value.ref 37) (Value.none) (Value.none) (Value.str (Str.ofString "cpy313.difflib") 194) (Option.none) (Value.ref 43) (Value.none)),
  (66, { cls := Value.type "code", data := Data.fields #[Value.str (Str.ofString "_split_line") 271, Value.str (Str.ofString "HtmlDiff._split_line") 272, Value.str (Str.ofString "/claim/cut.py") 273, Value.int 30 0, Value.int 4 0, Value.int 0 0, Value.int 0 0, Value.int 3 0, Value.ref 61, Value.bool Bool.true, Value.int 181 0, Value.ref 62, Value.none, Value.ref 63, Value.ref 64, Value.ref 65, Value.int 285 0, Value.int 30 0, Value.str (Str.ofString "/claim/cut.py") 286] }),
  (67, fnO (nthS (clB (lawS 7)) 8) (Str.ofString "HtmlDiff._split_line") (Value.none) (Value.none) (Value.none) (Value.str (Str.ofString "cpy313.difflib") 194) (Option.none) (Value.ref 66) (Value.none)),
  (73, { cls := Value.type "code", data := Data.fields #[Value.str (Str.ofString "_line_wrapper") 288, Value.str (Str.ofString "HtmlDiff._line_wrapper") 289, Value.str (Str.ofString "/claim/cut.py") 290, Value.int 61 0, Value.int 2 0, Value.int 0 0, Value.int 0 0, Value.int 35 0, Value.ref 68, Value.bool Bool.true, Value.int 181 0, Value.ref 69, Value.none, Value.ref 70, Value.ref 71, Value.ref 72, Value.int 302 0, Value.int 61 0, Value.str (Str.ofString "/claim/cut.py") 303] }),
  (74, fnO (nthS (clB (lawS 7)) 9) (Str.ofString "HtmlDiff._line_wrapper") (Value.none) (Value.none) (Value.none) (Value.str (Str.ofString "cpy313.difflib") 194) (Option.none) (Value.ref 73) (Value.none)),
  (112, { cls := Value.type "dict", data := Data.dict #[{ hash := PyData.keyHash P (Str.ofString "__module__"), key := Value.str (Str.ofString "__module__") 220, val := Value.str (Str.ofString "cpy313.difflib") 194 }, { hash := PyData.keyHash P (Str.ofString "__firstlineno__"), key := Value.str (Str.ofString "__firstlineno__") 224, val := Value.int 11 223 }, { hash := PyData.keyHash P (Str.ofString "_file_template"), key := Value.str (Str.ofString "_file_template") 225, val := Value.str (asS (lawS 3)) 205 }, { hash := PyData.keyHash P (Str.ofString "_styles"), key := Value.str (Str.ofString "_styles") 226, val := Value.str (asS (lawS 4)) 207 }, { hash := PyData.keyHash P (Str.ofString "_table_template"), key := Value.str (Str.ofString "_table_template") 227, val := Value.str (asS (lawS 5)) 209 }, { hash := PyData.keyHash P (Str.ofString "_legend"), key := Value.str (Str.ofString "_legend") 228, val := Value.str (asS (lawS 6)) 211 }, { hash := PyData.keyHash P (Str.ofString "_default_prefix"), key := Value.str (Str.ofString "_default_prefix") 230, val := Value.int 0 229 }, { hash := PyData.keyHash P (Str.ofString "__init__"), key := Value.str (Str.ofString "__init__") 242, val := Value.ref 44 }, { hash := PyData.keyHash P (Str.ofString "make_file"), key := Value.str (Str.ofString "make_file") 261, val := Value.ref 53 }, { hash := PyData.keyHash P (Str.ofString "_tab_newline_replace"), key := Value.str (Str.ofString "_tab_newline_replace") 270, val := Value.ref 60 }, { hash := PyData.keyHash P (Str.ofString "_split_line"), key := Value.str (Str.ofString "_split_line") 287, val := Value.ref 67 }, { hash := PyData.keyHash P (Str.ofString "_line_wrapper"), key := Value.str (Str.ofString "_line_wrapper") 304, val := Value.ref 74 }, { hash := PyData.keyHash P (Str.ofString "_collect_lines"), key := Value.str (Str.ofString "_collect_lines") 312, val := Value.ref 81 }, { hash := PyData.keyHash P (Str.ofString "_format_line"), key := Value.str (Str.ofString "_format_line") 323, val := Value.ref 88 }, { hash := PyData.keyHash P (Str.ofString "_make_prefix"), key := Value.str (Str.ofString "_make_prefix") 330, val := Value.ref 95 }, { hash := PyData.keyHash P (Str.ofString "_convert_flags"), key := Value.str (Str.ofString "_convert_flags") 342, val := Value.ref 102 }, { hash := PyData.keyHash P (Str.ofString "make_table"), key := Value.str (Str.ofString "make_table") 358, val := Value.ref 110 }, { hash := PyData.keyHash P (Str.ofString "__static_attributes__"), key := Value.str (Str.ofString "__static_attributes__") 363, val := Value.ref 111 }, { hash := PyData.keyHash P (Str.ofString "__dict__"), key := Value.str (Str.ofString "__dict__") 365, val := Value.ref 114 }, { hash := PyData.keyHash P (Str.ofString "__weakref__"), key := Value.str (Str.ofString "__weakref__") 367, val := Value.ref 115 }, { hash := PyData.keyHash P (Str.ofString "__doc__"), key := Value.str (Str.ofString "__doc__") 368, val := Value.none }] 4 }),
  (113, { cls := Value.type "type", data := Data.cls { name := Str.ofString "HtmlDiff", bases := [Value.type "object"], mro := [Value.ref 113, Value.type "object"], ns := 112, qualname := Str.ofString "HtmlDiff" }, slots := #[Option.some (Value.ref 30), Option.none, Option.some (Value.str (Str.ofString "HtmlDiff") 213), Option.some (Value.str (Str.ofString "HtmlDiff") 221), Option.some (Value.builtin "object.__new__"), Option.some (Value.bool Bool.true)] }),
  (123, { cls := Value.type "code", data := Data.fields #[Value.str (Str.ofString "_law_next") 373, Value.str (Str.ofString "_law_next") 374, Value.str (Str.ofString "/claim/cut.py") 375, Value.int 96 0, Value.int 1 0, Value.int 0 0, Value.int 0 0, Value.int 3 0, Value.ref 118, Value.bool Bool.true, Value.int 181 0, Value.ref 119, Value.none, Value.ref 120, Value.ref 121, Value.ref 122, Value.int 377 0, Value.int 96 0, Value.str (Str.ofString "/claim/cut.py") 378] }),
  (124, fnO (lawS 9) (Str.ofString "_law_next") (Value.none) (Value.none) (Value.none) (Value.str (Str.ofString "law_dm0066_03") 371) (Option.none) (Value.ref 123) (Value.none)),
  (128, { cls := Value.type "code", data := Data.fields #[Value.str (Str.ofString "law") 380, Value.str (Str.ofString "law") 381, Value.str (Str.ofString "/claim/cut.py") 382, Value.int 101 0, Value.int 1 0, Value.int 0 0, Value.int 0 0, Value.int 3 0, Value.ref 125, Value.bool Bool.true, Value.int 181 0, Value.ref 126, Value.none, Value.none, Value.none, Value.ref 127, Value.int 383 0, Value.int 101 0, Value.str (Str.ofString "/claim/cut.py") 384] }),
  (129, fnO (lawS 10) (Str.ofString "law") (Value.none) (Value.none) (Value.none) (Value.str (Str.ofString "law_dm0066_03") 371) (Option.none) (Value.ref 128) (Value.none))]
section
variable {W : Wd} {A : Around} {env : Env} {own : Own}
theorem l03_0 : lit (Str.ofString "") = [] := by decide +kernel
theorem l03_1 : lit (Str.ofString " ") = [32] := by decide +kernel
theorem l03_2 : lit (Str.ofString "a") = [97] := by decide +kernel
theorem l03_3 : lit (Str.ofString "b") = [98] := by decide +kernel
theorem l03_4 : lit (Str.ofString "c") = [99] := by decide +kernel
theorem l03_5 : lit (Str.ofString "d") = [100] := by decide +kernel
theorem l03_6 : lit (Str.ofString "e") = [101] := by decide +kernel
theorem l03_7 : lit (Str.ofString ">") = [62] := by decide +kernel
theorem l03_8 : lit (Str.ofString "abcde") = [97, 98, 99, 100, 101] := by decide +kernel
theorem l03_9 : lit (Str.ofString "over") = [111, 118, 101, 114] := by decide +kernel
theorem l03_10 : lit (Str.ofString "refused") = [114, 101, 102, 117, 115, 101, 100] := by decide +kernel
noncomputable abbrev K03 (W : Wd) : Prop := W.K = K1 W.w.params

theorem cls03 (hK : K03 W) : ClsOk W.K 113 := by
  refine ⟨?_, ?_, ?_, ?_, ?_, ?_⟩ <;> rw [hK] <;> rfl
/-! ### the law's own splitter -/
noncomputable def asgV : Stmt → Expr | .Assign _ v _ => v | _ => .Name (Str.ofString "") default
noncomputable def laA : Expr → Arguments | .Lambda a _ _ _ => a | _ => default
noncomputable def laB : Expr → Expr | .Lambda _ b _ _ => b | e => e
noncomputable def laS : Expr → Scope | .Lambda _ _ s _ => s | _ => default
noncomputable def lamE : Expr := asgV (nthS (fdB (lawS 10)) 5)
noncomputable abbrev lamQ : Str := Str.ofString "law.<locals>.<lambda>"
noncomputable abbrev lamOb (cA cS : Addr) : Ob := .prop (FnL (Str.ofString "<lambda>") lamQ (laA lamE) (laB lamE) (laS lamE) [(Str.ofString "sizes", cS), (Str.ofString "asked", cA)])
noncomputable abbrev szF : List Nat → Option Int := dicOf [([97], 0), ([98], 1), ([99], 2), ([100], 4)]
noncomputable abbrev entD (num : PyData) (c : Nat) : PyData := .tuple [num, .str (S [c]), .list []]
noncomputable def pcsD (num : PyData) (c : Nat) (n : Nat) : List PyData := (List.range n).map fun k => .tuple [num, .str (S ([c] ++ decT ((k : Nat) : Int)))]
theorem call_listOwn {D : Addr} {l : List PyData} {Q : V → Own → Prop} (hm : (D, Ob.list (l.map V.dat)) ∈ own) (hz : l.length ≤ sizeLine) (h : Q (.lst l) own) : SL W A RV (fun vs => call (.type "list") vs) [.ref D] own Q := SL1 fun fz s v H ht r => by
  cases r.val_inv
  obtain ⟨o, ho, vs, n, rfl, rs⟩ := H.get hm
  have hlen := rs.length
  rw [List.length_map] at hlen
  refine call_list_seq (hsz := by simp only [List.size_toArray]; (first | decide | exact Nat.le_trans (by assumption) (by decide) | lia | omega)) D (.inl rfl) ho rfl rfl fun h' c' hk hD => ?_
  obtain ⟨kk, H'⟩ := H.frz (k := s.toks) (h' := h') (o := listObj vs c') rfl hk (get?_ge (Nat.le_refl _)) (by rw [hD]; simp [listObj])
  exact ⟨_, _, own, kk, H', rv_list (putH_at rfl) (rs.mono kk), h⟩
theorem dec_small : ∀ k : Nat, k < 8 → ((k : Nat) : Int).natAbs.log2 < 1920 ∧ (decT ((k : Nat) : Int)).length ≤ 10 := by decide +kernel
theorem small_rng {n : Nat} (h : n ≤ 1000) : Builtin.Range.rangeSize 0 (n : Int) 1 = (n : Int) ∧ Builtin.Range.small 0 (n : Int) 1 = true := by
  have hrs : Builtin.Range.rangeSize 0 (n : Int) 1 = (n : Int) := by
    unfold Builtin.Range.rangeSize
    rw [if_pos (by (first | decide | exact Nat.le_trans (by assumption) (by decide) | lia | omega))]
    by_cases h0 : (0 : Int) < n
    · rw [if_pos h0]; (first | decide | exact Nat.le_trans (by assumption) (by decide) | lia | omega)
    · rw [if_neg h0]; (first | decide | exact Nat.le_trans (by assumption) (by decide) | lia | omega)
  refine ⟨hrs, ?_⟩
  have f : ∀ x : Int, -1 ≤ x → x ≤ 300000 → Builtin.Range.rangeFitsLong x = true := fun x h1 h2 => by
    unfold Builtin.Range.rangeFitsLong
    simp only [Bool.and_eq_true, decide_eq_true_eq]
    (first | decide | exact Nat.le_trans (by assumption) (by decide) | lia | omega)
  unfold Builtin.Range.small
  rw [hrs, f 0 (by (first | decide | exact Nat.le_trans (by assumption) (by decide) | lia | omega)) (by (first | decide | exact Nat.le_trans (by assumption) (by decide) | lia | omega)), f n (by (first | decide | exact Nat.le_trans (by assumption) (by decide) | lia | omega)) (by (first | decide | exact Nat.le_trans (by assumption) (by decide) | lia | omega)), f 1 (by (first | decide | exact Nat.le_trans (by assumption) (by decide) | lia | omega)) (by (first | decide | exact Nat.le_trans (by assumption) (by decide) | lia | omega)), if_pos (by (first | decide | exact Nat.le_trans (by assumption) (by decide) | lia | omega)), f (n + (1 - 1)) (by (first | decide | exact Nat.le_trans (by assumption) (by decide) | lia | omega)) (by (first | decide | exact Nat.le_trans (by assumption) (by decide) | lia | omega))]
  simp


theorem c_lam_ok (hK : K03 W) (hh : A.handled = none) (hd : A.depth + 2 < recursionLimit) {f cA AL cS SZ D : Addr} {asked : List PyData} {num : PyData} {c n : Nat} {own1 own2 : Own} (hc : szF [c] = some (n : Int)) (hn : n ≤ 4) (hask : asked.length ≤ 500)
    (hf : (f, lamOb cA cS) ∈ own) (hcA : (cA, Ob.cell (some (.ref AL))) ∈ own) (hD : (D, Ob.list ([] : List V)) ∈ own)
    (u1 : Upd AL (.list (asked.map V.dat)) (.list (asked.map V.dat ++ [.dat (entD num c)])) own own1) (u2 : Upd D (.list []) (.list ([] ++ (pcsD num c n).map V.dat)) own1 own2) (hcS : (cS, Ob.cell (some (.ref SZ))) ∈ own1) (hSZ : (SZ, Ob.prop (DicP W.prog W.w szF)) ∈ own1) :
    SLC W A (.ref f) [.ref D, .dat num, .str (S [c])] own (fun r o => o = own2) := by
  refine' lam_call (y1 := Str.ofString "number") (y2 := Str.ofString "word") [Str.ofString "pieces", Str.ofString "number", Str.ofString "word"] hf (by (first | decide | exact Nat.le_trans (by assumption) (by decide) | lia | omega)) ?hb ?hpc ?hcl ?c1 ?c2 ?c3 ?h
  case hb => intro s vs _ _ _ hl; obtain ⟨_, _, _, rfl⟩ := len_3 hl; exact BindsTo.of_eq rfl
  case hpc => intro h; rfl
  case hcl => intro n; rfl
  case c1 => rfl
  case c2 => rfl
  case c3 => rfl
  intro L cdv
  dsimp only [lamE, asgV, laA, laB, laS, lawS, nthS, fdB, PySem.Challenge.pw_dm0066_03]
  refine SSs_cons ?_
  refine SS_loc rfl rfl (by (with_reducible repeat first | exact List.mem_cons_self | refine List.mem_cons_of_mem _ ?_ | assumption | exact mem_mid' | exact mem_mid (by assumption))) (by with_reducible rfl) (by (with_reducible repeat first | exact Put.here | exact Put.new | apply Put.there)) (by ((first | (dsimp only [List.map_cons, List.map_nil]; decide +kernel) | (simp only [List.map_cons, List.map_nil]; decide +kernel)))) (by (with_reducible repeat first | assumption | exact Upd.here | exact Upd.mid | apply Upd.there)) ?_
  refine SSs_cons ?_
  refine SS_cell rfl rfl rfl (by (with_reducible repeat first | assumption | exact Upd.here | exact Upd.mid | apply Upd.there)) ?_
  refine SSs_cons ?_
  refine SS_cell rfl rfl rfl (by (with_reducible repeat first | assumption | exact Upd.here | exact Upd.mid | apply Upd.there)) ?_
  refine SSs_nil ?_
  unfold pcsD at u2
  have hDm := u1.mem
  have hA1 := u1.mem'
  have hD1 := u2.mem
  have hD2 := u2.mem'
  have hD0 : (D, Ob.list (([] : List PyData).map V.dat)) ∈ own := hD
  refine SE_List (by ((rw [sizeLine_eq]; simp))) ?_
  refine SEs_cons ?_
  refine SE_Meth ?_
  refine SE_Name ?_ (by decide +kernel)
  refine SN_free rfl rfl rfl (by (with_reducible repeat first | exact List.mem_cons_self | refine List.mem_cons_of_mem _ ?_ | assumption | exact mem_mid' | exact mem_mid (by assumption))) ?_ (by decide +kernel)
  refine mth_append (by (with_reducible repeat first | exact List.mem_cons_self | refine List.mem_cons_of_mem _ ?_ | assumption | exact mem_mid' | exact mem_mid (by assumption))) ?_
  refine SEs_cons ?_
  refine SE_TupleF ?_
  refine SEs_cons ?_
  refine SE_Name ?_ (by decide +kernel)
  refine SN_cell rfl rfl rfl (by (with_reducible repeat first | exact List.mem_cons_self | refine List.mem_cons_of_mem _ ?_ | assumption | exact mem_mid' | exact mem_mid (by assumption))) ?_
  refine SEs_cons ?_
  refine SE_Name ?_ (by decide +kernel)
  refine SN_cell rfl rfl rfl (by (with_reducible repeat first | exact List.mem_cons_self | refine List.mem_cons_of_mem _ ?_ | assumption | exact mem_mid' | exact mem_mid (by assumption))) ?_
  refine SEs_cons ?_
  refine SE_Call ?_
  refine SE_Name ?_ (by decide +kernel)
  refine SN_builtin rfl rfl rfl rfl (nsIn_of (by assumption) rfl) rfl (by decide +kernel) ?_
  with_reducible refine ⟨_, rfl, ?_⟩
  refine SEs_cons ?_
  refine SE_Name ?_ (by decide +kernel)
  refine SN_loc rfl rfl (by (with_reducible repeat first | exact List.mem_cons_self | refine List.mem_cons_of_mem _ ?_ | assumption | exact mem_mid' | exact mem_mid (by assumption))) (by with_reducible rfl) (by (with_reducible repeat first | exact List.mem_cons_self | refine List.mem_cons_of_mem _ ?_ | assumption | exact mem_mid' | exact mem_mid (by assumption))) ?_
  refine SEs_nil ?_
  with_reducible refine ⟨kp_type, ?_⟩
  refine call_listOwn (l := []) (by (with_reducible repeat first | exact List.mem_cons_self | refine List.mem_cons_of_mem _ ?_ | assumption | exact mem_mid' | exact mem_mid (by assumption))) (by rw [sizeLine_eq]; decide) ?_
  refine SEs_nil ?_
  with_reducible refine ⟨_, by with_reducible ((first | exact AllDat.map _ | repeat first | exact AllDat.nil | with_reducible apply AllDat.cons)), by ((rw [sizeLine_eq]; simp)), ?_⟩
  refine SEs_nil ?_
  with_reducible refine ⟨kp_builtin, ?_⟩
  refine call_append (by (with_reducible repeat first | assumption | exact Upd.here | exact Upd.mid | apply Upd.there)) (by ((rw [sizeLine_eq]; (try simp only [List.length_append, List.length_cons, List.length_nil, List.length_map]); (first | decide | exact Nat.le_trans (by assumption) (by decide) | lia | omega)))) ?_
  refine SEs_cons ?_
  refine SE_Meth ?_
  refine SE_Name ?_ (by decide +kernel)
  refine SN_loc rfl rfl (by (with_reducible repeat first | exact List.mem_cons_self | refine List.mem_cons_of_mem _ ?_ | assumption | exact mem_mid' | exact mem_mid (by assumption))) (by with_reducible rfl) (by (with_reducible repeat first | exact List.mem_cons_self | refine List.mem_cons_of_mem _ ?_ | assumption | exact mem_mid' | exact mem_mid (by assumption))) ?_
  refine mth_extend (by (with_reducible repeat first | exact List.mem_cons_self | refine List.mem_cons_of_mem _ ?_ | assumption | exact mem_mid' | exact mem_mid (by assumption))) ?_
  refine SEs_cons ?_
  refine SE_CompMapO (α := Nat) (by first | exact hh | rfl) rfl (by decide +kernel) rfl (by decide +kernel) ?_
  refine SE_Call ?_
  refine SE_Name ?_ (by decide +kernel)
  refine SN_builtin rfl rfl rfl rfl (nsIn_of (by assumption) rfl) rfl (by decide +kernel) ?_
  with_reducible refine ⟨_, rfl, ?_⟩
  refine SEs_cons ?_
  refine SE_Subscript ?_
  refine SE_Name ?_ (by decide +kernel)
  refine SN_free rfl rfl rfl (by (with_reducible repeat first | exact List.mem_cons_self | refine List.mem_cons_of_mem _ ?_ | assumption | exact mem_mid' | exact mem_mid (by assumption))) ?_ (by decide +kernel)
  refine SE_Name ?_ (by decide +kernel)
  refine SN_cell rfl rfl rfl (by (with_reducible repeat first | exact List.mem_cons_self | refine List.mem_cons_of_mem _ ?_ | assumption | exact mem_mid' | exact mem_mid (by assumption))) ?_
  refine sub_dic (n := (n : Int)) (by (with_reducible repeat first | exact List.mem_cons_self | refine List.mem_cons_of_mem _ ?_ | assumption | exact mem_mid' | exact mem_mid (by assumption))) hc ?_
  refine SEs_nil ?_
  with_reducible refine ⟨kp_type, ?_⟩
  refine call_range1 ?_
  obtain ⟨hrs, hsm⟩ := small_rng (n := n) (by (first | decide | exact Nat.le_trans (by assumption) (by decide) | lia | omega))
  refine it_range (n := n) hsm hrs fun it => ⟨it, _, _, rfl, rfl, fun j : Nat => V.int (0 + (j : Int) * 1), fun _ => true, fun k => .tuple [num, .str (S ([c] ++ decT ((k : Nat) : Int)))], List.range n, rfl, by rw [sizeLine_eq, List.length_range]; (first | decide | exact Nat.le_trans (by assumption) (by decide) | lia | omega), ?_, ?_⟩
  · intro C D' it3 k rr ys hk
    have hkn := List.mem_range.mp hk
    rw [show (fun j : Nat => V.int (0 + (j : Int) * 1)) k = V.int ((k : Nat) : Int) by show V.int _ = _; rw [show (0 : Int) + (k : Int) * 1 = ((k : Nat) : Int) by (first | decide | exact Nat.le_trans (by assumption) (by decide) | lia | omega)]]
    refine SA_Name ?_
    refine SS_loc rfl rfl (by (with_reducible repeat first | exact List.mem_cons_self | refine List.mem_cons_of_mem _ ?_ | assumption | exact mem_mid' | exact mem_mid (by assumption))) (by with_reducible rfl) (by (with_reducible repeat first | exact Put.here | exact Put.new | apply Put.there)) (by ((first | (dsimp only [List.map_cons, List.map_nil]; decide +kernel) | (simp only [List.map_cons, List.map_nil]; decide +kernel)))) (by (with_reducible repeat first | assumption | exact Upd.here | exact Upd.mid | apply Upd.there)) ?_
    refine STs_nil ?_
    refine ⟨rfl, ?_⟩
    rw [if_pos rfl]
    clear hk hrs hsm
    refine SE_TupleF ?_
    refine SEs_cons ?_
    refine SE_Name ?_ (by decide +kernel)
    refine SN_cell rfl rfl rfl (by (with_reducible repeat first | exact List.mem_cons_self | refine List.mem_cons_of_mem _ ?_ | assumption | exact mem_mid' | exact mem_mid (by assumption))) ?_
    refine SEs_cons ?_
    refine SE_BinOp ?_
    refine SE_Name ?_ (by decide +kernel)
    refine SN_cell rfl rfl rfl (by (with_reducible repeat first | exact List.mem_cons_self | refine List.mem_cons_of_mem _ ?_ | assumption | exact mem_mid' | exact mem_mid (by assumption))) ?_
    refine SE_Call ?_
    refine SE_Name ?_ (by decide +kernel)
    refine SN_builtin rfl rfl rfl rfl (nsIn_of (by assumption) rfl) rfl (by decide +kernel) ?_
    with_reducible refine ⟨_, rfl, ?_⟩
    refine SEs_cons ?_
    refine SE_Name ?_ (by decide +kernel)
    refine SN_loc rfl rfl (by (with_reducible repeat first | exact List.mem_cons_self | refine List.mem_cons_of_mem _ ?_ | assumption | exact mem_mid' | exact mem_mid (by assumption))) (by with_reducible rfl) (by (with_reducible repeat first | exact List.mem_cons_self | refine List.mem_cons_of_mem _ ?_ | assumption | exact mem_mid' | exact mem_mid (by assumption))) ?_
    refine SEs_nil ?_
    with_reducible refine ⟨kp_type, ?_⟩
    refine call_strI (dec_small k (by (first | decide | exact Nat.le_trans (by assumption) (by decide) | lia | omega))).1 (by (first | decide | exact Nat.le_trans (by assumption) (by decide) | lia | omega)) ?_
    refine op_catS (by have := (dec_small k (by (first | decide | exact Nat.le_trans (by assumption) (by decide) | lia | omega))).2; rw [sizeLine_eq]; (first | dsimp only [List.length_cons, List.length_nil] | simp only [List.length_cons, List.length_nil]); (first | decide | exact Nat.le_trans (by assumption) (by decide) | lia | omega)) ?_
    refine SEs_nil ?_
    with_reducible refine ⟨_, by with_reducible ((first | exact AllDat.map _ | repeat first | exact AllDat.nil | with_reducible apply AllDat.cons)), by ((rw [sizeLine_eq]; simp)), ?_⟩
    exact ⟨rfl, by (with_reducible repeat first | exact Wk.refl | exact Wk.nil | refine Wk.keep ObW.refl ?_ | refine Wk.keep (ObW.ns (by (with_reducible repeat first | exact List.Sublist.refl _ | exact List.nil_sublist _ | apply List.Sublist.cons_cons | apply List.Sublist.cons))) ?_ | apply Wk.drop)⟩
  rw [show (List.range n).filter (fun _ => true) = List.range n from List.filter_eq_self.mpr fun _ _ => rfl]
  intro D1
  refine SEs_nil ?_
  with_reducible refine ⟨kp_builtin, ?_⟩
  refine call_extendO (by (with_reducible repeat first | exact List.mem_cons_self | refine List.mem_cons_of_mem _ ?_ | assumption | exact mem_mid' | exact mem_mid (by assumption))) (by (with_reducible repeat first | assumption | exact Upd.here | exact Upd.mid | apply Upd.there)) (by simp only [List.length_nil, List.length_map, List.length_range]; (first | decide | exact Nat.le_trans (by assumption) (by decide) | lia | omega)) ?_
  refine SEs_nil ?_
  refine ⟨by ((rw [sizeLine_eq]; simp)), fun a1 => ⟨_, by (with_reducible repeat first | exact Wk.refl | exact Wk.nil | refine Wk.keep ObW.refl ?_ | refine Wk.keep (ObW.ns (by (with_reducible repeat first | exact List.Sublist.refl _ | exact List.nil_sublist _ | apply List.Sublist.cons_cons | apply List.Sublist.cons))) ?_ | apply Wk.drop), rfl⟩⟩
theorem c_lam_x (hK : K03 W) (hh : A.handled = none) (hd : A.depth + 2 < recursionLimit) {fs : List Env} (hfr : A.frames = some fs) {f cA AL cS SZ D : Addr} {asked : List PyData} {num : PyData} {c : Nat} {own1 : Own} (hc : szF [c] = none) (hask : asked.length ≤ 500) (hsz : (SZ == sysModules) = false)
    (hf : (f, lamOb cA cS) ∈ own) (hcA : (cA, Ob.cell (some (.ref AL))) ∈ own) (hD : (D, Ob.list ([] : List V)) ∈ own)
    (u1 : Upd AL (.list (asked.map V.dat)) (.list (asked.map V.dat ++ [.dat (entD num c)])) own own1) (hcS : (cS, Ob.cell (some (.ref SZ))) ∈ own1) (hSZ : (SZ, Ob.prop (DicP W.prog W.w szF)) ∈ own1) (hD1 : (D, Ob.list ([] : List V)) ∈ own1) (hF : FrO own1 fs) :
    XLC W A (FlyX "KeyError" .none) (.ref f) [.ref D, .dat num, .str (S [c])] own (fun o => o = own1) := by
  refine' lam_raise (y1 := Str.ofString "number") (y2 := Str.ofString "word") [Str.ofString "pieces", Str.ofString "number", Str.ofString "word"] hf (by (first | decide | exact Nat.le_trans (by assumption) (by decide) | lia | omega)) hfr ?hb ?hpc ?hcl ?c1 ?c2 ?c3 ?h
  case hb => intro s vs _ _ _ hl; obtain ⟨_, _, _, rfl⟩ := len_3 hl; exact BindsTo.of_eq rfl
  case hpc => intro h; rfl
  case hcl => intro n; rfl
  case c1 => rfl
  case c2 => rfl
  case c3 => rfl
  intro L cdv
  dsimp only [lamE, asgV, laA, laB, laS, lawS, nthS, fdB, PySem.Challenge.pw_dm0066_03]
  refine SSs_cons ?_
  refine SS_loc rfl rfl (by (with_reducible repeat first | exact List.mem_cons_self | refine List.mem_cons_of_mem _ ?_ | assumption | exact mem_mid' | exact mem_mid (by assumption))) (by with_reducible rfl) (by (with_reducible repeat first | exact Put.here | exact Put.new | apply Put.there)) (by ((first | (dsimp only [List.map_cons, List.map_nil]; decide +kernel) | (simp only [List.map_cons, List.map_nil]; decide +kernel)))) (by (with_reducible repeat first | assumption | exact Upd.here | exact Upd.mid | apply Upd.there)) ?_
  refine SSs_cons ?_
  refine SS_cell rfl rfl rfl (by (with_reducible repeat first | assumption | exact Upd.here | exact Upd.mid | apply Upd.there)) ?_
  refine SSs_cons ?_
  refine SS_cell rfl rfl rfl (by (with_reducible repeat first | assumption | exact Upd.here | exact Upd.mid | apply Upd.there)) ?_
  refine SSs_nil ?_
  have hDm := u1.mem
  have hA1 := u1.mem'
  have hD0 : (D, Ob.list (([] : List PyData).map V.dat)) ∈ own := hD
  refine XE_List (XEs_there ?_)
  refine SE_Meth ?_
  refine SE_Name ?_ (by decide +kernel)
  refine SN_free rfl rfl rfl (by (with_reducible repeat first | exact List.mem_cons_self | refine List.mem_cons_of_mem _ ?_ | assumption | exact mem_mid' | exact mem_mid (by assumption))) ?_ (by decide +kernel)
  refine mth_append (by (with_reducible repeat first | exact List.mem_cons_self | refine List.mem_cons_of_mem _ ?_ | assumption | exact mem_mid' | exact mem_mid (by assumption))) ?_
  refine SEs_cons ?_
  refine SE_TupleF ?_
  refine SEs_cons ?_
  refine SE_Name ?_ (by decide +kernel)
  refine SN_cell rfl rfl rfl (by (with_reducible repeat first | exact List.mem_cons_self | refine List.mem_cons_of_mem _ ?_ | assumption | exact mem_mid' | exact mem_mid (by assumption))) ?_
  refine SEs_cons ?_
  refine SE_Name ?_ (by decide +kernel)
  refine SN_cell rfl rfl rfl (by (with_reducible repeat first | exact List.mem_cons_self | refine List.mem_cons_of_mem _ ?_ | assumption | exact mem_mid' | exact mem_mid (by assumption))) ?_
  refine SEs_cons ?_
  refine SE_Call ?_
  refine SE_Name ?_ (by decide +kernel)
  refine SN_builtin rfl rfl rfl rfl (nsIn_of (by assumption) rfl) rfl (by decide +kernel) ?_
  with_reducible refine ⟨_, rfl, ?_⟩
  refine SEs_cons ?_
  refine SE_Name ?_ (by decide +kernel)
  refine SN_loc rfl rfl (by (with_reducible repeat first | exact List.mem_cons_self | refine List.mem_cons_of_mem _ ?_ | assumption | exact mem_mid' | exact mem_mid (by assumption))) (by with_reducible rfl) (by (with_reducible repeat first | exact List.mem_cons_self | refine List.mem_cons_of_mem _ ?_ | assumption | exact mem_mid' | exact mem_mid (by assumption))) ?_
  refine SEs_nil ?_
  with_reducible refine ⟨kp_type, ?_⟩
  refine call_listOwn (l := []) (by (with_reducible repeat first | exact List.mem_cons_self | refine List.mem_cons_of_mem _ ?_ | assumption | exact mem_mid' | exact mem_mid (by assumption))) (by rw [sizeLine_eq]; decide) ?_
  refine SEs_nil ?_
  with_reducible refine ⟨_, by with_reducible ((first | exact AllDat.map _ | repeat first | exact AllDat.nil | with_reducible apply AllDat.cons)), by ((rw [sizeLine_eq]; simp)), ?_⟩
  refine SEs_nil ?_
  with_reducible refine ⟨kp_builtin, ?_⟩
  refine call_append (by (with_reducible repeat first | assumption | exact Upd.here | exact Upd.mid | apply Upd.there)) (by ((rw [sizeLine_eq]; (try simp only [List.length_append, List.length_cons, List.length_nil, List.length_map]); (first | decide | exact Nat.le_trans (by assumption) (by decide) | lia | omega)))) ?_
  refine XEs_here (XE_MethArgs ?_)
  refine SE_Name ?_ (by decide +kernel)
  refine SN_loc rfl rfl (by (with_reducible repeat first | exact List.mem_cons_self | refine List.mem_cons_of_mem _ ?_ | assumption | exact mem_mid' | exact mem_mid (by assumption))) (by with_reducible rfl) (by (with_reducible repeat first | exact List.mem_cons_self | refine List.mem_cons_of_mem _ ?_ | assumption | exact mem_mid' | exact mem_mid (by assumption))) ?_
  refine mth_extend (by (with_reducible repeat first | exact List.mem_cons_self | refine List.mem_cons_of_mem _ ?_ | assumption | exact mem_mid' | exact mem_mid (by assumption))) ?_
  refine XEs_here (XE_Comp rfl rfl (by decide +kernel) (XE_CallArgs ?_))
  refine SE_Name ?_ (by decide +kernel)
  refine SN_builtin rfl rfl rfl rfl (nsIn_of (by assumption) rfl) rfl (by decide +kernel) ?_
  refine XEs_here (XE_Sub ?_)
  refine SE_Name ?_ (by decide +kernel)
  refine SN_free rfl rfl rfl (by (with_reducible repeat first | exact List.mem_cons_self | refine List.mem_cons_of_mem _ ?_ | assumption | exact mem_mid' | exact mem_mid (by assumption))) ?_ (by decide +kernel)
  refine SE_Name ?_ (by decide +kernel)
  refine SN_cell rfl rfl rfl (by (with_reducible repeat first | exact List.mem_cons_self | refine List.mem_cons_of_mem _ ?_ | assumption | exact mem_mid' | exact mem_mid (by assumption))) ?_
  refine x_dic (by first | exact hh | rfl) hsz (by (with_reducible repeat first | exact List.mem_cons_self | refine List.mem_cons_of_mem _ ?_ | assumption | exact mem_mid' | exact mem_mid (by assumption))) hc ?_
  refine ⟨⟨(fun e => nomatch e), ⟨L, _, rfl, by (with_reducible repeat first | exact List.mem_cons_self | refine List.mem_cons_of_mem _ ?_ | assumption | exact mem_mid' | exact mem_mid (by assumption))⟩, hF.mono' (fun p hp => by (with_reducible repeat first | exact List.mem_cons_self | refine List.mem_cons_of_mem _ ?_ | assumption | exact mem_mid' | exact mem_mid (by assumption)))⟩, _, by (with_reducible repeat first | exact Wk.refl | exact Wk.nil | refine Wk.keep ObW.refl ?_ | refine Wk.keep (ObW.ns (by (with_reducible repeat first | exact List.Sublist.refl _ | exact List.nil_sublist _ | apply List.Sublist.cons_cons | apply List.Sublist.cons))) ?_ | apply Wk.drop), rfl⟩
/-! ### the wrapper -/
noncomputable abbrev padD : PyData := .tuple [.str (S []), .str (S [32])]
noncomputable def zipT (flag : PyData) : List PyData → List PyData → List PyData
  | [], l => l.map fun b => .tuple [padD, b, flag]
  | a :: r, [] => .tuple [a, padD, flag] :: zipT flag r []
  | a :: r, b :: r' => .tuple [a, b, flag] :: zipT flag r r'
theorem zT0 {flag : PyData} : zipT flag [] [] = [] := rfl
theorem zT1 {flag a : PyData} {r : List PyData} : zipT flag (a :: r) [] = .tuple [a, padD, flag] :: zipT flag r [] := rfl
theorem zT2 {flag b : PyData} {r : List PyData} : zipT flag [] (b :: r) = .tuple [padD, b, flag] :: zipT flag [] r := rfl
theorem zT3 {flag a b : PyData} {r r' : List PyData} : zipT flag (a :: r) (b :: r') = .tuple [a, b, flag] :: zipT flag r r' := rfl
/-- a row of the source -/
structure Rw where
  na : PyData
  ca : Nat
  nb : PyData
  cb : Nat
  flag : PyData
noncomputable abbrev sideD (n : PyData) (c : Nat) : PyData := .tuple [n, .str (S [c])]
noncomputable abbrev rD (r : Rw) : PyData := .tuple [sideD r.na r.ca, sideD r.nb r.cb, r.flag]
noncomputable def szN (c : Nat) : Option Nat := if c = 97 then some 0 else if c = 98 then some 1 else if c = 99 then some 2 else if c = 100 then some 4 else none
theorem szN_F (c : Nat) : szF [c] = (szN c).map fun n : Nat => (n : Int) := by
  unfold szF szN
  simp only [dicOf, List.cons.injEq, and_true]
  by_cases h1 : c = 97
  · rw [if_pos h1, if_pos h1]; rfl
  · rw [if_neg h1, if_neg h1]
    by_cases h2 : c = 98
    · rw [if_pos h2, if_pos h2]; rfl
    · rw [if_neg h2, if_neg h2]
      by_cases h3 : c = 99
      · rw [if_pos h3, if_pos h3]; rfl
      · rw [if_neg h3, if_neg h3]
        by_cases h4 : c = 100
        · rw [if_pos h4, if_pos h4]; rfl
        · rw [if_neg h4, if_neg h4]; rfl
theorem szN_le {c n : Nat} (h : szN c = some n) : n ≤ 4 := by
  unfold szN at h
  repeat (split at h; · cases h; decide)
  cases h
/-- what the splitter is asked of a row, and what comes of it -/
noncomputable def asksR (r : Rw) : List PyData := if isNoneD r.flag = true then [] else entD r.na r.ca :: (if szN r.ca = none then [] else [entD r.nb r.cb])
noncomputable def outR (r : Rw) : Option (List PyData) := if isNoneD r.flag = true then some [rD r] else match szN r.ca, szN r.cb with
  | some n, some m => some (zipT r.flag (pcsD r.na r.ca n) (pcsD r.nb r.cb m))
  | _, _ => none
inductive Res where
  | over
  | row (row : PyData) (pend : List PyData) (rest : List Rw)
  | fail (rest : List Rw)
inductive Goes : List Rw → List PyData → Res → Prop
  | over : Goes [] [] .over
  | skip {r : Rw} {rs : List Rw} {as : List PyData} {res : Res} : outR r = some [] → Goes rs as res → Goes (r :: rs) (asksR r ++ as) res
  | row {r : Rw} {rs : List Rw} {row : PyData} {pend : List PyData} : outR r = some (row :: pend) → Goes (r :: rs) (asksR r) (.row row pend rs)
  | fail {r : Rw} {rs : List Rw} : outR r = none → Goes (r :: rs) (asksR r) (.fail rs)
inductive Stp : List PyData → List Rw → List PyData → Res → Prop
  | pend {row : PyData} {pend : List PyData} {rs : List Rw} : Stp (row :: pend) rs [] (.row row pend rs)
  | go {rs : List Rw} {as : List PyData} {res : Res} : Goes rs as res → Stp [] rs as res
/-! ### one entry set -/
noncomputable def setO (a : Addr) (ob : Ob) (o : Own) : Own := o.map fun p => if p.1 = a then (a, ob) else p
theorem setO_keys (a : Addr) (ob : Ob) (o : Own) : (setO a ob o).map (·.1) = o.map (·.1) := by
  unfold setO
  rw [List.map_map]
  refine List.map_congr_left fun p _ => ?_
  show (if p.1 = a then (a, ob) else p).1 = p.1
  split
  · rename_i h; exact h.symm
  · rfl
theorem setO_other {a b : Addr} {ob x : Ob} {o : Own} (h : (b, x) ∈ o) (hn : b ≠ a) : (b, x) ∈ setO a ob o := List.mem_map.mpr ⟨(b, x), h, by rw [if_neg hn]⟩
theorem setO_self {a : Addr} {ob x : Ob} {o : Own} (h : (a, x) ∈ o) : (a, ob) ∈ setO a ob o := List.mem_map.mpr ⟨(a, x), h, by rw [if_pos rfl]⟩
theorem setO_set (a : Addr) (x y : Ob) (o : Own) : setO a x (setO a y o) = setO a x o := by
  unfold setO
  rw [List.map_map]
  refine List.map_congr_left fun p _ => ?_
  show (if (if p.1 = a then (a, y) else p).1 = a then (a, x) else (if p.1 = a then (a, y) else p)) = _
  by_cases h : p.1 = a
  · simp [h]
  · simp [h]
theorem setO_comm {a b : Addr} (h : a ≠ b) (x y : Ob) (o : Own) : setO a x (setO b y o) = setO b y (setO a x o) := by
  unfold setO
  rw [List.map_map, List.map_map]
  refine List.map_congr_left fun p _ => ?_
  show (if (if p.1 = b then (b, y) else p).1 = a then (a, x) else (if p.1 = b then (b, y) else p)) = (if (if p.1 = a then (a, x) else p).1 = b then (b, y) else (if p.1 = a then (a, x) else p))
  by_cases h1 : p.1 = a
  · by_cases h2 : p.1 = b
    · exact absurd (h1.symm.trans h2) h
    · simp [h1, h]
  · by_cases h2 : p.1 = b
    · simp [h2, Ne.symm h]
    · simp [h1, h2]
theorem setO_same {a : Addr} {x : Ob} : ∀ {o : Own}, (o.map (·.1)).Nodup → (a, x) ∈ o → setO a x o = o := fun {o} nd h => by
  unfold setO
  refine (List.map_congr_left fun p hp => ?_).trans (List.map_id o)
  by_cases e : p.1 = a
  · rw [if_pos e]; exact mem_unique nd h hp e.symm
  · rw [if_neg e]; rfl
theorem upd_setO {a : Addr} {x y : Ob} : ∀ {o : Own}, (o.map (·.1)).Nodup → (a, x) ∈ o → Upd a x y o (setO a y o)
  | p :: o, nd, h => by
    rw [List.map_cons, List.nodup_cons] at nd
    unfold setO
    rw [List.map_cons]
    rcases List.mem_cons.mp h with rfl | h
    · rw [if_pos rfl]
      have : o.map (fun p => if p.1 = a then (a, y) else p) = o := (List.map_congr_left fun q hq => by
        rw [if_neg (fun e => nd.1 (List.mem_map.mpr ⟨q, hq, e⟩))]; rfl).trans (List.map_id o)
      rw [this]
      exact .here
    · rw [if_neg (fun e => nd.1 (List.mem_map.mpr ⟨_, h, e.symm⟩))]
      exact .there (upd_setO nd.2 h)
theorem Upd.is_setO {a : Addr} {x y : Ob} {o o' : Own} (u : Upd a x y o o') (nd : (o.map (·.1)).Nodup) : o' = setO a y o := by
  induction u with
  | @here l =>
    rw [List.map_cons, List.nodup_cons] at nd
    unfold setO
    rw [List.map_cons, if_pos rfl]
    congr 1
    exact ((List.map_congr_left fun q hq => by
      rw [if_neg (fun e => nd.1 (List.mem_map.mpr ⟨q, hq, e⟩))]; rfl).trans (List.map_id l)).symm
  | @there p l l' u ih =>
    rw [List.map_cons, List.nodup_cons] at nd
    rw [ih nd.2]
    unfold setO
    rw [List.map_cons, if_neg (fun e => nd.1 (List.mem_map.mpr ⟨_, u.mem, e.symm⟩))]
/-! ### the things that a wrapper lives among -/
section
variable {it x dx f cA AL cS SZ : Addr}
noncomputable abbrev attL (f : Addr) : List (Str × V) := [(Str.ofString "_tabsize", V.int 8), (Str.ofString "_wrapcolumn", V.int 1), (Str.ofString "_linejunk", V.none), (Str.ofString "_charjunk", V.ref 29), (Str.ofString "_split_line", V.ref f)]
structure Bx (W : Wd) (it x dx f cA AL cS SZ : Addr) (o : Own) : Prop where
  kn : (o.map (·.1)).Nodup
  hit : ∃ P, (it, Ob.prop P) ∈ o
  hAL : ∃ l, (AL, Ob.list l) ∈ o
  hx : (x, Ob.obj (instObj 113 dx)) ∈ o
  hdx : (dx, Ob.att (attL f)) ∈ o
  hf : (f, lamOb cA cS) ∈ o
  hcA : (cA, Ob.cell (some (.ref AL))) ∈ o
  hcS : (cS, Ob.cell (some (.ref SZ))) ∈ o
  hSZ : (SZ, Ob.prop (DicP W.prog W.w szF)) ∈ o
  n1 : it ≠ f
  n2 : it ≠ SZ
  hs : (SZ == sysModules) = false
noncomputable abbrev obI (rs : List Rw) : Ob := .prop (LItP ((rs.map rD).map V.dat))
noncomputable abbrev obA (asked : List PyData) : Ob := .list (asked.map V.dat)
noncomputable def stO (it AL : Addr) (rs : List Rw) (asked : List PyData) (o : Own) : Own := setO AL (obA asked) (setO it (obI rs) o)
theorem Bx.ne {o : Own} (B : Bx W it x dx f cA AL cS SZ o) {a b : Addr} {p q : Ob} (ha : (a, p) ∈ o) (hb : (b, q) ∈ o) (h : p ≠ q) : a ≠ b := fun e => h (congrArg Prod.snd (mem_unique B.kn ha hb e))
theorem Bx.iA {o : Own} (B : Bx W it x dx f cA AL cS SZ o) : it ≠ AL := let ⟨_, h⟩ := B.hit; let ⟨_, h2⟩ := B.hAL; B.ne h h2 (fun e => nomatch e)
theorem Bx.keep {o : Own} (B : Bx W it x dx f cA AL cS SZ o) {a : Addr} {p : Ob} (h : (a, p) ∈ o) (h1 : a ≠ it) (h2 : ∀ l, p ≠ .list l) (rs : List Rw) (asked : List PyData) : (a, p) ∈ stO it AL rs asked o :=
  let ⟨_, hl⟩ := B.hAL; setO_other (setO_other h h1) (B.ne h hl (h2 _))
theorem Bx.keep' {o : Own} (B : Bx W it x dx f cA AL cS SZ o) {a : Addr} {p : Ob} (h : (a, p) ∈ o) (h1 : ∀ P, p ≠ .prop P) (h2 : ∀ l, p ≠ .list l) (rs : List Rw) (asked : List PyData) : (a, p) ∈ stO it AL rs asked o :=
  let ⟨_, hi⟩ := B.hit; B.keep h (B.ne h hi (h1 _)) h2 rs asked
theorem Bx.gI {o : Own} (B : Bx W it x dx f cA AL cS SZ o) (rs : List Rw) (asked : List PyData) : (it, obI rs) ∈ stO it AL rs asked o := let ⟨_, h⟩ := B.hit; setO_other (setO_self h) B.iA
theorem Bx.gA {o : Own} (B : Bx W it x dx f cA AL cS SZ o) (rs : List Rw) (asked : List PyData) : (AL, obA asked) ∈ stO it AL rs asked o := let ⟨_, h⟩ := B.hAL; setO_self (setO_other h (Ne.symm B.iA))
theorem Bx.gx {o : Own} (B : Bx W it x dx f cA AL cS SZ o) (rs : List Rw) (asked : List PyData) : (x, Ob.obj (instObj 113 dx)) ∈ stO it AL rs asked o := B.keep' B.hx (fun _ e => nomatch e) (fun _ e => nomatch e) rs asked
theorem Bx.gdx {o : Own} (B : Bx W it x dx f cA AL cS SZ o) (rs : List Rw) (asked : List PyData) : (dx, Ob.att (attL f)) ∈ stO it AL rs asked o := B.keep' B.hdx (fun _ e => nomatch e) (fun _ e => nomatch e) rs asked
theorem Bx.gf {o : Own} (B : Bx W it x dx f cA AL cS SZ o) (rs : List Rw) (asked : List PyData) : (f, lamOb cA cS) ∈ stO it AL rs asked o := B.keep B.hf (Ne.symm B.n1) (fun _ e => nomatch e) rs asked
theorem Bx.gcA {o : Own} (B : Bx W it x dx f cA AL cS SZ o) (rs : List Rw) (asked : List PyData) : (cA, Ob.cell (some (.ref AL))) ∈ stO it AL rs asked o := B.keep' B.hcA (fun _ e => nomatch e) (fun _ e => nomatch e) rs asked
theorem Bx.gcS {o : Own} (B : Bx W it x dx f cA AL cS SZ o) (rs : List Rw) (asked : List PyData) : (cS, Ob.cell (some (.ref SZ))) ∈ stO it AL rs asked o := B.keep' B.hcS (fun _ e => nomatch e) (fun _ e => nomatch e) rs asked
theorem Bx.gSZ {o : Own} (B : Bx W it x dx f cA AL cS SZ o) (rs : List Rw) (asked : List PyData) : (SZ, Ob.prop (DicP W.prog W.w szF)) ∈ stO it AL rs asked o := B.keep B.hSZ (Ne.symm B.n2) (fun _ e => nomatch e) rs asked
theorem Bx.nd {o : Own} (B : Bx W it x dx f cA AL cS SZ o) (rs : List Rw) (asked : List PyData) : ((stO it AL rs asked o).map (·.1)).Nodup := by
  unfold stO; rw [setO_keys, setO_keys]; exact B.kn
theorem Bx.uI {o : Own} (B : Bx W it x dx f cA AL cS SZ o) (rs rs' : List Rw) (asked : List PyData) : Upd it (obI rs) (obI rs') (stO it AL rs asked o) (stO it AL rs' asked o) := by
  have := upd_setO (y := obI rs') (B.nd rs asked) (B.gI rs asked)
  rwa [show setO it (obI rs') (stO it AL rs asked o) = stO it AL rs' asked o by unfold stO; rw [setO_comm B.iA, setO_set]] at this
theorem Bx.uA {o : Own} (B : Bx W it x dx f cA AL cS SZ o) (rs : List Rw) (asked : List PyData) (e : PyData) : Upd AL (.list (asked.map V.dat)) (.list (asked.map V.dat ++ [.dat e])) (stO it AL rs asked o) (stO it AL rs (asked ++ [e]) o) := by
  have := upd_setO (y := obA (asked ++ [e])) (B.nd rs asked) (B.gA rs asked)
  rw [show setO AL (obA (asked ++ [e])) (stO it AL rs asked o) = stO it AL rs (asked ++ [e]) o by unfold stO; rw [setO_set]] at this
  rw [show (asked.map V.dat ++ [V.dat e]) = (asked ++ [e]).map V.dat by rw [List.map_append]; rfl]
  exact this
theorem Bx.fr {o : Own} (B : Bx W it x dx f cA AL cS SZ o) (rs : List Rw) (asked : List PyData) : ∀ {fr : List Env}, FrO o fr → FrO (stO it AL rs asked o) fr
  | [], _ => trivial
  | e :: l, ⟨h1, ⟨L, loc, hf, hm⟩, hr⟩ => ⟨h1, ⟨L, loc, hf, B.keep' hm (fun _ e => nomatch e) (fun _ e => nomatch e) rs asked⟩, B.fr rs asked hr⟩
end
section
variable {it x dx ga L : Addr} {g : Nat} {tq : Str} {ts : Scope} {tc : Value} {tb : List Stmt} {name qual : Str} {params : Arguments} {scope : Scope} {dV kV doc pm cdv ct oc : Value} {an od : Option Addr} {osl : Array (Option Value)} {target iter btest test : Expr} {ys cs s2 s3 s4 s5 : Stmt} {wbody : List Stmt} {pos p1 wpos : Pos}
noncomputable abbrev KU : Flow → Sem Fin := fun f => .pure (.done (.ret (match f with | .ret v => v | _ => .none)))
noncomputable abbrev HU (env : Env) : Value → Sem Fin := fun e => (leaving env e).wrap (fun _ => .raise e) .raise id id
noncomputable abbrev fF (env : Env) (cU : Code) (p : Pos) : Frame := .ret (kBack env (kNext env [] KU (HU env) id id) (HU env) id id) none false [] cU p []
noncomputable abbrev fW (env : Env) (cF : Code) (p : Pos) : Frame := .ret (kBack env (kNext env [] (kTurn cF) (hTurn env) id id) (hTurn env) id id) none false [] cF p []
noncomputable abbrev locF (x it : Addr) : List (Str × V) := [(Str.ofString "self", .ref x), (Str.ofString "diffs", .ref it)]
noncomputable abbrev locW (x it F T : Addr) (flag : PyData) : List (Str × V) := [(Str.ofString "self", .ref x), (Str.ofString "diffs", .ref it), (Str.ofString "flag", .dat flag), (Str.ofString "tolist", .ref T), (Str.ofString "fromlist", .ref F)]


theorem seg_whileA (hK : K03 W) (hT : txtO (W.K.lookup 74) = some (tq, ts, tc, tb))
    {Φ : End → Shared → Prop} {fz₀ : Heap} {o : Own} {flag : PyData} {F T : Addr} {fl tl : List PyData} {pp p2 : Pos} (hA : A.handled = none) (hfl : fl.length ≤ 60) (htl : tl.length ≤ 60)
    (hy : ∀ row pend', zipT flag fl tl = row :: pend' → ∀ fz s v l k p fl' tl', Keep fz₀ fz → Hold W fz ((ga, .gen g (· = .running)) :: (L, .ns (locW x it F T flag)) :: (F, .list (fl'.map V.dat)) :: (T, .list (tl'.map V.dat)) :: o) s → W.tk ≤ s.toks → RV fz (.dat row) v → zipT flag fl' tl' = pend' → fl'.length ≤ 60 → tl'.length ≤ 60 →
      k (.send .none) = .pure (.again (.whileLoop (whT (nthS (forB (nthS tb 0)) 5)) (whB (nthS (forB (nthS tb 0)) 5)) [] (envX tq ts L 74 tc []))) → Φ (.susp v false l k (.whileLoop (whT (nthS (forB (nthS tb 0)) 5)) (whB (nthS (forB (nthS tb 0)) 5)) [] (envX tq ts L 74 tc [])) p [fW (envX tq ts L 74 tc []) (.forLoop (forT (nthS tb 0)) (.ref it) (forB (nthS tb 0)) [] (envX tq ts L 74 tc [])) pp, fF (envX tq ts L 74 tc []) (.func tb (envX tq ts L 74 tc [])) p2]) s)
    (hend : fl = [] → tl = [] → Gk W A Φ fz₀ (.forLoop (forT (nthS tb 0)) (.ref it) (forB (nthS tb 0)) [] (envX tq ts L 74 tc [])) [fF (envX tq ts L 74 tc []) (.func tb (envX tq ts L 74 tc [])) p2]
      ((model W.prog W.w).den (.forLoop (forT (nthS tb 0)) (.ref it) (forB (nthS tb 0)) [] (envX tq ts L 74 tc []))) ((ga, .gen g (· = .running)) :: (L, .ns (locF x it)) :: o)) :
    Gk W A Φ fz₀ (.whileLoop (whT (nthS (forB (nthS tb 0)) 5)) (whB (nthS (forB (nthS tb 0)) 5)) [] (envX tq ts L 74 tc [])) [fW (envX tq ts L 74 tc []) (.forLoop (forT (nthS tb 0)) (.ref it) (forB (nthS tb 0)) [] (envX tq ts L 74 tc [])) pp, fF (envX tq ts L 74 tc []) (.func tb (envX tq ts L 74 tc [])) p2]
      ((model W.prog W.w).den (.whileLoop (whT (nthS (forB (nthS tb 0)) 5)) (whB (nthS (forB (nthS tb 0)) 5)) [] (envX tq ts L 74 tc []))) ((ga, .gen g (· = .running)) :: (L, .ns (locW x it F T flag)) :: (F, .list (fl.map V.dat)) :: (T, .list (tl.map V.dat)) :: o) := by
  rw [K_of (a := 74) hK rfl] at hT
  change some (_, _, _, _) = _ at hT
  cases hT
  dsimp only [lawS, fdB, fdS, clB, PySem.Challenge.pw_dm0066_03, nthS, forT, forB, whT, whB, ifB, List.tail_cons] at *
  have hh : ∀ c fs, (∀ f ∈ fs, ∃ k g l c p kp, f = Frame.ret k none g l c p kp) → (A.over c fs).handled = none := fun c fs hfs => by
    show (marksOver fs (A.handled, A.handled)).1 = none
    rw [hA]
    have key : ∀ fs : List Frame, (∀ f ∈ fs, ∃ k g l c p kp, f = Frame.ret k none g l c p kp) → marksOver fs (none, none) = (none, none) := by
      intro fs
      induction fs with
      | nil => intro _; rfl
      | cons f r ih =>
        intro h
        obtain ⟨k, g, l, c, p, kp, rfl⟩ := h f List.mem_cons_self
        have e := ih fun f hf => h f (List.mem_cons_of_mem _ hf)
        unfold marksOver at e ⊢
        rw [List.foldr_cons, e]; rfl
    rw [key fs hfs]
  rcases fl with _ | ⟨a, fl⟩ <;> rcases tl with _ | ⟨b, tl⟩ <;> simp only [List.map_cons, List.map_nil, List.length_cons, List.length_nil] at hfl htl ⊢
  · refine gk_whileTurn ?_
    refine SG_or ?_
    refine ST_plain ?_
    refine SE_Name ?_ (by decide +kernel)
    refine SN_loc rfl rfl (by (with_reducible repeat first | exact List.mem_cons_self | refine List.mem_cons_of_mem _ ?_ | assumption | exact mem_mid' | exact mem_mid (by assumption))) (by with_reducible rfl) (by (with_reducible repeat first | exact List.mem_cons_self | refine List.mem_cons_of_mem _ ?_ | assumption | exact mem_mid' | exact mem_mid (by assumption))) ?_
    refine tr_own (by (with_reducible repeat first | exact List.mem_cons_self | refine List.mem_cons_of_mem _ ?_ | assumption | exact mem_mid' | exact mem_mid (by assumption))) (by ((rw [sizeLine_eq]; (try simp only [List.length_append, List.length_cons, List.length_nil, List.length_map]); (first | decide | exact Nat.le_trans (by assumption) (by decide) | lia | omega)))) ?_
    rw [show decide (([] : List V) ≠ []) = false from decide_eq_false (by simp)]
    with_reducible refine ite_ff' ?_
    refine SG_or ?_
    refine ST_plain ?_
    refine SE_Name ?_ (by decide +kernel)
    refine SN_loc rfl rfl (by (with_reducible repeat first | exact List.mem_cons_self | refine List.mem_cons_of_mem _ ?_ | assumption | exact mem_mid' | exact mem_mid (by assumption))) (by with_reducible rfl) (by (with_reducible repeat first | exact List.mem_cons_self | refine List.mem_cons_of_mem _ ?_ | assumption | exact mem_mid' | exact mem_mid (by assumption))) ?_
    refine tr_own (by (with_reducible repeat first | exact List.mem_cons_self | refine List.mem_cons_of_mem _ ?_ | assumption | exact mem_mid' | exact mem_mid (by assumption))) (by ((rw [sizeLine_eq]; (try simp only [List.length_append, List.length_cons, List.length_nil, List.length_map]); (first | decide | exact Nat.le_trans (by assumption) (by decide) | lia | omega)))) ?_
    rw [show decide (([] : List V) ≠ []) = false from decide_eq_false (by simp)]
    with_reducible refine ite_ff' ?_
    refine SG_or_nil ?_
    with_reducible refine ite_ff' ?_
    refine gk_leaf (gk_back (gk_nil (gk_again rfl ?_)))
    exact Gk.wk (by (with_reducible repeat first | exact Wk.refl | exact Wk.nil | refine Wk.keep ObW.refl ?_ | refine Wk.keep (ObW.ns (by (with_reducible repeat first | exact List.Sublist.refl _ | exact List.nil_sublist _ | apply List.Sublist.cons_cons | apply List.Sublist.cons))) ?_ | apply Wk.drop)) (hend rfl rfl)
  · skip
    refine gk_whileTurn ?_
    refine SG_or ?_
    refine ST_plain ?_
    refine SE_Name ?_ (by decide +kernel)
    refine SN_loc rfl rfl (by (with_reducible repeat first | exact List.mem_cons_self | refine List.mem_cons_of_mem _ ?_ | assumption | exact mem_mid' | exact mem_mid (by assumption))) (by with_reducible rfl) (by (with_reducible repeat first | exact List.mem_cons_self | refine List.mem_cons_of_mem _ ?_ | assumption | exact mem_mid' | exact mem_mid (by assumption))) ?_
    refine tr_own (by (with_reducible repeat first | exact List.mem_cons_self | refine List.mem_cons_of_mem _ ?_ | assumption | exact mem_mid' | exact mem_mid (by assumption))) (by ((rw [sizeLine_eq]; (try simp only [List.length_append, List.length_cons, List.length_nil, List.length_map]); (first | decide | exact Nat.le_trans (by assumption) (by decide) | lia | omega)))) ?_
    rw [show decide (([] : List V) ≠ []) = false from decide_eq_false (by simp)]
    with_reducible refine ite_ff' ?_
    refine SG_or ?_
    refine ST_plain ?_
    refine SE_Name ?_ (by decide +kernel)
    refine SN_loc rfl rfl (by (with_reducible repeat first | exact List.mem_cons_self | refine List.mem_cons_of_mem _ ?_ | assumption | exact mem_mid' | exact mem_mid (by assumption))) (by with_reducible rfl) (by (with_reducible repeat first | exact List.mem_cons_self | refine List.mem_cons_of_mem _ ?_ | assumption | exact mem_mid' | exact mem_mid (by assumption))) ?_
    refine tr_own (by (with_reducible repeat first | exact List.mem_cons_self | refine List.mem_cons_of_mem _ ?_ | assumption | exact mem_mid' | exact mem_mid (by assumption))) (by ((rw [sizeLine_eq]; (try simp only [List.length_append, List.length_cons, List.length_nil, List.length_map]); (first | decide | exact Nat.le_trans (by assumption) (by decide) | lia | omega)))) ?_
    rw [show decide (V.dat b :: tl.map V.dat ≠ []) = true from decide_eq_true (by simp)]
    with_reducible refine ite_tt' ?_
    with_reducible refine ite_tt' ?_
    refine gk_cons (gk_plain ?_)
    refine SX_If ?_
    refine ST_plain ?_
    refine SE_Name ?_ (by decide +kernel)
    refine SN_loc rfl rfl (by (with_reducible repeat first | exact List.mem_cons_self | refine List.mem_cons_of_mem _ ?_ | assumption | exact mem_mid' | exact mem_mid (by assumption))) (by with_reducible rfl) (by (with_reducible repeat first | exact List.mem_cons_self | refine List.mem_cons_of_mem _ ?_ | assumption | exact mem_mid' | exact mem_mid (by assumption))) ?_
    refine tr_own (by (with_reducible repeat first | exact List.mem_cons_self | refine List.mem_cons_of_mem _ ?_ | assumption | exact mem_mid' | exact mem_mid (by assumption))) (by ((rw [sizeLine_eq]; (try simp only [List.length_append, List.length_cons, List.length_nil, List.length_map]); (first | decide | exact Nat.le_trans (by assumption) (by decide) | lia | omega)))) ?_
    rw [show decide (([] : List V) ≠ []) = false from decide_eq_false (by simp)]
    with_reducible refine ite_ff' ?_
    refine SXs_cons ?_
    refine SX_Assign ?_
    refine SE_TupleF ?_
    refine SEs_cons ?_
    refine SE_strL (by (first | exact l03_0 | exact l03_1 | exact l03_2 | exact l03_3 | exact l03_4 | exact l03_5 | exact l03_6 | exact l03_7 | exact l03_8 | exact l03_9 | exact l03_10)) ?_
    refine SEs_cons ?_
    refine SE_strL (by (first | exact l03_0 | exact l03_1 | exact l03_2 | exact l03_3 | exact l03_4 | exact l03_5 | exact l03_6 | exact l03_7 | exact l03_8 | exact l03_9 | exact l03_10)) ?_
    refine SEs_nil ?_
    with_reducible refine ⟨_, by with_reducible ((first | exact AllDat.map _ | repeat first | exact AllDat.nil | with_reducible apply AllDat.cons)), by ((rw [sizeLine_eq]; simp)), ?_⟩
    refine SS_loc rfl rfl (by (with_reducible repeat first | exact List.mem_cons_self | refine List.mem_cons_of_mem _ ?_ | assumption | exact mem_mid' | exact mem_mid (by assumption))) (by with_reducible rfl) (by (with_reducible repeat first | exact Put.here | exact Put.new | apply Put.there)) (by ((first | (dsimp only [List.map_cons, List.map_nil]; decide +kernel) | (simp only [List.map_cons, List.map_nil]; decide +kernel)))) (by (with_reducible repeat first | assumption | exact Upd.here | exact Upd.mid | apply Upd.there)) ?_
    refine SXs_nil ?_
    refine ⟨rfl, gk_cons (gk_plain ?_)⟩
    refine SX_If ?_
    refine ST_plain ?_
    refine SE_Name ?_ (by decide +kernel)
    refine SN_loc rfl rfl (by (with_reducible repeat first | exact List.mem_cons_self | refine List.mem_cons_of_mem _ ?_ | assumption | exact mem_mid' | exact mem_mid (by assumption))) (by with_reducible rfl) (by (with_reducible repeat first | exact List.mem_cons_self | refine List.mem_cons_of_mem _ ?_ | assumption | exact mem_mid' | exact mem_mid (by assumption))) ?_
    refine tr_own (by (with_reducible repeat first | exact List.mem_cons_self | refine List.mem_cons_of_mem _ ?_ | assumption | exact mem_mid' | exact mem_mid (by assumption))) (by ((rw [sizeLine_eq]; (try simp only [List.length_append, List.length_cons, List.length_nil, List.length_map]); (first | decide | exact Nat.le_trans (by assumption) (by decide) | lia | omega)))) ?_
    rw [show decide (V.dat b :: tl.map V.dat ≠ []) = true from decide_eq_true (by simp)]
    with_reducible refine ite_tt' ?_
    refine SXs_cons ?_
    refine SX_Assign ?_
    refine SE_Meth ?_
    refine SE_Name ?_ (by decide +kernel)
    refine SN_loc rfl rfl (by (with_reducible repeat first | exact List.mem_cons_self | refine List.mem_cons_of_mem _ ?_ | assumption | exact mem_mid' | exact mem_mid (by assumption))) (by with_reducible rfl) (by (with_reducible repeat first | exact List.mem_cons_self | refine List.mem_cons_of_mem _ ?_ | assumption | exact mem_mid' | exact mem_mid (by assumption))) ?_
    refine mth_pop (by (with_reducible repeat first | exact List.mem_cons_self | refine List.mem_cons_of_mem _ ?_ | assumption | exact mem_mid' | exact mem_mid (by assumption))) ?_
    refine SEs_cons ?_
    refine SE_int ?_
    refine SEs_nil ?_
    with_reducible refine ⟨kp_builtin, ?_⟩
    refine call_pop0 (by (with_reducible repeat first | assumption | exact Upd.here | exact Upd.mid | apply Upd.there)) (by ((rw [sizeLine_eq]; (try simp only [List.length_append, List.length_cons, List.length_nil, List.length_map]); (first | decide | exact Nat.le_trans (by assumption) (by decide) | lia | omega)))) ?_
    refine SS_loc rfl rfl (by (with_reducible repeat first | exact List.mem_cons_self | refine List.mem_cons_of_mem _ ?_ | assumption | exact mem_mid' | exact mem_mid (by assumption))) (by with_reducible rfl) (by (with_reducible repeat first | exact Put.here | exact Put.new | apply Put.there)) (by ((first | (dsimp only [List.map_cons, List.map_nil]; decide +kernel) | (simp only [List.map_cons, List.map_nil]; decide +kernel)))) (by (with_reducible repeat first | assumption | exact Upd.here | exact Upd.mid | apply Upd.there)) ?_
    refine SXs_nil ?_
    refine ⟨rfl, gk_cons (gk_yield rfl ?_)⟩
    refine SE_TupleF ?_
    refine SEs_cons ?_
    refine SE_Name ?_ (by decide +kernel)
    refine SN_loc rfl rfl (by (with_reducible repeat first | exact List.mem_cons_self | refine List.mem_cons_of_mem _ ?_ | assumption | exact mem_mid' | exact mem_mid (by assumption))) (by with_reducible rfl) (by (with_reducible repeat first | exact List.mem_cons_self | refine List.mem_cons_of_mem _ ?_ | assumption | exact mem_mid' | exact mem_mid (by assumption))) ?_
    refine SEs_cons ?_
    refine SE_Name ?_ (by decide +kernel)
    refine SN_loc rfl rfl (by (with_reducible repeat first | exact List.mem_cons_self | refine List.mem_cons_of_mem _ ?_ | assumption | exact mem_mid' | exact mem_mid (by assumption))) (by with_reducible rfl) (by (with_reducible repeat first | exact List.mem_cons_self | refine List.mem_cons_of_mem _ ?_ | assumption | exact mem_mid' | exact mem_mid (by assumption))) ?_
    refine SEs_cons ?_
    refine SE_Name ?_ (by decide +kernel)
    refine SN_loc rfl rfl (by (with_reducible repeat first | exact List.mem_cons_self | refine List.mem_cons_of_mem _ ?_ | assumption | exact mem_mid' | exact mem_mid (by assumption))) (by with_reducible rfl) (by (with_reducible repeat first | exact List.mem_cons_self | refine List.mem_cons_of_mem _ ?_ | assumption | exact mem_mid' | exact mem_mid (by assumption))) ?_
    refine SEs_nil ?_
    with_reducible refine ⟨_, by with_reducible ((first | exact AllDat.map _ | repeat first | exact AllDat.nil | with_reducible apply AllDat.cons)), by ((rw [sizeLine_eq]; simp)), ?_⟩
    intro fz s v l k p k0 Ho ht rv hk
    exact hy _ _ zT2 fz s v l k p [] tl k0 (Wk.hold (by (with_reducible repeat first | exact Wk.refl | exact Wk.nil | refine Wk.keep ObW.refl ?_ | refine Wk.keep (ObW.ns (by (with_reducible repeat first | exact List.Sublist.refl _ | exact List.nil_sublist _ | apply List.Sublist.cons_cons | apply List.Sublist.cons))) ?_ | apply Wk.drop)) Ho) ht rv (by rfl) (by simp_all; try (first | decide | exact Nat.le_trans (by assumption) (by decide) | lia | omega)) (by simp_all; try (first | decide | exact Nat.le_trans (by assumption) (by decide) | lia | omega)) hk
  · skip
    refine gk_whileTurn ?_
    refine SG_or ?_
    refine ST_plain ?_
    refine SE_Name ?_ (by decide +kernel)
    refine SN_loc rfl rfl (by (with_reducible repeat first | exact List.mem_cons_self | refine List.mem_cons_of_mem _ ?_ | assumption | exact mem_mid' | exact mem_mid (by assumption))) (by with_reducible rfl) (by (with_reducible repeat first | exact List.mem_cons_self | refine List.mem_cons_of_mem _ ?_ | assumption | exact mem_mid' | exact mem_mid (by assumption))) ?_
    refine tr_own (by (with_reducible repeat first | exact List.mem_cons_self | refine List.mem_cons_of_mem _ ?_ | assumption | exact mem_mid' | exact mem_mid (by assumption))) (by ((rw [sizeLine_eq]; (try simp only [List.length_append, List.length_cons, List.length_nil, List.length_map]); (first | decide | exact Nat.le_trans (by assumption) (by decide) | lia | omega)))) ?_
    rw [show decide (V.dat a :: fl.map V.dat ≠ []) = true from decide_eq_true (by simp)]
    with_reducible refine ite_tt' ?_
    with_reducible refine ite_tt' ?_
    refine gk_cons (gk_plain ?_)
    refine SX_If ?_
    refine ST_plain ?_
    refine SE_Name ?_ (by decide +kernel)
    refine SN_loc rfl rfl (by (with_reducible repeat first | exact List.mem_cons_self | refine List.mem_cons_of_mem _ ?_ | assumption | exact mem_mid' | exact mem_mid (by assumption))) (by with_reducible rfl) (by (with_reducible repeat first | exact List.mem_cons_self | refine List.mem_cons_of_mem _ ?_ | assumption | exact mem_mid' | exact mem_mid (by assumption))) ?_
    refine tr_own (by (with_reducible repeat first | exact List.mem_cons_self | refine List.mem_cons_of_mem _ ?_ | assumption | exact mem_mid' | exact mem_mid (by assumption))) (by ((rw [sizeLine_eq]; (try simp only [List.length_append, List.length_cons, List.length_nil, List.length_map]); (first | decide | exact Nat.le_trans (by assumption) (by decide) | lia | omega)))) ?_
    rw [show decide (V.dat a :: fl.map V.dat ≠ []) = true from decide_eq_true (by simp)]
    with_reducible refine ite_tt' ?_
    refine SXs_cons ?_
    refine SX_Assign ?_
    refine SE_Meth ?_
    refine SE_Name ?_ (by decide +kernel)
    refine SN_loc rfl rfl (by (with_reducible repeat first | exact List.mem_cons_self | refine List.mem_cons_of_mem _ ?_ | assumption | exact mem_mid' | exact mem_mid (by assumption))) (by with_reducible rfl) (by (with_reducible repeat first | exact List.mem_cons_self | refine List.mem_cons_of_mem _ ?_ | assumption | exact mem_mid' | exact mem_mid (by assumption))) ?_
    refine mth_pop (by (with_reducible repeat first | exact List.mem_cons_self | refine List.mem_cons_of_mem _ ?_ | assumption | exact mem_mid' | exact mem_mid (by assumption))) ?_
    refine SEs_cons ?_
    refine SE_int ?_
    refine SEs_nil ?_
    with_reducible refine ⟨kp_builtin, ?_⟩
    refine call_pop0 (by (with_reducible repeat first | assumption | exact Upd.here | exact Upd.mid | apply Upd.there)) (by ((rw [sizeLine_eq]; (try simp only [List.length_append, List.length_cons, List.length_nil, List.length_map]); (first | decide | exact Nat.le_trans (by assumption) (by decide) | lia | omega)))) ?_
    refine SS_loc rfl rfl (by (with_reducible repeat first | exact List.mem_cons_self | refine List.mem_cons_of_mem _ ?_ | assumption | exact mem_mid' | exact mem_mid (by assumption))) (by with_reducible rfl) (by (with_reducible repeat first | exact Put.here | exact Put.new | apply Put.there)) (by ((first | (dsimp only [List.map_cons, List.map_nil]; decide +kernel) | (simp only [List.map_cons, List.map_nil]; decide +kernel)))) (by (with_reducible repeat first | assumption | exact Upd.here | exact Upd.mid | apply Upd.there)) ?_
    refine SXs_nil ?_
    refine ⟨rfl, gk_cons (gk_plain ?_)⟩
    refine SX_If ?_
    refine ST_plain ?_
    refine SE_Name ?_ (by decide +kernel)
    refine SN_loc rfl rfl (by (with_reducible repeat first | exact List.mem_cons_self | refine List.mem_cons_of_mem _ ?_ | assumption | exact mem_mid' | exact mem_mid (by assumption))) (by with_reducible rfl) (by (with_reducible repeat first | exact List.mem_cons_self | refine List.mem_cons_of_mem _ ?_ | assumption | exact mem_mid' | exact mem_mid (by assumption))) ?_
    refine tr_own (by (with_reducible repeat first | exact List.mem_cons_self | refine List.mem_cons_of_mem _ ?_ | assumption | exact mem_mid' | exact mem_mid (by assumption))) (by ((rw [sizeLine_eq]; (try simp only [List.length_append, List.length_cons, List.length_nil, List.length_map]); (first | decide | exact Nat.le_trans (by assumption) (by decide) | lia | omega)))) ?_
    rw [show decide (([] : List V) ≠ []) = false from decide_eq_false (by simp)]
    with_reducible refine ite_ff' ?_
    refine SXs_cons ?_
    refine SX_Assign ?_
    refine SE_TupleF ?_
    refine SEs_cons ?_
    refine SE_strL (by (first | exact l03_0 | exact l03_1 | exact l03_2 | exact l03_3 | exact l03_4 | exact l03_5 | exact l03_6 | exact l03_7 | exact l03_8 | exact l03_9 | exact l03_10)) ?_
    refine SEs_cons ?_
    refine SE_strL (by (first | exact l03_0 | exact l03_1 | exact l03_2 | exact l03_3 | exact l03_4 | exact l03_5 | exact l03_6 | exact l03_7 | exact l03_8 | exact l03_9 | exact l03_10)) ?_
    refine SEs_nil ?_
    with_reducible refine ⟨_, by with_reducible ((first | exact AllDat.map _ | repeat first | exact AllDat.nil | with_reducible apply AllDat.cons)), by ((rw [sizeLine_eq]; simp)), ?_⟩
    refine SS_loc rfl rfl (by (with_reducible repeat first | exact List.mem_cons_self | refine List.mem_cons_of_mem _ ?_ | assumption | exact mem_mid' | exact mem_mid (by assumption))) (by with_reducible rfl) (by (with_reducible repeat first | exact Put.here | exact Put.new | apply Put.there)) (by ((first | (dsimp only [List.map_cons, List.map_nil]; decide +kernel) | (simp only [List.map_cons, List.map_nil]; decide +kernel)))) (by (with_reducible repeat first | assumption | exact Upd.here | exact Upd.mid | apply Upd.there)) ?_
    refine SXs_nil ?_
    refine ⟨rfl, gk_cons (gk_yield rfl ?_)⟩
    refine SE_TupleF ?_
    refine SEs_cons ?_
    refine SE_Name ?_ (by decide +kernel)
    refine SN_loc rfl rfl (by (with_reducible repeat first | exact List.mem_cons_self | refine List.mem_cons_of_mem _ ?_ | assumption | exact mem_mid' | exact mem_mid (by assumption))) (by with_reducible rfl) (by (with_reducible repeat first | exact List.mem_cons_self | refine List.mem_cons_of_mem _ ?_ | assumption | exact mem_mid' | exact mem_mid (by assumption))) ?_
    refine SEs_cons ?_
    refine SE_Name ?_ (by decide +kernel)
    refine SN_loc rfl rfl (by (with_reducible repeat first | exact List.mem_cons_self | refine List.mem_cons_of_mem _ ?_ | assumption | exact mem_mid' | exact mem_mid (by assumption))) (by with_reducible rfl) (by (with_reducible repeat first | exact List.mem_cons_self | refine List.mem_cons_of_mem _ ?_ | assumption | exact mem_mid' | exact mem_mid (by assumption))) ?_
    refine SEs_cons ?_
    refine SE_Name ?_ (by decide +kernel)
    refine SN_loc rfl rfl (by (with_reducible repeat first | exact List.mem_cons_self | refine List.mem_cons_of_mem _ ?_ | assumption | exact mem_mid' | exact mem_mid (by assumption))) (by with_reducible rfl) (by (with_reducible repeat first | exact List.mem_cons_self | refine List.mem_cons_of_mem _ ?_ | assumption | exact mem_mid' | exact mem_mid (by assumption))) ?_
    refine SEs_nil ?_
    with_reducible refine ⟨_, by with_reducible ((first | exact AllDat.map _ | repeat first | exact AllDat.nil | with_reducible apply AllDat.cons)), by ((rw [sizeLine_eq]; simp)), ?_⟩
    intro fz s v l k p k0 Ho ht rv hk
    exact hy _ _ zT1 fz s v l k p fl [] k0 (Wk.hold (by (with_reducible repeat first | exact Wk.refl | exact Wk.nil | refine Wk.keep ObW.refl ?_ | refine Wk.keep (ObW.ns (by (with_reducible repeat first | exact List.Sublist.refl _ | exact List.nil_sublist _ | apply List.Sublist.cons_cons | apply List.Sublist.cons))) ?_ | apply Wk.drop)) Ho) ht rv (by rfl) (by simp_all; try (first | decide | exact Nat.le_trans (by assumption) (by decide) | lia | omega)) (by simp_all; try (first | decide | exact Nat.le_trans (by assumption) (by decide) | lia | omega)) hk
  · skip
    refine gk_whileTurn ?_
    refine SG_or ?_
    refine ST_plain ?_
    refine SE_Name ?_ (by decide +kernel)
    refine SN_loc rfl rfl (by (with_reducible repeat first | exact List.mem_cons_self | refine List.mem_cons_of_mem _ ?_ | assumption | exact mem_mid' | exact mem_mid (by assumption))) (by with_reducible rfl) (by (with_reducible repeat first | exact List.mem_cons_self | refine List.mem_cons_of_mem _ ?_ | assumption | exact mem_mid' | exact mem_mid (by assumption))) ?_
    refine tr_own (by (with_reducible repeat first | exact List.mem_cons_self | refine List.mem_cons_of_mem _ ?_ | assumption | exact mem_mid' | exact mem_mid (by assumption))) (by ((rw [sizeLine_eq]; (try simp only [List.length_append, List.length_cons, List.length_nil, List.length_map]); (first | decide | exact Nat.le_trans (by assumption) (by decide) | lia | omega)))) ?_
    rw [show decide (V.dat a :: fl.map V.dat ≠ []) = true from decide_eq_true (by simp)]
    with_reducible refine ite_tt' ?_
    with_reducible refine ite_tt' ?_
    refine gk_cons (gk_plain ?_)
    refine SX_If ?_
    refine ST_plain ?_
    refine SE_Name ?_ (by decide +kernel)
    refine SN_loc rfl rfl (by (with_reducible repeat first | exact List.mem_cons_self | refine List.mem_cons_of_mem _ ?_ | assumption | exact mem_mid' | exact mem_mid (by assumption))) (by with_reducible rfl) (by (with_reducible repeat first | exact List.mem_cons_self | refine List.mem_cons_of_mem _ ?_ | assumption | exact mem_mid' | exact mem_mid (by assumption))) ?_
    refine tr_own (by (with_reducible repeat first | exact List.mem_cons_self | refine List.mem_cons_of_mem _ ?_ | assumption | exact mem_mid' | exact mem_mid (by assumption))) (by ((rw [sizeLine_eq]; (try simp only [List.length_append, List.length_cons, List.length_nil, List.length_map]); (first | decide | exact Nat.le_trans (by assumption) (by decide) | lia | omega)))) ?_
    rw [show decide (V.dat a :: fl.map V.dat ≠ []) = true from decide_eq_true (by simp)]
    with_reducible refine ite_tt' ?_
    refine SXs_cons ?_
    refine SX_Assign ?_
    refine SE_Meth ?_
    refine SE_Name ?_ (by decide +kernel)
    refine SN_loc rfl rfl (by (with_reducible repeat first | exact List.mem_cons_self | refine List.mem_cons_of_mem _ ?_ | assumption | exact mem_mid' | exact mem_mid (by assumption))) (by with_reducible rfl) (by (with_reducible repeat first | exact List.mem_cons_self | refine List.mem_cons_of_mem _ ?_ | assumption | exact mem_mid' | exact mem_mid (by assumption))) ?_
    refine mth_pop (by (with_reducible repeat first | exact List.mem_cons_self | refine List.mem_cons_of_mem _ ?_ | assumption | exact mem_mid' | exact mem_mid (by assumption))) ?_
    refine SEs_cons ?_
    refine SE_int ?_
    refine SEs_nil ?_
    with_reducible refine ⟨kp_builtin, ?_⟩
    refine call_pop0 (by (with_reducible repeat first | assumption | exact Upd.here | exact Upd.mid | apply Upd.there)) (by ((rw [sizeLine_eq]; (try simp only [List.length_append, List.length_cons, List.length_nil, List.length_map]); (first | decide | exact Nat.le_trans (by assumption) (by decide) | lia | omega)))) ?_
    refine SS_loc rfl rfl (by (with_reducible repeat first | exact List.mem_cons_self | refine List.mem_cons_of_mem _ ?_ | assumption | exact mem_mid' | exact mem_mid (by assumption))) (by with_reducible rfl) (by (with_reducible repeat first | exact Put.here | exact Put.new | apply Put.there)) (by ((first | (dsimp only [List.map_cons, List.map_nil]; decide +kernel) | (simp only [List.map_cons, List.map_nil]; decide +kernel)))) (by (with_reducible repeat first | assumption | exact Upd.here | exact Upd.mid | apply Upd.there)) ?_
    refine SXs_nil ?_
    refine ⟨rfl, gk_cons (gk_plain ?_)⟩
    refine SX_If ?_
    refine ST_plain ?_
    refine SE_Name ?_ (by decide +kernel)
    refine SN_loc rfl rfl (by (with_reducible repeat first | exact List.mem_cons_self | refine List.mem_cons_of_mem _ ?_ | assumption | exact mem_mid' | exact mem_mid (by assumption))) (by with_reducible rfl) (by (with_reducible repeat first | exact List.mem_cons_self | refine List.mem_cons_of_mem _ ?_ | assumption | exact mem_mid' | exact mem_mid (by assumption))) ?_
    refine tr_own (by (with_reducible repeat first | exact List.mem_cons_self | refine List.mem_cons_of_mem _ ?_ | assumption | exact mem_mid' | exact mem_mid (by assumption))) (by ((rw [sizeLine_eq]; (try simp only [List.length_append, List.length_cons, List.length_nil, List.length_map]); (first | decide | exact Nat.le_trans (by assumption) (by decide) | lia | omega)))) ?_
    rw [show decide (V.dat b :: tl.map V.dat ≠ []) = true from decide_eq_true (by simp)]
    with_reducible refine ite_tt' ?_
    refine SXs_cons ?_
    refine SX_Assign ?_
    refine SE_Meth ?_
    refine SE_Name ?_ (by decide +kernel)
    refine SN_loc rfl rfl (by (with_reducible repeat first | exact List.mem_cons_self | refine List.mem_cons_of_mem _ ?_ | assumption | exact mem_mid' | exact mem_mid (by assumption))) (by with_reducible rfl) (by (with_reducible repeat first | exact List.mem_cons_self | refine List.mem_cons_of_mem _ ?_ | assumption | exact mem_mid' | exact mem_mid (by assumption))) ?_
    refine mth_pop (by (with_reducible repeat first | exact List.mem_cons_self | refine List.mem_cons_of_mem _ ?_ | assumption | exact mem_mid' | exact mem_mid (by assumption))) ?_
    refine SEs_cons ?_
    refine SE_int ?_
    refine SEs_nil ?_
    with_reducible refine ⟨kp_builtin, ?_⟩
    refine call_pop0 (by (with_reducible repeat first | assumption | exact Upd.here | exact Upd.mid | apply Upd.there)) (by ((rw [sizeLine_eq]; (try simp only [List.length_append, List.length_cons, List.length_nil, List.length_map]); (first | decide | exact Nat.le_trans (by assumption) (by decide) | lia | omega)))) ?_
    refine SS_loc rfl rfl (by (with_reducible repeat first | exact List.mem_cons_self | refine List.mem_cons_of_mem _ ?_ | assumption | exact mem_mid' | exact mem_mid (by assumption))) (by with_reducible rfl) (by (with_reducible repeat first | exact Put.here | exact Put.new | apply Put.there)) (by ((first | (dsimp only [List.map_cons, List.map_nil]; decide +kernel) | (simp only [List.map_cons, List.map_nil]; decide +kernel)))) (by (with_reducible repeat first | assumption | exact Upd.here | exact Upd.mid | apply Upd.there)) ?_
    refine SXs_nil ?_
    refine ⟨rfl, gk_cons (gk_yield rfl ?_)⟩
    refine SE_TupleF ?_
    refine SEs_cons ?_
    refine SE_Name ?_ (by decide +kernel)
    refine SN_loc rfl rfl (by (with_reducible repeat first | exact List.mem_cons_self | refine List.mem_cons_of_mem _ ?_ | assumption | exact mem_mid' | exact mem_mid (by assumption))) (by with_reducible rfl) (by (with_reducible repeat first | exact List.mem_cons_self | refine List.mem_cons_of_mem _ ?_ | assumption | exact mem_mid' | exact mem_mid (by assumption))) ?_
    refine SEs_cons ?_
    refine SE_Name ?_ (by decide +kernel)
    refine SN_loc rfl rfl (by (with_reducible repeat first | exact List.mem_cons_self | refine List.mem_cons_of_mem _ ?_ | assumption | exact mem_mid' | exact mem_mid (by assumption))) (by with_reducible rfl) (by (with_reducible repeat first | exact List.mem_cons_self | refine List.mem_cons_of_mem _ ?_ | assumption | exact mem_mid' | exact mem_mid (by assumption))) ?_
    refine SEs_cons ?_
    refine SE_Name ?_ (by decide +kernel)
    refine SN_loc rfl rfl (by (with_reducible repeat first | exact List.mem_cons_self | refine List.mem_cons_of_mem _ ?_ | assumption | exact mem_mid' | exact mem_mid (by assumption))) (by with_reducible rfl) (by (with_reducible repeat first | exact List.mem_cons_self | refine List.mem_cons_of_mem _ ?_ | assumption | exact mem_mid' | exact mem_mid (by assumption))) ?_
    refine SEs_nil ?_
    with_reducible refine ⟨_, by with_reducible ((first | exact AllDat.map _ | repeat first | exact AllDat.nil | with_reducible apply AllDat.cons)), by ((rw [sizeLine_eq]; simp)), ?_⟩
    intro fz s v l k p k0 Ho ht rv hk
    exact hy _ _ zT3 fz s v l k p fl tl k0 (Wk.hold (by (with_reducible repeat first | exact Wk.refl | exact Wk.nil | refine Wk.keep ObW.refl ?_ | refine Wk.keep (ObW.ns (by (with_reducible repeat first | exact List.Sublist.refl _ | exact List.nil_sublist _ | apply List.Sublist.cons_cons | apply List.Sublist.cons))) ?_ | apply Wk.drop)) Ho) ht rv (by rfl) (by simp_all; try (first | decide | exact Nat.le_trans (by assumption) (by decide) | lia | omega)) (by simp_all; try (first | decide | exact Nat.le_trans (by assumption) (by decide) | lia | omega)) hk
theorem over_hh (hA : A.handled = none) : ∀ (fs : List Frame) (c : Code), (∀ f ∈ fs, ∃ k g l c p kp, f = Frame.ret k none g l c p kp) → (A.over c fs).handled = none := fun fs c hfs => by
  show (marksOver fs (A.handled, A.handled)).1 = none
  rw [hA]
  have key : ∀ fs : List Frame, (∀ f ∈ fs, ∃ k g l c p kp, f = Frame.ret k none g l c p kp) → marksOver fs (none, none) = (none, none) := by
    intro fs
    induction fs with
    | nil => intro _; rfl
    | cons f r ih =>
      intro h
      obtain ⟨k, g, l, c, p, kp, rfl⟩ := h f List.mem_cons_self
      have e := ih fun f hf => h f (List.mem_cons_of_mem _ hf)
      unfold marksOver at e ⊢
      rw [List.foldr_cons, e]; rfl
  rw [key fs hfs]
theorem perm4 (a b c d : Addr × Ob) (l : Own) : (a :: b :: c :: d :: l).Perm (c :: d :: b :: a :: l) := by
  have h1 : (a :: b :: c :: d :: l).Perm (c :: a :: b :: d :: l) := ((List.Perm.swap c b (d :: l)).cons a).trans (List.Perm.swap c a (b :: d :: l))
  have h2 : (c :: a :: b :: d :: l).Perm (c :: d :: a :: b :: l) := (((List.Perm.swap d b l).cons a).trans (List.Perm.swap d a (b :: l))).cons c
  exact (h1.trans h2).trans (((List.Perm.swap b a l).cons d).cons c)
end
theorem XP.wk {X : String} {fl : Value} {R : Own → Prop} {fz : Heap} {v : Value} {s : Shared} (x : XP W (FlyX X fl) (fun o => ∃ o2, Wk o o2 ∧ R o2) fz v s) : XP W (FlyX X fl) R fz v s := by
  obtain ⟨e, fz', o, rfl, k, H, t, fx, o2, wk, r⟩ := x
  exact ⟨e, fz', o2, rfl, k, wk.hold H, t, fx.wk wk.keys, r⟩
theorem XLC.mono {T : Heap → Own → Heap → Addr → Prop} {R R' : Own → Prop} {f : Value} {args : List V} (h : XLC W A T f args own R) (q : ∀ o, R o → R' o) : XLC W A T f args own R' := fun fz s vs H ht rs =>
  codeAny_mono (h fz s vs H ht rs) fun r s' x => by
    rcases r with v | f
    · obtain ⟨e, fz', o, h1, k, H', t', x, r⟩ := x
      exact ⟨e, fz', o, h1, k, H', t', x, q o r⟩
    · exact x.elim
section
variable {it x dx f cA AL cS SZ ga L : Addr} {g : Nat} {tq : Str} {ts : Scope} {tc : Value} {tb : List Stmt}

theorem seg_turn (hK : K03 W) (hT : txtO (W.K.lookup 74) = some (tq, ts, tc, tb))
    {Φ : End → Shared → Prop} {fz₀ : Heap} {o : Own} {r : Rw} {rs : List Rw} {asked : List PyData} {fr : List Env} {p2 : Pos} (hA : A.handled = none) (hd : A.depth < 500) (hfr : A.frames = some fr) (hF : FrO o fr) (B : Bx W it x dx f cA AL cS SZ o) (hask : asked.length ≤ 400)
    (hyB : isNoneD r.flag = true → ∀ fz s v l k p, Keep fz₀ fz → Hold W fz ((ga, .gen g (· = .running)) :: (L, .ns (locF x it)) :: stO it AL rs asked o) s → W.tk ≤ s.toks → RV fz (.dat (rD r)) v →
      k (.send .none) = (execs (ifB (nthS (forB (nthS tb 0)) 0)).tail (envX tq ts L 74 tc [])).wrap (kNext (envX tq ts L 74 tc []) (forB (nthS tb 0)).tail (kTurn (.forLoop (forT (nthS tb 0)) (.ref it) (forB (nthS tb 0)) [] (envX tq ts L 74 tc []))) (hTurn (envX tq ts L 74 tc [])) id id) (hTurn (envX tq ts L 74 tc [])) id id → Φ (.susp v false l k (.forLoop (forT (nthS tb 0)) (.ref it) (forB (nthS tb 0)) [] (envX tq ts L 74 tc [])) p [fF (envX tq ts L 74 tc []) (.func tb (envX tq ts L 74 tc [])) p2]) s)
    (hyW : isNoneD r.flag = false → ∀ n m, szN r.ca = some n → szN r.cb = some m → ∀ F T pp, Gk W A Φ fz₀ (.whileLoop (whT (nthS (forB (nthS tb 0)) 5)) (whB (nthS (forB (nthS tb 0)) 5)) [] (envX tq ts L 74 tc [])) [fW (envX tq ts L 74 tc []) (.forLoop (forT (nthS tb 0)) (.ref it) (forB (nthS tb 0)) [] (envX tq ts L 74 tc [])) pp, fF (envX tq ts L 74 tc []) (.func tb (envX tq ts L 74 tc [])) p2]
      ((model W.prog W.w).den (.whileLoop (whT (nthS (forB (nthS tb 0)) 5)) (whB (nthS (forB (nthS tb 0)) 5)) [] (envX tq ts L 74 tc []))) ((ga, .gen g (· = .running)) :: (L, .ns (locW x it F T r.flag)) :: (F, .list ((pcsD r.na r.ca n).map V.dat)) :: (T, .list ((pcsD r.nb r.cb m).map V.dat)) :: stO it AL rs (asked ++ [entD r.na r.ca] ++ [entD r.nb r.cb]) o))
    (hx1 : isNoneD r.flag = false → szN r.ca = none → ∀ s v, XP W (FlyX "KeyError" .none) (fun o' => o' = (ga, .gen g (· = .running)) :: stO it AL rs (asked ++ [entD r.na r.ca]) o) fz₀ v s → Φ (.ret (.error v)) s)
    (hx2 : isNoneD r.flag = false → ∀ n, szN r.ca = some n → szN r.cb = none → ∀ s v, XP W (FlyX "KeyError" .none) (fun o' => o' = (ga, .gen g (· = .running)) :: stO it AL rs (asked ++ [entD r.na r.ca] ++ [entD r.nb r.cb]) o) fz₀ v s → Φ (.ret (.error v)) s) :
    Gk W A Φ fz₀ (.forLoop (forT (nthS tb 0)) (.ref it) (forB (nthS tb 0)) [] (envX tq ts L 74 tc [])) [fF (envX tq ts L 74 tc []) (.func tb (envX tq ts L 74 tc [])) p2] ((model W.prog W.w).den (.forLoop (forT (nthS tb 0)) (.ref it) (forB (nthS tb 0)) [] (envX tq ts L 74 tc []))) ((ga, .gen g (· = .running)) :: (L, .ns (locF x it)) :: stO it AL (r :: rs) asked o) := by
  rw [K_of (a := 74) hK rfl] at hT
  change some (_, _, _, _) = _ at hT
  cases hT
  dsimp only [lawS, fdB, fdS, clB, PySem.Challenge.pw_dm0066_03, nthS, forT, forB, whT, whB, ifB, List.tail_cons] at *
  have hrec : recursionLimit = 1000 := rfl
  have hx' := B.gx rs asked
  have hdx' := B.gdx rs asked
  refine gk_for_some (r := (rs.map rD).map V.dat) (.there (.there (B.uI (r :: rs) rs asked))) ?_
  refine SA_Tuple (over_hh hA _ _ (by simp)) rfl ?_
  refine SAs_cons ?_
  refine SA_Name ?_
  refine SS_loc rfl rfl (by (with_reducible repeat first | exact List.mem_cons_self | refine List.mem_cons_of_mem _ ?_ | assumption | exact mem_mid' | exact mem_mid (by assumption))) (by with_reducible rfl) (by (with_reducible repeat first | exact Put.here | exact Put.new | apply Put.there)) (by ((first | (dsimp only [List.map_cons, List.map_nil]; decide +kernel) | (simp only [List.map_cons, List.map_nil]; decide +kernel)))) (by (with_reducible repeat first | assumption | exact Upd.here | exact Upd.mid | apply Upd.there)) ?_
  refine SAs_cons ?_
  refine SA_Name ?_
  refine SS_loc rfl rfl (by (with_reducible repeat first | exact List.mem_cons_self | refine List.mem_cons_of_mem _ ?_ | assumption | exact mem_mid' | exact mem_mid (by assumption))) (by with_reducible rfl) (by (with_reducible repeat first | exact Put.here | exact Put.new | apply Put.there)) (by ((first | (dsimp only [List.map_cons, List.map_nil]; decide +kernel) | (simp only [List.map_cons, List.map_nil]; decide +kernel)))) (by (with_reducible repeat first | assumption | exact Upd.here | exact Upd.mid | apply Upd.there)) ?_
  refine SAs_cons ?_
  refine SA_Name ?_
  refine SS_loc rfl rfl (by (with_reducible repeat first | exact List.mem_cons_self | refine List.mem_cons_of_mem _ ?_ | assumption | exact mem_mid' | exact mem_mid (by assumption))) (by with_reducible rfl) (by (with_reducible repeat first | exact Put.here | exact Put.new | apply Put.there)) (by ((first | (dsimp only [List.map_cons, List.map_nil]; decide +kernel) | (simp only [List.map_cons, List.map_nil]; decide +kernel)))) (by (with_reducible repeat first | assumption | exact Upd.here | exact Upd.mid | apply Upd.there)) ?_
  refine SAs_nil ?_
  refine gk_cons (gk_if ?_)
  refine ST_Compare ?_
  refine SE_Name ?_ (by decide +kernel)
  refine SN_loc rfl rfl (by (with_reducible repeat first | exact List.mem_cons_self | refine List.mem_cons_of_mem _ ?_ | assumption | exact mem_mid' | exact mem_mid (by assumption))) (by with_reducible rfl) (by (with_reducible repeat first | exact List.mem_cons_self | refine List.mem_cons_of_mem _ ?_ | assumption | exact mem_mid' | exact mem_mid (by assumption))) ?_
  refine SE_none ?_
  with_reducible refine cmp_isNone ?_
  with_reducible refine tr_bool ?_
  by_cases hfl : isNoneD r.flag = true
  · rw [hfl]
    with_reducible refine ite_tt' ?_
    refine gk_cons (gk_yield rfl ?_)
    refine SE_TupleF ?_
    refine SEs_cons ?_
    refine SE_Name ?_ (by decide +kernel)
    refine SN_loc rfl rfl (by (with_reducible repeat first | exact List.mem_cons_self | refine List.mem_cons_of_mem _ ?_ | assumption | exact mem_mid' | exact mem_mid (by assumption))) (by with_reducible rfl) (by (with_reducible repeat first | exact List.mem_cons_self | refine List.mem_cons_of_mem _ ?_ | assumption | exact mem_mid' | exact mem_mid (by assumption))) ?_
    refine SEs_cons ?_
    refine SE_Name ?_ (by decide +kernel)
    refine SN_loc rfl rfl (by (with_reducible repeat first | exact List.mem_cons_self | refine List.mem_cons_of_mem _ ?_ | assumption | exact mem_mid' | exact mem_mid (by assumption))) (by with_reducible rfl) (by (with_reducible repeat first | exact List.mem_cons_self | refine List.mem_cons_of_mem _ ?_ | assumption | exact mem_mid' | exact mem_mid (by assumption))) ?_
    refine SEs_cons ?_
    refine SE_Name ?_ (by decide +kernel)
    refine SN_loc rfl rfl (by (with_reducible repeat first | exact List.mem_cons_self | refine List.mem_cons_of_mem _ ?_ | assumption | exact mem_mid' | exact mem_mid (by assumption))) (by with_reducible rfl) (by (with_reducible repeat first | exact List.mem_cons_self | refine List.mem_cons_of_mem _ ?_ | assumption | exact mem_mid' | exact mem_mid (by assumption))) ?_
    refine SEs_nil ?_
    with_reducible refine ⟨_, by with_reducible ((first | exact AllDat.map _ | repeat first | exact AllDat.nil | with_reducible apply AllDat.cons)), by ((rw [sizeLine_eq]; simp)), ?_⟩
    intro fz s v l k p k0 Ho ht rv hk
    exact hyB hfl fz s v l k p k0 (Wk.hold (by (with_reducible repeat first | exact Wk.refl | exact Wk.nil | refine Wk.keep ObW.refl ?_ | refine Wk.keep (ObW.ns (by (with_reducible repeat first | exact List.Sublist.refl _ | exact List.nil_sublist _ | apply List.Sublist.cons_cons | apply List.Sublist.cons))) ?_ | apply Wk.drop)) Ho) ht rv hk
  · rw [Bool.not_eq_true] at hfl
    rw [hfl]
    with_reducible refine ite_ff' ?_
    refine gk_nil (gk_cons (gk_plain (SX_AssignT ?_)))
    refine SE_TupleF ?_
    refine SEs_cons ?_
    refine SE_Name ?_ (by decide +kernel)
    refine SN_loc rfl rfl (by (with_reducible repeat first | exact List.mem_cons_self | refine List.mem_cons_of_mem _ ?_ | assumption | exact mem_mid' | exact mem_mid (by assumption))) (by with_reducible rfl) (by (with_reducible repeat first | exact List.mem_cons_self | refine List.mem_cons_of_mem _ ?_ | assumption | exact mem_mid' | exact mem_mid (by assumption))) ?_
    refine SEs_cons ?_
    refine SE_Name ?_ (by decide +kernel)
    refine SN_loc rfl rfl (by (with_reducible repeat first | exact List.mem_cons_self | refine List.mem_cons_of_mem _ ?_ | assumption | exact mem_mid' | exact mem_mid (by assumption))) (by with_reducible rfl) (by (with_reducible repeat first | exact List.mem_cons_self | refine List.mem_cons_of_mem _ ?_ | assumption | exact mem_mid' | exact mem_mid (by assumption))) ?_
    refine SEs_nil ?_
    with_reducible refine ⟨_, by with_reducible ((first | exact AllDat.map _ | repeat first | exact AllDat.nil | with_reducible apply AllDat.cons)), by ((rw [sizeLine_eq]; simp)), ?_⟩
    refine SA_Tuple (by assumption) rfl ?_
    refine SAs_cons ?_
    refine SA_Tuple (by assumption) rfl ?_
    refine SAs_cons ?_
    refine SA_Name ?_
    refine SS_loc rfl rfl (by (with_reducible repeat first | exact List.mem_cons_self | refine List.mem_cons_of_mem _ ?_ | assumption | exact mem_mid' | exact mem_mid (by assumption))) (by with_reducible rfl) (by (with_reducible repeat first | exact Put.here | exact Put.new | apply Put.there)) (by ((first | (dsimp only [List.map_cons, List.map_nil]; decide +kernel) | (simp only [List.map_cons, List.map_nil]; decide +kernel)))) (by (with_reducible repeat first | assumption | exact Upd.here | exact Upd.mid | apply Upd.there)) ?_
    refine SAs_cons ?_
    refine SA_Name ?_
    refine SS_loc rfl rfl (by (with_reducible repeat first | exact List.mem_cons_self | refine List.mem_cons_of_mem _ ?_ | assumption | exact mem_mid' | exact mem_mid (by assumption))) (by with_reducible rfl) (by (with_reducible repeat first | exact Put.here | exact Put.new | apply Put.there)) (by ((first | (dsimp only [List.map_cons, List.map_nil]; decide +kernel) | (simp only [List.map_cons, List.map_nil]; decide +kernel)))) (by (with_reducible repeat first | assumption | exact Upd.here | exact Upd.mid | apply Upd.there)) ?_
    refine SAs_nil ?_
    refine SAs_cons ?_
    refine SA_Tuple (by assumption) rfl ?_
    refine SAs_cons ?_
    refine SA_Name ?_
    refine SS_loc rfl rfl (by (with_reducible repeat first | exact List.mem_cons_self | refine List.mem_cons_of_mem _ ?_ | assumption | exact mem_mid' | exact mem_mid (by assumption))) (by with_reducible rfl) (by (with_reducible repeat first | exact Put.here | exact Put.new | apply Put.there)) (by ((first | (dsimp only [List.map_cons, List.map_nil]; decide +kernel) | (simp only [List.map_cons, List.map_nil]; decide +kernel)))) (by (with_reducible repeat first | assumption | exact Upd.here | exact Upd.mid | apply Upd.there)) ?_
    refine SAs_cons ?_
    refine SA_Name ?_
    refine SS_loc rfl rfl (by (with_reducible repeat first | exact List.mem_cons_self | refine List.mem_cons_of_mem _ ?_ | assumption | exact mem_mid' | exact mem_mid (by assumption))) (by with_reducible rfl) (by (with_reducible repeat first | exact Put.here | exact Put.new | apply Put.there)) (by ((first | (dsimp only [List.map_cons, List.map_nil]; decide +kernel) | (simp only [List.map_cons, List.map_nil]; decide +kernel)))) (by (with_reducible repeat first | assumption | exact Upd.here | exact Upd.mid | apply Upd.there)) ?_
    refine SAs_nil ?_
    refine SAs_nil ?_
    refine ⟨rfl, gk_cons (gk_plain (SX_AssignSw (names := [Str.ofString "fromlist", Str.ofString "tolist"]) (over_hh hA _ _ (by simp)) rfl ?_))⟩
    refine SE_Tuple ?_
    refine SEs_cons ?_
    refine SE_List (by ((rw [sizeLine_eq]; simp))) ?_
    refine SEs_nil ?_
    refine ⟨by ((rw [sizeLine_eq]; simp)), fun F => ?_⟩
    refine SEs_cons ?_
    refine SE_List (by ((rw [sizeLine_eq]; simp))) ?_
    refine SEs_nil ?_
    refine ⟨by ((rw [sizeLine_eq]; simp)), fun T => ?_⟩
    refine SEs_nil ?_
    refine ⟨by ((rw [sizeLine_eq]; simp)), fun tt => ⟨tt, _, rfl, by (with_reducible repeat first | exact List.mem_cons_self | refine List.mem_cons_of_mem _ ?_ | assumption | exact mem_mid' | exact mem_mid (by assumption)), rfl, ?_⟩⟩
    simp only [List.reverse_cons, List.reverse_nil, List.nil_append, List.cons_append]
    refine SSs_cons ?_
    refine SS_loc rfl rfl (by (with_reducible repeat first | exact List.mem_cons_self | refine List.mem_cons_of_mem _ ?_ | assumption | exact mem_mid' | exact mem_mid (by assumption))) (by with_reducible rfl) (by (with_reducible repeat first | exact Put.here | exact Put.new | apply Put.there)) (by ((first | (dsimp only [List.map_cons, List.map_nil]; decide +kernel) | (simp only [List.map_cons, List.map_nil]; decide +kernel)))) (by (with_reducible repeat first | assumption | exact Upd.here | exact Upd.mid | apply Upd.there)) ?_
    refine SSs_cons ?_
    refine SS_loc rfl rfl (by (with_reducible repeat first | exact List.mem_cons_self | refine List.mem_cons_of_mem _ ?_ | assumption | exact mem_mid' | exact mem_mid (by assumption))) (by with_reducible rfl) (by (with_reducible repeat first | exact Put.here | exact Put.new | apply Put.there)) (by ((first | (dsimp only [List.map_cons, List.map_nil]; decide +kernel) | (simp only [List.map_cons, List.map_nil]; decide +kernel)))) (by (with_reducible repeat first | assumption | exact Upd.here | exact Upd.mid | apply Upd.there)) ?_
    refine SSs_nil ⟨trivial, ?_⟩
    have u1 := B.uA rs asked (entD r.na r.ca)
    have m1 := B.gcS rs (asked ++ [entD r.na r.ca])
    have m2 := B.gSZ rs (asked ++ [entD r.na r.ca])
    have m3 := B.gf rs asked
    have m4 := B.gcA rs asked
    have hF1 := B.fr rs (asked ++ [entD r.na r.ca]) hF
    cases hca : szN r.ca with
    | none =>
      have hca' : szF [r.ca] = none := by rw [szN_F, hca]; rfl
      refine gk_cons (gk_raise (X := "KeyError") (outer := fr) (by show A.frames.map _ = _; rw [hfr]; rfl) rfl (XX_Expr (XE_MethCall ?_)) fun s v xp => hx1 hfl hca s v (XP.wk xp))
      refine SE_Name ?_ (by decide +kernel)
      refine SN_loc rfl rfl (by (with_reducible repeat first | exact List.mem_cons_self | refine List.mem_cons_of_mem _ ?_ | assumption | exact mem_mid' | exact mem_mid (by assumption))) (by with_reducible rfl) (by (with_reducible repeat first | exact List.mem_cons_self | refine List.mem_cons_of_mem _ ?_ | assumption | exact mem_mid' | exact mem_mid (by assumption))) ?_
      refine mth_own (f := 67) (cls03 hK) (by (with_reducible repeat first | exact List.mem_cons_self | refine List.mem_cons_of_mem _ ?_ | assumption | exact mem_mid' | exact mem_mid (by assumption))) (by (with_reducible repeat first | exact List.mem_cons_self | refine List.mem_cons_of_mem _ ?_ | assumption | exact mem_mid' | exact mem_mid (by assumption))) (by rw [hK]; rfl) (by rw [hK]; rfl) (gv := some (.builtin "function.__get__")) (by rw [hK]; rfl) (by rw [hK]; rfl) (by (with_reducible repeat first | exact List.mem_cons_self | refine List.mem_cons_of_mem _ ?_ | assumption | exact mem_mid' | exact mem_mid (by assumption))) ?_
      refine SEs_cons ?_
      refine SE_Name ?_ (by decide +kernel)
      refine SN_loc rfl rfl (by (with_reducible repeat first | exact List.mem_cons_self | refine List.mem_cons_of_mem _ ?_ | assumption | exact mem_mid' | exact mem_mid (by assumption))) (by with_reducible rfl) (by (with_reducible repeat first | exact List.mem_cons_self | refine List.mem_cons_of_mem _ ?_ | assumption | exact mem_mid' | exact mem_mid (by assumption))) ?_
      refine SEs_cons ?_
      refine SE_Name ?_ (by decide +kernel)
      refine SN_loc rfl rfl (by (with_reducible repeat first | exact List.mem_cons_self | refine List.mem_cons_of_mem _ ?_ | assumption | exact mem_mid' | exact mem_mid (by assumption))) (by with_reducible rfl) (by (with_reducible repeat first | exact List.mem_cons_self | refine List.mem_cons_of_mem _ ?_ | assumption | exact mem_mid' | exact mem_mid (by assumption))) ?_
      refine SEs_cons ?_
      refine SE_Name ?_ (by decide +kernel)
      refine SN_loc rfl rfl (by (with_reducible repeat first | exact List.mem_cons_self | refine List.mem_cons_of_mem _ ?_ | assumption | exact mem_mid' | exact mem_mid (by assumption))) (by with_reducible rfl) (by (with_reducible repeat first | exact List.mem_cons_self | refine List.mem_cons_of_mem _ ?_ | assumption | exact mem_mid' | exact mem_mid (by assumption))) ?_
      refine SEs_nil ?_
      refine ⟨kp_lam (by (with_reducible repeat first | exact List.mem_cons_self | refine List.mem_cons_of_mem _ ?_ | assumption | exact mem_mid' | exact mem_mid (by assumption))), XLC.call ((c_lam_x (asked := asked) (cA := cA) (AL := AL) (cS := cS) (SZ := SZ) hK (over_hh hA _ _ (by simp)) (by show A.depth + 1 + 2 < 1000; (first | decide | exact Nat.le_trans (by assumption) (by decide) | lia | omega)) (by show A.frames.map _ = _; rw [hfr]; rfl) hca' (by (first | decide | exact Nat.le_trans (by assumption) (by decide) | lia | omega)) B.hs (by (with_reducible repeat first | exact List.mem_cons_self | refine List.mem_cons_of_mem _ ?_ | assumption | exact mem_mid' | exact mem_mid (by assumption))) (by (with_reducible repeat first | exact List.mem_cons_self | refine List.mem_cons_of_mem _ ?_ | assumption | exact mem_mid' | exact mem_mid (by assumption))) (by (with_reducible repeat first | exact List.mem_cons_self | refine List.mem_cons_of_mem _ ?_ | assumption | exact mem_mid' | exact mem_mid (by assumption))) (by (with_reducible repeat first | assumption | exact Upd.here | exact Upd.mid | apply Upd.there)) (by (with_reducible repeat first | exact List.mem_cons_self | refine List.mem_cons_of_mem _ ?_ | assumption | exact mem_mid' | exact mem_mid (by assumption))) (by (with_reducible repeat first | exact List.mem_cons_self | refine List.mem_cons_of_mem _ ?_ | assumption | exact mem_mid' | exact mem_mid (by assumption))) (by (with_reducible repeat first | exact List.mem_cons_self | refine List.mem_cons_of_mem _ ?_ | assumption | exact mem_mid' | exact mem_mid (by assumption))) ?_).mono ?_)⟩
      · exact ⟨(fun e => nomatch e), ⟨L, _, rfl, by (with_reducible repeat first | exact List.mem_cons_self | refine List.mem_cons_of_mem _ ?_ | assumption | exact mem_mid' | exact mem_mid (by assumption))⟩, hF1.mono' (fun p hp => by (with_reducible repeat first | exact List.mem_cons_self | refine List.mem_cons_of_mem _ ?_ | assumption | exact mem_mid' | exact mem_mid (by assumption)))⟩
      · rintro o2 rfl
        exact ⟨⟨(fun e => nomatch e), ⟨L, _, rfl, by (with_reducible repeat first | exact List.mem_cons_self | refine List.mem_cons_of_mem _ ?_ | assumption | exact mem_mid' | exact mem_mid (by assumption))⟩, hF1.mono' (fun p hp => by (with_reducible repeat first | exact List.mem_cons_self | refine List.mem_cons_of_mem _ ?_ | assumption | exact mem_mid' | exact mem_mid (by assumption)))⟩, _, by (with_reducible repeat first | exact Wk.refl | exact Wk.nil | refine Wk.keep ObW.refl ?_ | refine Wk.keep (ObW.ns (by (with_reducible repeat first | exact List.Sublist.refl _ | exact List.nil_sublist _ | apply List.Sublist.cons_cons | apply List.Sublist.cons))) ?_ | apply Wk.drop), rfl⟩
    | some n =>
      have hca' : szF [r.ca] = some (n : Int) := by rw [szN_F, hca]; rfl
      have hn4 := szN_le hca
      refine gk_cons (gk_plain ?_)
      refine SX_Expr ?_
      refine SE_Meth ?_
      refine SE_Name ?_ (by decide +kernel)
      refine SN_loc rfl rfl (by (with_reducible repeat first | exact List.mem_cons_self | refine List.mem_cons_of_mem _ ?_ | assumption | exact mem_mid' | exact mem_mid (by assumption))) (by with_reducible rfl) (by (with_reducible repeat first | exact List.mem_cons_self | refine List.mem_cons_of_mem _ ?_ | assumption | exact mem_mid' | exact mem_mid (by assumption))) ?_
      refine mth_own (f := 67) (cls03 hK) (by (with_reducible repeat first | exact List.mem_cons_self | refine List.mem_cons_of_mem _ ?_ | assumption | exact mem_mid' | exact mem_mid (by assumption))) (by (with_reducible repeat first | exact List.mem_cons_self | refine List.mem_cons_of_mem _ ?_ | assumption | exact mem_mid' | exact mem_mid (by assumption))) (by rw [hK]; rfl) (by rw [hK]; rfl) (gv := some (.builtin "function.__get__")) (by rw [hK]; rfl) (by rw [hK]; rfl) (by (with_reducible repeat first | exact List.mem_cons_self | refine List.mem_cons_of_mem _ ?_ | assumption | exact mem_mid' | exact mem_mid (by assumption))) ?_
      refine SEs_cons ?_
      refine SE_Name ?_ (by decide +kernel)
      refine SN_loc rfl rfl (by (with_reducible repeat first | exact List.mem_cons_self | refine List.mem_cons_of_mem _ ?_ | assumption | exact mem_mid' | exact mem_mid (by assumption))) (by with_reducible rfl) (by (with_reducible repeat first | exact List.mem_cons_self | refine List.mem_cons_of_mem _ ?_ | assumption | exact mem_mid' | exact mem_mid (by assumption))) ?_
      refine SEs_cons ?_
      refine SE_Name ?_ (by decide +kernel)
      refine SN_loc rfl rfl (by (with_reducible repeat first | exact List.mem_cons_self | refine List.mem_cons_of_mem _ ?_ | assumption | exact mem_mid' | exact mem_mid (by assumption))) (by with_reducible rfl) (by (with_reducible repeat first | exact List.mem_cons_self | refine List.mem_cons_of_mem _ ?_ | assumption | exact mem_mid' | exact mem_mid (by assumption))) ?_
      refine SEs_cons ?_
      refine SE_Name ?_ (by decide +kernel)
      refine SN_loc rfl rfl (by (with_reducible repeat first | exact List.mem_cons_self | refine List.mem_cons_of_mem _ ?_ | assumption | exact mem_mid' | exact mem_mid (by assumption))) (by with_reducible rfl) (by (with_reducible repeat first | exact List.mem_cons_self | refine List.mem_cons_of_mem _ ?_ | assumption | exact mem_mid' | exact mem_mid (by assumption))) ?_
      refine SEs_nil ?_
      refine ⟨kp_lam (by (with_reducible repeat first | exact List.mem_cons_self | refine List.mem_cons_of_mem _ ?_ | assumption | exact mem_mid' | exact mem_mid (by assumption))), SLC.call ((c_lam_ok (asked := asked) (cA := cA) (AL := AL) (cS := cS) (SZ := SZ) (n := n) hK (over_hh hA _ _ (by simp)) (by show A.depth + 1 + 2 < 1000; (first | decide | exact Nat.le_trans (by assumption) (by decide) | lia | omega)) hca' hn4 (by (first | decide | exact Nat.le_trans (by assumption) (by decide) | lia | omega)) (by (with_reducible repeat first | exact List.mem_cons_self | refine List.mem_cons_of_mem _ ?_ | assumption | exact mem_mid' | exact mem_mid (by assumption))) (by (with_reducible repeat first | exact List.mem_cons_self | refine List.mem_cons_of_mem _ ?_ | assumption | exact mem_mid' | exact mem_mid (by assumption))) (by (with_reducible repeat first | exact List.mem_cons_self | refine List.mem_cons_of_mem _ ?_ | assumption | exact mem_mid' | exact mem_mid (by assumption))) (by (with_reducible repeat first | assumption | exact Upd.here | exact Upd.mid | apply Upd.there)) (by (with_reducible repeat first | assumption | exact Upd.here | exact Upd.mid | apply Upd.there)) (by (with_reducible repeat first | exact List.mem_cons_self | refine List.mem_cons_of_mem _ ?_ | assumption | exact mem_mid' | exact mem_mid (by assumption))) (by (with_reducible repeat first | exact List.mem_cons_self | refine List.mem_cons_of_mem _ ?_ | assumption | exact mem_mid' | exact mem_mid (by assumption)))).mono ?_)⟩
      rintro r2 o2 rfl
      refine ⟨rfl, ?_⟩
      clear u1 m1 m2 m3 m4 hF1 hx' hdx'
      have u1 := B.uA rs (asked ++ [entD r.na r.ca]) (entD r.nb r.cb)
      have m1 := B.gcS rs (asked ++ [entD r.na r.ca] ++ [entD r.nb r.cb])
      have m2 := B.gSZ rs (asked ++ [entD r.na r.ca] ++ [entD r.nb r.cb])
      have m3 := B.gf rs (asked ++ [entD r.na r.ca])
      have m4 := B.gcA rs (asked ++ [entD r.na r.ca])
      have hF1 := B.fr rs (asked ++ [entD r.na r.ca] ++ [entD r.nb r.cb]) hF
      have hx' := B.gx rs (asked ++ [entD r.na r.ca])
      have hdx' := B.gdx rs (asked ++ [entD r.na r.ca])
      have hl2 : (asked ++ [entD r.na r.ca]).length ≤ 500 := by rw [List.length_append, List.length_cons, List.length_nil]; (first | decide | exact Nat.le_trans (by assumption) (by decide) | lia | omega)
      cases hcb : szN r.cb with
      | none =>
        have hcb' : szF [r.cb] = none := by rw [szN_F, hcb]; rfl
        refine gk_cons (gk_raise (X := "KeyError") (outer := fr) (by show A.frames.map _ = _; rw [hfr]; rfl) rfl (XX_Expr (XE_MethCall ?_)) fun s v xp => hx2 hfl n hca hcb s v (XP.wk xp))
        refine SE_Name ?_ (by decide +kernel)
        refine SN_loc rfl rfl (by (with_reducible repeat first | exact List.mem_cons_self | refine List.mem_cons_of_mem _ ?_ | assumption | exact mem_mid' | exact mem_mid (by assumption))) (by with_reducible rfl) (by (with_reducible repeat first | exact List.mem_cons_self | refine List.mem_cons_of_mem _ ?_ | assumption | exact mem_mid' | exact mem_mid (by assumption))) ?_
        refine mth_own (f := 67) (cls03 hK) (by (with_reducible repeat first | exact List.mem_cons_self | refine List.mem_cons_of_mem _ ?_ | assumption | exact mem_mid' | exact mem_mid (by assumption))) (by (with_reducible repeat first | exact List.mem_cons_self | refine List.mem_cons_of_mem _ ?_ | assumption | exact mem_mid' | exact mem_mid (by assumption))) (by rw [hK]; rfl) (by rw [hK]; rfl) (gv := some (.builtin "function.__get__")) (by rw [hK]; rfl) (by rw [hK]; rfl) (by (with_reducible repeat first | exact List.mem_cons_self | refine List.mem_cons_of_mem _ ?_ | assumption | exact mem_mid' | exact mem_mid (by assumption))) ?_
        refine SEs_cons ?_
        refine SE_Name ?_ (by decide +kernel)
        refine SN_loc rfl rfl (by (with_reducible repeat first | exact List.mem_cons_self | refine List.mem_cons_of_mem _ ?_ | assumption | exact mem_mid' | exact mem_mid (by assumption))) (by with_reducible rfl) (by (with_reducible repeat first | exact List.mem_cons_self | refine List.mem_cons_of_mem _ ?_ | assumption | exact mem_mid' | exact mem_mid (by assumption))) ?_
        refine SEs_cons ?_
        refine SE_Name ?_ (by decide +kernel)
        refine SN_loc rfl rfl (by (with_reducible repeat first | exact List.mem_cons_self | refine List.mem_cons_of_mem _ ?_ | assumption | exact mem_mid' | exact mem_mid (by assumption))) (by with_reducible rfl) (by (with_reducible repeat first | exact List.mem_cons_self | refine List.mem_cons_of_mem _ ?_ | assumption | exact mem_mid' | exact mem_mid (by assumption))) ?_
        refine SEs_cons ?_
        refine SE_Name ?_ (by decide +kernel)
        refine SN_loc rfl rfl (by (with_reducible repeat first | exact List.mem_cons_self | refine List.mem_cons_of_mem _ ?_ | assumption | exact mem_mid' | exact mem_mid (by assumption))) (by with_reducible rfl) (by (with_reducible repeat first | exact List.mem_cons_self | refine List.mem_cons_of_mem _ ?_ | assumption | exact mem_mid' | exact mem_mid (by assumption))) ?_
        refine SEs_nil ?_
        refine ⟨kp_lam (by (with_reducible repeat first | exact List.mem_cons_self | refine List.mem_cons_of_mem _ ?_ | assumption | exact mem_mid' | exact mem_mid (by assumption))), XLC.call ((c_lam_x (asked := asked ++ [entD r.na r.ca]) (cA := cA) (AL := AL) (cS := cS) (SZ := SZ) hK (over_hh hA _ _ (by simp)) (by show A.depth + 1 + 2 < 1000; (first | decide | exact Nat.le_trans (by assumption) (by decide) | lia | omega)) (by show A.frames.map _ = _; rw [hfr]; rfl) hcb' hl2 B.hs (by (with_reducible repeat first | exact List.mem_cons_self | refine List.mem_cons_of_mem _ ?_ | assumption | exact mem_mid' | exact mem_mid (by assumption))) (by (with_reducible repeat first | exact List.mem_cons_self | refine List.mem_cons_of_mem _ ?_ | assumption | exact mem_mid' | exact mem_mid (by assumption))) (by (with_reducible repeat first | exact List.mem_cons_self | refine List.mem_cons_of_mem _ ?_ | assumption | exact mem_mid' | exact mem_mid (by assumption))) (by (with_reducible repeat first | assumption | exact Upd.here | exact Upd.mid | apply Upd.there)) (by (with_reducible repeat first | exact List.mem_cons_self | refine List.mem_cons_of_mem _ ?_ | assumption | exact mem_mid' | exact mem_mid (by assumption))) (by (with_reducible repeat first | exact List.mem_cons_self | refine List.mem_cons_of_mem _ ?_ | assumption | exact mem_mid' | exact mem_mid (by assumption))) (by (with_reducible repeat first | exact List.mem_cons_self | refine List.mem_cons_of_mem _ ?_ | assumption | exact mem_mid' | exact mem_mid (by assumption))) ?_).mono ?_)⟩
        · exact ⟨(fun e => nomatch e), ⟨L, _, rfl, by (with_reducible repeat first | exact List.mem_cons_self | refine List.mem_cons_of_mem _ ?_ | assumption | exact mem_mid' | exact mem_mid (by assumption))⟩, hF1.mono' (fun p hp => by (with_reducible repeat first | exact List.mem_cons_self | refine List.mem_cons_of_mem _ ?_ | assumption | exact mem_mid' | exact mem_mid (by assumption)))⟩
        · rintro o2 rfl
          exact ⟨⟨(fun e => nomatch e), ⟨L, _, rfl, by (with_reducible repeat first | exact List.mem_cons_self | refine List.mem_cons_of_mem _ ?_ | assumption | exact mem_mid' | exact mem_mid (by assumption))⟩, hF1.mono' (fun p hp => by (with_reducible repeat first | exact List.mem_cons_self | refine List.mem_cons_of_mem _ ?_ | assumption | exact mem_mid' | exact mem_mid (by assumption)))⟩, _, by (with_reducible repeat first | exact Wk.refl | exact Wk.nil | refine Wk.keep ObW.refl ?_ | refine Wk.keep (ObW.ns (by (with_reducible repeat first | exact List.Sublist.refl _ | exact List.nil_sublist _ | apply List.Sublist.cons_cons | apply List.Sublist.cons))) ?_ | apply Wk.drop), rfl⟩
      | some m =>
        have hcb' : szF [r.cb] = some (m : Int) := by rw [szN_F, hcb]; rfl
        have hm4 := szN_le hcb
        refine gk_cons (gk_plain ?_)
        refine SX_Expr ?_
        refine SE_Meth ?_
        refine SE_Name ?_ (by decide +kernel)
        refine SN_loc rfl rfl (by (with_reducible repeat first | exact List.mem_cons_self | refine List.mem_cons_of_mem _ ?_ | assumption | exact mem_mid' | exact mem_mid (by assumption))) (by with_reducible rfl) (by (with_reducible repeat first | exact List.mem_cons_self | refine List.mem_cons_of_mem _ ?_ | assumption | exact mem_mid' | exact mem_mid (by assumption))) ?_
        refine mth_own (f := 67) (cls03 hK) (by (with_reducible repeat first | exact List.mem_cons_self | refine List.mem_cons_of_mem _ ?_ | assumption | exact mem_mid' | exact mem_mid (by assumption))) (by (with_reducible repeat first | exact List.mem_cons_self | refine List.mem_cons_of_mem _ ?_ | assumption | exact mem_mid' | exact mem_mid (by assumption))) (by rw [hK]; rfl) (by rw [hK]; rfl) (gv := some (.builtin "function.__get__")) (by rw [hK]; rfl) (by rw [hK]; rfl) (by (with_reducible repeat first | exact List.mem_cons_self | refine List.mem_cons_of_mem _ ?_ | assumption | exact mem_mid' | exact mem_mid (by assumption))) ?_
        refine SEs_cons ?_
        refine SE_Name ?_ (by decide +kernel)
        refine SN_loc rfl rfl (by (with_reducible repeat first | exact List.mem_cons_self | refine List.mem_cons_of_mem _ ?_ | assumption | exact mem_mid' | exact mem_mid (by assumption))) (by with_reducible rfl) (by (with_reducible repeat first | exact List.mem_cons_self | refine List.mem_cons_of_mem _ ?_ | assumption | exact mem_mid' | exact mem_mid (by assumption))) ?_
        refine SEs_cons ?_
        refine SE_Name ?_ (by decide +kernel)
        refine SN_loc rfl rfl (by (with_reducible repeat first | exact List.mem_cons_self | refine List.mem_cons_of_mem _ ?_ | assumption | exact mem_mid' | exact mem_mid (by assumption))) (by with_reducible rfl) (by (with_reducible repeat first | exact List.mem_cons_self | refine List.mem_cons_of_mem _ ?_ | assumption | exact mem_mid' | exact mem_mid (by assumption))) ?_
        refine SEs_cons ?_
        refine SE_Name ?_ (by decide +kernel)
        refine SN_loc rfl rfl (by (with_reducible repeat first | exact List.mem_cons_self | refine List.mem_cons_of_mem _ ?_ | assumption | exact mem_mid' | exact mem_mid (by assumption))) (by with_reducible rfl) (by (with_reducible repeat first | exact List.mem_cons_self | refine List.mem_cons_of_mem _ ?_ | assumption | exact mem_mid' | exact mem_mid (by assumption))) ?_
        refine SEs_nil ?_
        refine ⟨kp_lam (by (with_reducible repeat first | exact List.mem_cons_self | refine List.mem_cons_of_mem _ ?_ | assumption | exact mem_mid' | exact mem_mid (by assumption))), SLC.call ((c_lam_ok (asked := asked ++ [entD r.na r.ca]) (cA := cA) (AL := AL) (cS := cS) (SZ := SZ) (n := m) hK (over_hh hA _ _ (by simp)) (by show A.depth + 1 + 2 < 1000; (first | decide | exact Nat.le_trans (by assumption) (by decide) | lia | omega)) hcb' hm4 hl2 (by (with_reducible repeat first | exact List.mem_cons_self | refine List.mem_cons_of_mem _ ?_ | assumption | exact mem_mid' | exact mem_mid (by assumption))) (by (with_reducible repeat first | exact List.mem_cons_self | refine List.mem_cons_of_mem _ ?_ | assumption | exact mem_mid' | exact mem_mid (by assumption))) (by (with_reducible repeat first | exact List.mem_cons_self | refine List.mem_cons_of_mem _ ?_ | assumption | exact mem_mid' | exact mem_mid (by assumption))) (by (with_reducible repeat first | assumption | exact Upd.here | exact Upd.mid | apply Upd.there)) (by (with_reducible repeat first | assumption | exact Upd.here | exact Upd.mid | apply Upd.there)) (by (with_reducible repeat first | exact List.mem_cons_self | refine List.mem_cons_of_mem _ ?_ | assumption | exact mem_mid' | exact mem_mid (by assumption))) (by (with_reducible repeat first | exact List.mem_cons_self | refine List.mem_cons_of_mem _ ?_ | assumption | exact mem_mid' | exact mem_mid (by assumption)))).mono ?_)⟩
        rintro r2 o2 rfl
        refine ⟨rfl, gk_cons (gk_while fun pp => ?_)⟩
        rw [List.nil_append, List.nil_append]
        refine Gk.wk (own' := (T, Ob.list ((pcsD r.nb r.cb m).map V.dat)) :: (F, Ob.list ((pcsD r.na r.ca n).map V.dat)) :: (ga, Ob.gen g (· = .running)) :: (L, Ob.ns (locW x it F T r.flag)) :: stO it AL rs (asked ++ [entD r.na r.ca] ++ [entD r.nb r.cb]) o) (by (with_reducible repeat first | exact Wk.refl | exact Wk.nil | refine Wk.keep ObW.refl ?_ | refine Wk.keep (ObW.ns (by (with_reducible repeat first | exact List.Sublist.refl _ | exact List.nil_sublist _ | apply List.Sublist.cons_cons | apply List.Sublist.cons))) ?_ | apply Wk.drop)) ?_
        refine Gk.perm (perm4 _ _ _ _ _) ?_
        exact hyW hfl n m hca hcb F T pp
end
theorem asks_none {r : Rw} (h : isNoneD r.flag = true) : asksR r = [] := by unfold asksR; rw [if_pos h]
theorem asks_one {r : Rw} (h : isNoneD r.flag = false) (h1 : szN r.ca = none) : asksR r = [entD r.na r.ca] := by unfold asksR; rw [if_neg (by rw [h]; exact Bool.false_ne_true), if_pos h1]
theorem asks_two {r : Rw} {n : Nat} (h : isNoneD r.flag = false) (h1 : szN r.ca = some n) : asksR r = [entD r.na r.ca] ++ [entD r.nb r.cb] := by
  unfold asksR; rw [if_neg (by rw [h]; exact Bool.false_ne_true), if_neg (by rw [h1]; exact fun e => nomatch e)]; rfl
theorem out_none {r : Rw} (h : isNoneD r.flag = true) : outR r = some [rD r] := by unfold outR; rw [if_pos h]
theorem out_some {r : Rw} {n m : Nat} (h : isNoneD r.flag = false) (h1 : szN r.ca = some n) (h2 : szN r.cb = some m) : outR r = some (zipT r.flag (pcsD r.na r.ca n) (pcsD r.nb r.cb m)) := by
  unfold outR; rw [if_neg (by rw [h]; exact Bool.false_ne_true), h1, h2]
theorem out_x1 {r : Rw} (h : isNoneD r.flag = false) (h1 : szN r.ca = none) : outR r = none := by unfold outR; rw [if_neg (by rw [h]; exact Bool.false_ne_true), h1]
theorem out_x2 {r : Rw} {n : Nat} (h : isNoneD r.flag = false) (h1 : szN r.ca = some n) (h2 : szN r.cb = none) : outR r = none := by unfold outR; rw [if_neg (by rw [h]; exact Bool.false_ne_true), h1, h2]
theorem asks_len (r : Rw) : (asksR r).length ≤ 2 := by
  unfold asksR
  split
  · exact Nat.zero_le _
  · split <;> simp
theorem pcs_len (num : PyData) (c n : Nat) : (pcsD num c n).length = n := by unfold pcsD; rw [List.length_map, List.length_range]
section
variable {it x dx f cA AL cS SZ ga L : Addr} {g : Nat} {tq : Str} {ts : Scope} {tc : Value} {tb : List Stmt}
noncomputable abbrev eG (tq : Str) (ts : Scope) (L : Addr) (tc : Value) : Env := envX tq ts L 74 tc []
noncomputable abbrev cFo (tb : List Stmt) (it : Addr) (e : Env) : Code := .forLoop (forT (nthS tb 0)) (.ref it) (forB (nthS tb 0)) [] e
noncomputable abbrev cWh (tb : List Stmt) (e : Env) : Code := .whileLoop (whT (nthS (forB (nthS tb 0)) 5)) (whB (nthS (forB (nthS tb 0)) 5)) [] e
noncomputable abbrev kCo (tb : List Stmt) (it : Addr) (e : Env) : Sem Fin := (execs (ifB (nthS (forB (nthS tb 0)) 0)).tail e).wrap (kNext e (forB (nthS tb 0)).tail (kTurn (cFo tb it e)) (hTurn e) id id) (hTurn e) id id
theorem seg_for3 (hK : K03 W) (hT : txtO (W.K.lookup 74) = some (tq, ts, tc, tb))
    {Φ : End → Shared → Prop} {fz₀ : Heap} {o : Own} {fr : List Env} {p2 : Pos} (hA : A.handled = none) (hd : A.depth < 500) (hfr : A.frames = some fr) (hF : FrO o fr) (B : Bx W it x dx f cA AL cS SZ o) {rs : List Rw} {as : List PyData} {res : Res} (gs : Goes rs as res) :
    ∀ {asked : List PyData}, asked.length + as.length ≤ 400 →
    (hret : res = .over → ∀ fz s, Keep fz₀ fz → Hold W fz ((ga, .gen g (· = .running)) :: stO it AL [] (asked ++ as) o) s → W.tk ≤ s.toks → Φ (.ret (.ok (.ret .none))) s) →
    (hx : ∀ rest, res = .fail rest → ∀ s v, XP W (FlyX "KeyError" .none) (fun o' => o' = (ga, .gen g (· = .running)) :: stO it AL rest (asked ++ as) o) fz₀ v s → Φ (.ret (.error v)) s) →
    (hyB : ∀ row rest, res = .row row [] rest → ∀ fz s v l k p, Keep fz₀ fz → Hold W fz ((ga, .gen g (· = .running)) :: (L, .ns (locF x it)) :: stO it AL rest (asked ++ as) o) s → W.tk ≤ s.toks → RV fz (.dat row) v →
      k (.send .none) = kCo tb it (eG tq ts L tc) → Φ (.susp v false l k (cFo tb it (eG tq ts L tc)) p [fF (eG tq ts L tc) (.func tb (eG tq ts L tc)) p2]) s) →
    (hyC : ∀ row pend rest, res = .row row pend rest → ∀ flag F T pp fz s v l k p fl' tl', Keep fz₀ fz → Hold W fz ((ga, .gen g (· = .running)) :: (L, .ns (locW x it F T flag)) :: (F, .list (fl'.map V.dat)) :: (T, .list (tl'.map V.dat)) :: stO it AL rest (asked ++ as) o) s → W.tk ≤ s.toks → RV fz (.dat row) v → zipT flag fl' tl' = pend → fl'.length ≤ 60 → tl'.length ≤ 60 →
      k (.send .none) = .pure (.again (cWh tb (eG tq ts L tc))) → Φ (.susp v false l k (cWh tb (eG tq ts L tc)) p [fW (eG tq ts L tc) (cFo tb it (eG tq ts L tc)) pp, fF (eG tq ts L tc) (.func tb (eG tq ts L tc)) p2]) s) →
    Gk W A Φ fz₀ (cFo tb it (eG tq ts L tc)) [fF (eG tq ts L tc) (.func tb (eG tq ts L tc)) p2] ((model W.prog W.w).den (cFo tb it (eG tq ts L tc))) ((ga, .gen g (· = .running)) :: (L, .ns (locF x it)) :: stO it AL rs asked o) := by
  induction gs with
  | over =>
    intro asked hl hret hx hyB hyC
    refine gk_for_none (over_hh hA _ _ (by simp)) (List.mem_cons_of_mem _ (List.mem_cons_of_mem _ (B.gI [] asked))) ?_
    refine gk_leaf (gk_back (gk_nil (gk_end fun fz s k0 Ho ht => ?_)))
    rw [List.append_nil] at hret
    exact hret rfl fz s k0 (Wk.hold (by (with_reducible repeat first | exact Wk.refl | exact Wk.nil | refine Wk.keep ObW.refl ?_ | refine Wk.keep (ObW.ns (by (with_reducible repeat first | exact List.Sublist.refl _ | exact List.nil_sublist _ | apply List.Sublist.cons_cons | apply List.Sublist.cons))) ?_ | apply Wk.drop)) Ho) ht
  | @skip r rs as res ho gs ih =>
    intro asked hl hret hx hyB hyC
    have hal := asks_len r
    rw [List.length_append] at hl
    have step : ∀ {o' : Own}, ∀ hl2 : (asked ++ asksR r).length + as.length ≤ 400, _ := fun {o'} hl2 => ih (asked := asked ++ asksR r) hl2 (by rw [List.append_assoc]; exact hret) (by rw [List.append_assoc]; exact hx) (by rw [List.append_assoc]; exact hyB) (by rw [List.append_assoc]; exact hyC)
    have step := @step o (by rw [List.length_append]; (first | decide | exact Nat.le_trans (by assumption) (by decide) | lia | omega))
    refine seg_turn hK hT hA hd hfr hF B (by (first | decide | exact Nat.le_trans (by assumption) (by decide) | lia | omega)) ?_ ?_ ?_ ?_
    · intro hn; rw [out_none hn] at ho; cases ho
    · intro hn n m h1 h2 F T pp
      rw [out_some hn h1 h2] at ho
      have hz := Option.some.inj ho
      rw [asks_two hn h1, ← List.append_assoc] at step
      refine seg_whileA hK hT hA (by rw [pcs_len]; have := szN_le h1; (first | decide | exact Nat.le_trans (by assumption) (by decide) | lia | omega)) (by rw [pcs_len]; have := szN_le h2; (first | decide | exact Nat.le_trans (by assumption) (by decide) | lia | omega)) (fun row pend' hz2 => by rw [hz] at hz2; cases hz2) fun _ _ => step
    · intro hn h1; rw [out_x1 hn h1] at ho; cases ho
    · intro hn n h1 h2; rw [out_x2 hn h1 h2] at ho; cases ho
  | @row r rs row pend ho =>
    intro asked hl hret hx hyB hyC
    refine seg_turn hK hT hA hd hfr hF B (by (first | decide | exact Nat.le_trans (by assumption) (by decide) | lia | omega)) ?_ ?_ ?_ ?_
    · intro hn fz s v l k p k0 Ho ht rv hk
      rw [out_none hn] at ho
      cases ho
      rw [asks_none hn, List.append_nil] at hyB
      exact hyB _ rs rfl fz s v l k p k0 Ho ht rv hk
    · intro hn n m h1 h2 F T pp
      rw [out_some hn h1 h2] at ho
      have hz := Option.some.inj ho
      rw [asks_two hn h1, ← List.append_assoc] at hyC
      refine seg_whileA hK hT hA (by rw [pcs_len]; have := szN_le h1; (first | decide | exact Nat.le_trans (by assumption) (by decide) | lia | omega)) (by rw [pcs_len]; have := szN_le h2; (first | decide | exact Nat.le_trans (by assumption) (by decide) | lia | omega)) ?_ (fun e1 e2 => by rw [e1, e2, zT0] at hz; cases hz)
      intro row' pend' hz2 fz s v l k p fl' tl' k0 Ho ht rv hz3 hl1 hl2 hk
      rw [hz] at hz2
      cases hz2
      exact hyC row pend rs rfl r.flag F T pp fz s v l k p fl' tl' k0 Ho ht rv hz3 hl1 hl2 hk
    · intro hn h1; rw [out_x1 hn h1] at ho; cases ho
    · intro hn n h1 h2; rw [out_x2 hn h1 h2] at ho; cases ho
  | @fail r rs ho =>
    intro asked hl hret hx hyB hyC
    refine seg_turn hK hT hA hd hfr hF B (by (first | decide | exact Nat.le_trans (by assumption) (by decide) | lia | omega)) ?_ ?_ ?_ ?_
    · intro hn; rw [out_none hn] at ho; cases ho
    · intro hn n m h1 h2; rw [out_some hn h1 h2] at ho; cases ho
    · intro hn h1
      rw [asks_one hn h1] at hx
      exact hx rs rfl
    · intro hn n h1 h2
      rw [asks_two hn h1, ← List.append_assoc] at hx
      exact hx rs rfl
end
section
variable {it x dx f cA AL cS SZ ga L : Addr} {g : Nat} {tq : Str} {ts : Scope} {tc : Value} {tb : List Stmt}
/-- a wrapper: its own things, what it has still to give, n steps on -/
noncomputable def GP3 (W : Wd) (it x dx f cA AL cS SZ : Addr) : Nat → Own → List PyData → GenState → Prop
  | 0, _, _, _ => True
  | n + 1, go, pend, gs => ∀ (A : Around) (fr : List Env) (fz : Heap) (s : Shared) (ga : Addr) (g : Nat) (o : Own) (rs : List Rw) (asked as : List PyData) (res : Res), A.handled = none → A.depth < 500 → A.frames = some fr → FrO o fr → Bx W it x dx f cA AL cS SZ o →
      Hold W fz ((ga, .gen g (· = .running)) :: (go ++ stO it AL rs asked o)) s → W.tk ≤ s.toks → asked.length + as.length ≤ 400 → Stp pend rs as res →
      Wake (model W.prog W.w) A (OutX W fz ga g (fun b P o1 => ∃ go' row pend' rest, res = .row row pend' rest ∧ b = .dat row ∧ o1 = go' ++ stO it AL rest (asked ++ as) o ∧ P = GP3 W it x dx f cA AL cS SZ n go' pend')
        (fun o1 => res = .over ∧ o1 = stO it AL [] (asked ++ as) o) "KeyError" (fun o1 => ∃ rest, res = .fail rest ∧ o1 = stO it AL rest (asked ++ as) o)) gs s
noncomputable abbrev OutW3 (W : Wd) (fz : Heap) (it x dx f cA AL cS SZ ga : Addr) (g n : Nat) (o : Own) (asked as : List PyData) (res : Res) : End → Shared → Prop :=
  OutX W fz ga g (fun b P o1 => ∃ go' row pend' rest, res = .row row pend' rest ∧ b = .dat row ∧ o1 = go' ++ stO it AL rest (asked ++ as) o ∧ P = GP3 W it x dx f cA AL cS SZ n go' pend')
        (fun o1 => res = .over ∧ o1 = stO it AL [] (asked ++ as) o) "KeyError" (fun o1 => ∃ rest, res = .fail rest ∧ o1 = stO it AL rest (asked ++ as) o)
noncomputable abbrev HypB3 (W : Wd) (it x dx f cA AL cS SZ L : Addr) (n : Nat) (tb : List Stmt) (e : Env) : Prop := ∀ k l p p2 cl, k (.send .none) = kCo tb it e → GP3 W it x dx f cA AL cS SZ n [(L, .ns (locF x it))] [] (.suspended k l (cFo tb it e) p [fF e (.func tb e) p2] cl)
noncomputable abbrev HypC3 (W : Wd) (it x dx f cA AL cS SZ L : Addr) (n : Nat) (tb : List Stmt) (e : Env) : Prop := ∀ k l p pp p2 cl flag F T fl tl, k (.send .none) = .pure (.again (cWh tb e)) → fl.length ≤ 60 → tl.length ≤ 60 →
  GP3 W it x dx f cA AL cS SZ n [(L, .ns (locW x it F T flag)), (F, .list (fl.map V.dat)), (T, .list (tl.map V.dat))] (zipT flag fl tl) (.suspended k l (cWh tb e) p [fW e (cFo tb it e) pp, fF e (.func tb e) p2] cl)
theorem seg_out3 (hK : K03 W) (hT : txtO (W.K.lookup 74) = some (tq, ts, tc, tb)) {n : Nat} (hB : HypB3 W it x dx f cA AL cS SZ L n tb (eG tq ts L tc)) (hC : HypC3 W it x dx f cA AL cS SZ L n tb (eG tq ts L tc))
    {fz₀ : Heap} {o : Own} {fr : List Env} {p2 : Pos} (hA : A.handled = none) (hd : A.depth < 500) (hfr : A.frames = some fr) (hF : FrO o fr) (B : Bx W it x dx f cA AL cS SZ o) {rs : List Rw} {asked as : List PyData} {res : Res} (hl : asked.length + as.length ≤ 400) (gs : Goes rs as res) :
    Gk W A (OutW3 W fz₀ it x dx f cA AL cS SZ ga g n o asked as res) fz₀ (cFo tb it (eG tq ts L tc)) [fF (eG tq ts L tc) (.func tb (eG tq ts L tc)) p2] ((model W.prog W.w).den (cFo tb it (eG tq ts L tc))) ((ga, .gen g (· = .running)) :: (L, .ns (locF x it)) :: stO it AL rs asked o) := by
  refine seg_for3 hK hT hA hd hfr hF B gs hl ?_ ?_ ?_ ?_
  · intro hr fz s k0 Ho ht
    exact ⟨rfl, rfl, fz, _, k0, Ho, ht, hr, rfl⟩
  · intro rest hr s v xp
    obtain ⟨e, fz', o', h1, k, H, t, fx, rfl⟩ := xp
    exact ⟨rfl, e, fz', _, h1, k, H, t, fx, _, rfl, rest, hr, rfl⟩
  · intro row rest hr fz s v l k p k0 Ho ht rv hk
    exact ⟨rfl, fz, .dat row, GP3 W it x dx f cA AL cS SZ n [(L, .ns (locF x it))] [], (L, .ns (locF x it)) :: stO it AL rest (asked ++ as) o, k0, Ho, ht, rv, hB k l p p2 _ hk, [(L, .ns (locF x it))], row, [], rest, hr, rfl, rfl, rfl⟩
  · intro row pend rest hr flag F T pp fz s v l k p fl' tl' k0 Ho ht rv hz hl1 hl2 hk
    subst hz
    exact ⟨rfl, fz, .dat row, GP3 W it x dx f cA AL cS SZ n [(L, .ns (locW x it F T flag)), (F, .list (fl'.map V.dat)), (T, .list (tl'.map V.dat))] (zipT flag fl' tl'), _, k0, Ho, ht, rv, hC k l p pp p2 _ flag F T fl' tl' hk hl1 hl2,
      [(L, .ns (locW x it F T flag)), (F, .list (fl'.map V.dat)), (T, .list (tl'.map V.dat))], row, zipT flag fl' tl', rest, hr, rfl, rfl, rfl⟩
theorem gp_susp3 (hK : K03 W) (hT : txtO (W.K.lookup 74) = some (tq, ts, tc, tb)) (hcs : ∃ cp, (ifB (nthS (forB (nthS tb 0)) 0)).tail = [.Continue cp]) : ∀ n, HypB3 W it x dx f cA AL cS SZ L n tb (eG tq ts L tc) ∧ HypC3 W it x dx f cA AL cS SZ L n tb (eG tq ts L tc) := by
  intro n
  induction n with
  | zero => exact ⟨fun _ _ _ _ _ _ => trivial, fun _ _ _ _ _ _ _ _ _ _ _ _ _ _ => trivial⟩
  | succ n ih =>
    obtain ⟨hB, hC⟩ := ih
    constructor
    · intro k l p p2 cl hk A fr fz s ga g o rs asked as res hA hd hfr hF B H ht hl st
      cases st with | go gs =>
      show Sg _ A _ _ (k (.send .none)) _ s
      rw [hk]
      obtain ⟨cp, hcp⟩ := hcs
      unfold kCo
      rw [hcp]
      exact gk_cons (gk_cont (gk_again rfl (seg_out3 hK hT hB hC hA hd hfr hF B hl gs))) fz s (Keep.refl _) H ht
    · intro k l p pp p2 cl flag F T fl tl hk hl1 hl2 A fr fz s ga g o rs asked as res hA hd hfr hF B H ht hl st
      show Sg _ A _ _ (k (.send .none)) _ s
      rw [hk]
      refine gk_again rfl (seg_whileA hK hT hA hl1 hl2 ?_ ?_) fz s (Keep.refl _) H ht
      · intro row pend' hz fz' s' v l' k' p' fl' tl' k0 Ho ht' rv hz2 hl1' hl2' hk'
        subst hz2
        rw [hz] at st
        cases st
        rw [List.append_nil]
        exact ⟨rfl, fz', .dat row, GP3 W it x dx f cA AL cS SZ n [(L, .ns (locW x it F T flag)), (F, .list (fl'.map V.dat)), (T, .list (tl'.map V.dat))] (zipT flag fl' tl'), _, k0, Ho, ht', rv, hC k' l' p' pp p2 _ flag F T fl' tl' hk' hl1' hl2',
          [(L, .ns (locW x it F T flag)), (F, .list (fl'.map V.dat)), (T, .list (tl'.map V.dat))], row, zipT flag fl' tl', rs, rfl, rfl, rfl, rfl⟩
      · intro e1 e2
        subst e1 e2
        rw [show zipT flag [] [] = [] from zT0] at st
        cases st with | go gs =>
        exact seg_out3 hK hT hB hC hA hd hfr hF B hl gs
theorem gp_fresh3 (hK : K03 W) (hT : txtO (W.K.lookup 74) = some (tq, ts, tc, tb)) (hcs : ∃ cp, (ifB (nthS (forB (nthS tb 0)) 0)).tail = [.Continue cp])
    {iter : Expr} {pos : Pos} (hb : tb = [.For (forT (nthS tb 0)) iter (forB (nthS tb 0)) [] pos]) (hiter : ∀ (A : Around) (own : Own) (Q : V → Own → Prop), (L, Ob.ns (locF x it)) ∈ own → Q (.ref it) own → SE W A (eG tq ts L tc) iter own Q) (hfs : ∀ y, foldedSetIterable iter (eG tq ts L tc) y = pure y) (n : Nat) :
    GP3 W it x dx f cA AL cS SZ n [(L, .ns (locF x it))] [] (.fresh (.func tb (eG tq ts L tc))) := by
  cases n with
  | zero => exact trivial
  | succ n =>
    obtain ⟨hB, hC⟩ := gp_susp3 (it := it) (x := x) (dx := dx) (f := f) (cA := cA) (AL := AL) (cS := cS) (SZ := SZ) (L := L) hK hT hcs n
    intro A fr fz s ga g o rs asked as res hA hd hfr hF B H ht hl st
    cases st with | go gs =>
    refine gk_func ?_ fz s (Keep.refl _) H ht
    have key := fun p2 => seg_out3 (ga := ga) (g := g) (p2 := p2) hK hT hB hC (fz₀ := fz) hA hd hfr hF B hl gs
    generalize hbb : (Code.func tb (eG tq ts L tc)) = CU at key ⊢
    rw [hb]
    refine gk_cons (gk_for (hiter _ _ _ (by simp) ?_) hfs)
    refine lit_iter (List.mem_cons_of_mem _ (List.mem_append_right _ (B.gI rs asked))) ⟨it, rfl, fun p => ?_⟩
    exact key p
end
/-- a wrapper is made -/
theorem c_wrap3 (hK : K03 W) (hd : A.depth < recursionLimit) {x it : Addr} {Q : V → Own → Prop} (h : ∀ L ga g, Q (.ref ga) ((ga, .gen g (fun st => ∀ (dx f cA AL cS SZ : Addr) (n : Nat), GP3 W it x dx f cA AL cS SZ n [(L, .ns (locF x it))] [] st)) :: (L, .ns (locF x it)) :: own)) :
    SLC W A (.ref 74) [.ref x, .ref it] own Q := by
  refine' do_callG [Str.ofString "self", Str.ofString "diffs"] ?ho ?hcd hd ?hb ?hloc ?nd (fun L st => ∀ (dx f cA AL cS SZ : Addr) (n : Nat), GP3 W it x dx f cA AL cS SZ n [(L, .ns (locF x it))] [] st) ?hP ?hh1 ?c1 ?c2 ?c3 ?c4
  case ho => exact K_of hK rfl
  case hcd => rw [hK]; rfl
  case hb => intro s vs _ hl; obtain ⟨_, _, rfl⟩ := len_2 hl; exact BindsTo.of_eq rfl
  case hloc => decide +kernel
  case nd => decide +kernel
  case c1 => rfl
  case c2 => rfl
  case c3 => rfl
  case c4 => decide +kernel
  case hh1 => intro L ga g; exact h L ga g
  intro L dx f cA AL cS SZ n
  have hT := (congrArg txtO (K_of (a := 74) hK rfl)).trans (show _ = some (_, _, _, _) from rfl)
  refine gp_fresh3 hK hT ⟨_, rfl⟩ rfl ?_ (fun _ => rfl) n
  intro A own Q hm hq
  refine SE_Name ?_ (by decide +kernel)
  exact SN_loc rfl rfl hm rfl (by (with_reducible repeat first | exact List.mem_cons_self | refine List.mem_cons_of_mem _ ?_ | assumption | exact mem_mid' | exact mem_mid (by assumption))) hq
theorem deeper_gen2 {body : List Stmt} {e : Env} {fs : List Env} {Q : Fl → Own → Prop} (hh : A.handled = none) (hfr : A.frames = some fs) (h : ∀ A' : Around, A'.handled = none → A'.depth = A.depth + 1 → A'.units = A.units + 3 → A'.frames = some (e :: fs) → SXs W A' env body own Q) : SXs W (A.deeper e) env body own Q :=
  h _ hh rfl rfl (Around.frames_deeper hfr)
theorem SG.nd {α β : Type} {R : Heap → β → α → Prop} {t : Sem α} {Q : β → Own → Prop} (h : (own.map (·.1)).Nodup → SG W A R t own Q) : SG W A R t own Q := fun fz s H ht => h H.nd fz s H ht
theorem exc_key : isSubtype (.type "KeyError") (.type "StopIteration") = pure false := by rw [isSubtype_type]; kernel_rfl
theorem key_key : isSubtype (.type "KeyError") (.type "KeyError") = pure true := by rw [isSubtype_type]; kernel_rfl
theorem Wk.mid {p : Addr × Ob} : ∀ (a b : Own), Wk (a ++ p :: b) (a ++ b)
  | [], b => .drop .refl
  | q :: a, b => .keep .refl (Wk.mid a b)
section
variable {it x dx f cA AL cS SZ ga : Addr} {g : Nat}
theorem Bx.cons {o : Own} {p : Addr × Ob} (B : Bx W it x dx f cA AL cS SZ o) (h : p.1 ∉ o.map (·.1)) : Bx W it x dx f cA AL cS SZ (p :: o) :=
  ⟨by rw [List.map_cons, List.nodup_cons]; exact ⟨h, B.kn⟩, B.hit.imp fun _ => List.mem_cons_of_mem _, B.hAL.imp fun _ => List.mem_cons_of_mem _, .tail _ B.hx, .tail _ B.hdx, .tail _ B.hf, .tail _ B.hcA, .tail _ B.hcS, .tail _ B.hSZ, B.n1, B.n2, B.hs⟩
theorem stO_cons {o : Own} {p : Addr × Ob} (B : Bx W it x dx f cA AL cS SZ o) (h : p.1 ∉ o.map (·.1)) (rs : List Rw) (asked : List PyData) : stO it AL rs asked (p :: o) = p :: stO it AL rs asked o := by
  have h1 : p.1 ≠ it := fun e => by obtain ⟨P, hP⟩ := B.hit; exact h (e ▸ List.mem_map.mpr ⟨_, hP, rfl⟩)
  have h2 : p.1 ≠ AL := fun e => by obtain ⟨P, hP⟩ := B.hAL; exact h (e ▸ List.mem_map.mpr ⟨_, hP, rfl⟩)
  unfold stO setO
  rw [List.map_cons, if_neg h1, List.map_cons, if_neg h2]
/-- what next tells -/
noncomputable def NxQ (W : Wd) (it x dx f cA AL cS SZ ga : Addr) (g n : Nat) (o : Own) (asked as : List PyData) (res : Res) : V → Own → Prop := fun r o' => match res with
  | .row row pend' rest => ∃ go', r = .dat row ∧ o' = (ga, .gen g (GP3 W it x dx f cA AL cS SZ n go' pend')) :: (go' ++ stO it AL rest (asked ++ as) o)
  | .over => r = .str (S [111, 118, 101, 114]) ∧ o' = (ga, .gen g (· = .finished)) :: stO it AL [] (asked ++ as) o
  | .fail rest => r = .str (S [114, 101, 102, 117, 115, 101, 100]) ∧ o' = (ga, .gen g (· = .finished)) :: stO it AL rest (asked ++ as) o
theorem c_next (hK : K03 W) (hh : A.handled = none) (hd : A.depth < 400) {fr : List Env} (hfr : A.frames = some fr) {o go : Own} {P : GenState → Prop} {pend : List PyData} {rs : List Rw} {asked as : List PyData} {res : Res} {n : Nat} (hF : FrO o fr) (B : Bx W it x dx f cA AL cS SZ o)
    (hP : ∀ st, P st → GP3 W it x dx f cA AL cS SZ (n + 1) go pend st) (hl : asked.length + as.length ≤ 400) (st : Stp pend rs as res) (hp : own.Perm ((ga, .gen g P) :: (go ++ stO it AL rs asked o))) :
    SLC W A (.ref 124) [.ref ga] own (NxQ W it x dx f cA AL cS SZ ga g n o asked as res) := by
  refine' do_callC [Str.ofString "flow"] ?ho ?hcd (by show A.depth < 1000; omega) ?hb ?hloc ?nd ?hh2 ?c1 ?c2 ?c3 ?c4
  case ho => exact K_of hK rfl
  case hcd => rw [hK]; rfl
  case hb => intro s vs _ hl; obtain ⟨_, rfl⟩ := len_1 hl; exact BindsTo.of_eq rfl
  case hloc => decide +kernel
  case nd => decide +kernel
  case c1 => rfl
  case c2 => rfl
  case c3 => rfl
  case c4 => decide +kernel
  intro L
  dsimp only [lawS, nthS, fdB, fdS, clB, PySem.Challenge.pw_dm0066_03]
  simp only [List.zip_cons_cons, List.zip_nil_right]
  refine @deeper_gen2 W A _ _ _ _ _ _ hh hfr ?_
  intro A' hh' hd' hu' hfr'
  refine SG.nd fun nd => ?_
  have hLn : L ∉ o.map (·.1) := fun hm => by
    rw [List.map_cons, List.nodup_cons] at nd
    refine nd.1 ((hp.map (·.1)).mem_iff.mpr ?_)
    rw [List.map_cons, List.map_append]
    unfold stO
    rw [setO_keys, setO_keys]
    exact List.mem_cons_of_mem _ (List.mem_append_right _ hm)
  have B' := B.cons (p := (L, Ob.ns [(Str.ofString "flow", V.ref ga)])) hLn
  have e' := fun rs asked => stO_cons (p := (L, Ob.ns [(Str.ofString "flow", V.ref ga)])) B hLn rs asked
  have hp' : ((L, Ob.ns [(Str.ofString "flow", V.ref ga)]) :: own).Perm ((ga, .gen g P) :: (go ++ stO it AL rs asked ((L, Ob.ns [(Str.ofString "flow", V.ref ga)]) :: o))) := by
    rw [e']
    refine (hp.cons _).trans ((List.Perm.swap _ _ _).trans (List.Perm.cons _ ?_))
    exact List.perm_middle.symm
  have hFL : ∀ fl, A'.frames = some fl → FrO ((L, Ob.ns [(Str.ofString "flow", V.ref ga)]) :: o) fl := fun fl e => by
    rw [hfr'] at e
    cases e
    exact ⟨(fun e => nomatch e), ⟨L, _, rfl, List.mem_cons_self⟩, hF.mono' (fun p hp => List.mem_cons_of_mem _ hp)⟩
  have wake : ∀ fz gs, P gs → ∀ s', Hold W fz ((ga, .gen g (· = .running)) :: (go ++ stO it AL rs asked ((L, Ob.ns [(Str.ofString "flow", V.ref ga)]) :: o))) s' → W.tk ≤ s'.toks → Wake (model W.prog W.w) A'.in1.in1 (OutW3 W fz it x dx f cA AL cS SZ ga g n ((L, Ob.ns [(Str.ofString "flow", V.ref ga)]) :: o) asked as res) gs s' :=
    fun fz gs hPs s' H' t' => hP gs hPs A'.in1.in1 _ fz s' ga g _ rs asked as res hh' (by show A'.depth < 500; (first | decide | exact Nat.le_trans (by assumption) (by decide) | lia | omega)) hfr' (hFL _ hfr') B' H' t' hl st
  have hroom : A'.depth < recursionLimit := by show A'.depth < 1000; (first | decide | exact Nat.le_trans (by assumption) (by decide) | lia | omega)
  have fin : ∀ (Pg : GenState → Prop) (go' : Own) (rest : List Rw), Wk ((ga, Ob.gen g Pg) :: (go' ++ stO it AL rest (asked ++ as) ((L, Ob.ns [(Str.ofString "flow", V.ref ga)]) :: o))) ((ga, Ob.gen g Pg) :: (go' ++ stO it AL rest (asked ++ as) o)) := fun Pg go' rest => by
    rw [e']
    exact .keep .refl (Wk.mid _ _)
  cases res with
  | fail rest =>
    refine SXs_cons (SX_TryT (X := "KeyError") (T := "KeyError") (L := L) (outer := fr) (R := fun o' => Wk o' ((ga, .gen g (· = .finished)) :: stO it AL rest (asked ++ as) o)) hfr' rfl rfl rfl rfl rfl (nsIn_of hK rfl) (by decide +kernel) (by decide +kernel) (by decide +kernel) (isSubtype_of_subB (by decide +kernel)) (isSubtype_of_subB (by decide +kernel)) key_key (XXs_here (XX_Return (XE_CallX ?_))) ?_)
    · refine SE_Name ?_ (by decide +kernel)
      refine SN_builtin rfl rfl rfl rfl (nsIn_of (by assumption) rfl) rfl (by decide +kernel) ?_
      with_reducible refine ⟨_, rfl, ?_⟩
      refine SEs_cons ?_
      refine SE_Name ?_ (by decide +kernel)
      refine SN_loc rfl rfl (by (with_reducible repeat first | exact List.mem_cons_self | refine List.mem_cons_of_mem _ ?_ | assumption | exact mem_mid' | exact mem_mid (by assumption))) (by with_reducible rfl) (by (with_reducible repeat first | exact List.mem_cons_self | refine List.mem_cons_of_mem _ ?_ | assumption | exact mem_mid' | exact mem_mid (by assumption))) ?_
      refine SEs_cons ?_
      refine SE_strL (by (first | exact l03_0 | exact l03_1 | exact l03_2 | exact l03_3 | exact l03_4 | exact l03_5 | exact l03_6 | exact l03_7 | exact l03_8 | exact l03_9 | exact l03_10)) ?_
      refine SEs_nil ?_
      with_reducible refine ⟨kp_builtin, ?_⟩
      refine next_x hh' hroom exc_key hp' wake (fun b P o h => by obtain ⟨_, _, _, _, e, _⟩ := h; cases e) (fun o h => by cases h.1) ?_
      rintro o1 ⟨rest', e, rfl⟩
      cases e
      refine ⟨⟨(fun e => nomatch e), ⟨L, _, rfl, by rw [e']; (with_reducible repeat first | exact List.mem_cons_self | refine List.mem_cons_of_mem _ ?_ | assumption | exact mem_mid' | exact mem_mid (by assumption))⟩, ?_⟩, fin _ [] rest⟩
      exact (B'.fr rest (asked ++ as) (hF.mono' (fun p hp => List.mem_cons_of_mem _ hp))).mono' (fun p hp => List.mem_cons_of_mem _ hp)
    · intro A2 o2 wk
      refine SXs_cons ?_
      refine SX_Return ?_
      refine SE_strL (by (first | exact l03_0 | exact l03_1 | exact l03_2 | exact l03_3 | exact l03_4 | exact l03_5 | exact l03_6 | exact l03_7 | exact l03_8 | exact l03_9 | exact l03_10)) ?_
      exact ⟨_, wk, rfl, rfl⟩
  | over =>
    refine SXs_cons (SX_TryN ?_)
    refine SXs_cons ?_
    refine SX_Return ?_
    refine SE_Call ?_
    refine SE_Name ?_ (by decide +kernel)
    refine SN_builtin rfl rfl rfl rfl (nsIn_of (by assumption) rfl) rfl (by decide +kernel) ?_
    with_reducible refine ⟨_, rfl, ?_⟩
    refine SEs_cons ?_
    refine SE_Name ?_ (by decide +kernel)
    refine SN_loc rfl rfl (by (with_reducible repeat first | exact List.mem_cons_self | refine List.mem_cons_of_mem _ ?_ | assumption | exact mem_mid' | exact mem_mid (by assumption))) (by with_reducible rfl) (by (with_reducible repeat first | exact List.mem_cons_self | refine List.mem_cons_of_mem _ ?_ | assumption | exact mem_mid' | exact mem_mid (by assumption))) ?_
    refine SEs_cons ?_
    refine SE_strL (by (first | exact l03_0 | exact l03_1 | exact l03_2 | exact l03_3 | exact l03_4 | exact l03_5 | exact l03_6 | exact l03_7 | exact l03_8 | exact l03_9 | exact l03_10)) ?_
    refine SEs_nil ?_
    with_reducible refine ⟨kp_builtin, ?_⟩
    refine next_ok hh' hroom exc_key hp' wake ?_ ?_ ?_
    · rintro b P' o1 ⟨_, _, _, _, e, _⟩; cases e
    · rintro o1 ⟨_, rfl⟩
      exact ⟨_, fin _ [] [], rfl, rfl⟩
    · rintro o1 ⟨_, e, _⟩; cases e
  | row row pend' rest =>
    refine SXs_cons (SX_TryN ?_)
    refine SXs_cons ?_
    refine SX_Return ?_
    refine SE_Call ?_
    refine SE_Name ?_ (by decide +kernel)
    refine SN_builtin rfl rfl rfl rfl (nsIn_of (by assumption) rfl) rfl (by decide +kernel) ?_
    with_reducible refine ⟨_, rfl, ?_⟩
    refine SEs_cons ?_
    refine SE_Name ?_ (by decide +kernel)
    refine SN_loc rfl rfl (by (with_reducible repeat first | exact List.mem_cons_self | refine List.mem_cons_of_mem _ ?_ | assumption | exact mem_mid' | exact mem_mid (by assumption))) (by with_reducible rfl) (by (with_reducible repeat first | exact List.mem_cons_self | refine List.mem_cons_of_mem _ ?_ | assumption | exact mem_mid' | exact mem_mid (by assumption))) ?_
    refine SEs_cons ?_
    refine SE_strL (by (first | exact l03_0 | exact l03_1 | exact l03_2 | exact l03_3 | exact l03_4 | exact l03_5 | exact l03_6 | exact l03_7 | exact l03_8 | exact l03_9 | exact l03_10)) ?_
    refine SEs_nil ?_
    with_reducible refine ⟨kp_builtin, ?_⟩
    refine next_ok hh' hroom exc_key hp' wake ?_ ?_ ?_
    · rintro b P' o1 ⟨go', row2, pend2, rest2, e, rfl, rfl, rfl⟩
      cases e
      exact ⟨_, fin _ go' rest, go', rfl, rfl⟩
    · rintro o1 ⟨e, _⟩; cases e
    · rintro o1 ⟨_, e, _⟩; cases e
end
/-! ### the rows of the law -/
noncomputable abbrev numL (j : Nat) : List PyData := [.int ((j : Int) + 1), .str (S []), .str (S [62])]
noncomputable abbrev flL : List PyData := [.bool true, .bool false, .none, .str (S [])]
noncomputable def rowOf (j : Nat) (x : Int) : Rw := ⟨(numL j).getD (x / 2 % 3).toNat .none, 97 + (x % 5).toNat, (numL j).getD (x / 3 % 3).toNat .none, 97 + (x / 5 % 5).toNat, flL.getD (x / 25 % 4).toNat .none⟩
noncomputable def rowsAt : Nat → List Int → List Rw
  | _, [] => []
  | j, x :: xs => rowOf j x :: rowsAt (j + 1) xs
theorem rowsAt_len : ∀ (j : Nat) (xs : List Int), (rowsAt j xs).length = xs.length
  | _, [] => rfl
  | j, x :: xs => by rw [rowsAt, List.length_cons, List.length_cons, rowsAt_len]
theorem rowsAt_snoc : ∀ (j : Nat) (xs : List Int) (x : Int), rowsAt j (xs ++ [x]) = rowsAt j xs ++ [rowOf (j + xs.length) x]
  | j, [], x => rfl
  | j, y :: xs, x => by
    rw [List.cons_append, rowsAt, rowsAt, rowsAt_snoc, List.cons_append, List.length_cons, show j + 1 + xs.length = j + (xs.length + 1) by (first | decide | exact Nat.le_trans (by assumption) (by decide) | lia | omega)]
structure RowOk (r : Rw) : Prop where
  na : Ok 50 r.na
  nb : Ok 50 r.nb
  fl : Ok 50 r.flag
  ca : r.ca < 1000
  cb : r.cb < 1000
theorem ok_getD {n : Nat} {l : List PyData} (h : ∀ d ∈ l, Ok (n + 1) d) (i : Nat) : Ok (n + 1) (l.getD i .none) := by
  rw [List.getD_eq_getElem?_getD]
  cases e : l[i]? with
  | none => exact ok_none
  | some d => exact h d (List.mem_of_getElem? e)
theorem ok_numL (j : Nat) : ∀ d ∈ numL j, Ok 50 d := fun d hd => by
  rcases List.mem_cons.mp hd with rfl | hd
  · exact ok_int
  · rcases List.mem_cons.mp hd with rfl | hd
    · exact ok_str (fun c hc => nomatch hc)
    · rcases List.mem_cons.mp hd with rfl | hd
      · exact ok_str (fun c hc => by rcases List.mem_cons.mp hc with rfl | hc; decide; cases hc)
      · cases hd
theorem ok_flL : ∀ d ∈ flL, Ok 50 d := fun d hd => by
  rcases List.mem_cons.mp hd with rfl | hd
  · exact ok_bool
  · rcases List.mem_cons.mp hd with rfl | hd
    · exact ok_bool
    · rcases List.mem_cons.mp hd with rfl | hd
      · exact ok_none
      · rcases List.mem_cons.mp hd with rfl | hd
        · exact ok_str (fun c hc => nomatch hc)
        · cases hd
theorem rowOf_ok (j : Nat) (x : Int) : RowOk (rowOf j x) := by
  refine ⟨ok_getD (ok_numL j) _, ok_getD (ok_numL j) _, ok_getD ok_flL _, ?_, ?_⟩
  · show 97 + (x % 5).toNat < 1000
    (first | decide | exact Nat.le_trans (by assumption) (by decide) | lia | omega)
  · show 97 + (x / 5 % 5).toNat < 1000
    (first | decide | exact Nat.le_trans (by assumption) (by decide) | lia | omega)
theorem ok_one {c n : Nat} (h : c < 1000) : Ok (n + 1) (.str (S [c])) := ok_str fun d hd => by
  rcases List.mem_cons.mp hd with rfl | hd
  · (first | decide | exact Nat.le_trans (by assumption) (by decide) | lia | omega)
  · cases hd
theorem ok_tup2 {n : Nat} {a b : PyData} (h1 : Ok n a) (h2 : Ok n b) : Ok (n + 1) (.tuple [a, b]) := ok_tuple fun d hd => by
  rcases List.mem_cons.mp hd with rfl | hd
  · exact h1
  · rcases List.mem_cons.mp hd with rfl | hd
    · exact h2
    · cases hd
theorem ok_tup3 {n : Nat} {a b c : PyData} (h1 : Ok n a) (h2 : Ok n b) (h3 : Ok n c) : Ok (n + 1) (.tuple [a, b, c]) := ok_tuple fun d hd => by
  rcases List.mem_cons.mp hd with rfl | hd
  · exact h1
  · rcases List.mem_cons.mp hd with rfl | hd
    · exact h2
    · rcases List.mem_cons.mp hd with rfl | hd
      · exact h3
      · cases hd
theorem rD_ok {r : Rw} (h : RowOk r) : Ok 52 (rD r) := ok_tup3 (ok_tup2 h.na (ok_one h.ca)) (ok_tup2 h.nb (ok_one h.cb)) (h.fl.mono (by decide))
theorem ent_ok {num : PyData} {c : Nat} (h : Ok 50 num) (hc : c < 1000) : Ok 52 (entD num c) := ok_tup3 (h.mono (by decide)) (ok_one hc) (ok_list fun d hd => nomatch hd)
theorem asks_ok {r : Rw} (h : RowOk r) : ∀ d ∈ asksR r, Ok 52 d := fun d hd => by
  unfold asksR at hd
  split at hd
  · cases hd
  · rcases List.mem_cons.mp hd with rfl | hd
    · exact ent_ok h.na h.ca
    · split at hd
      · cases hd
      · rcases List.mem_cons.mp hd with rfl | hd
        · exact ent_ok h.nb h.cb
        · cases hd
theorem dec_codes : ∀ k : Nat, k < 8 → ∀ c ∈ decT ((k : Nat) : Int), c < 1114112 := by decide +kernel
theorem pcs_ok {num : PyData} {c n : Nat} (h : Ok 50 num) (hc : c < 1000) (hn : n ≤ 4) : ∀ d ∈ pcsD num c n, Ok 51 d := fun d hd => by
  obtain ⟨k, hk, rfl⟩ := List.mem_map.mp hd
  have := List.mem_range.mp hk
  refine ok_tup2 h (ok_str fun e he => ?_)
  rcases List.mem_append.mp he with he | he
  · rcases List.mem_cons.mp he with rfl | he
    · (first | decide | exact Nat.le_trans (by assumption) (by decide) | lia | omega)
    · cases he
  · exact dec_codes k (by (first | decide | exact Nat.le_trans (by assumption) (by decide) | lia | omega)) e he
theorem pad_ok : Ok 51 padD := ok_tup2 (ok_str fun c hc => nomatch hc) (ok_one (by decide))
theorem zipT_ok {flag : PyData} (hf : Ok 50 flag) : ∀ {a b : List PyData}, (∀ d ∈ a, Ok 51 d) → (∀ d ∈ b, Ok 51 d) → ∀ d ∈ zipT flag a b, Ok 52 d
  | [], b, _, hb, d, hd => by
    rw [zipT] at hd
    obtain ⟨e, he, rfl⟩ := List.mem_map.mp hd
    exact ok_tup3 pad_ok (hb e he) (hf.mono (by decide))
  | x :: a, [], ha, hb, d, hd => by
    rw [zipT] at hd
    rcases List.mem_cons.mp hd with rfl | hd
    · exact ok_tup3 (ha x List.mem_cons_self) pad_ok (hf.mono (by decide))
    · exact zipT_ok hf (fun d h => ha d (List.mem_cons_of_mem _ h)) hb d hd
  | x :: a, y :: b, ha, hb, d, hd => by
    rw [zipT] at hd
    rcases List.mem_cons.mp hd with rfl | hd
    · exact ok_tup3 (ha x List.mem_cons_self) (hb y List.mem_cons_self) (hf.mono (by decide))
    · exact zipT_ok hf (fun d h => ha d (List.mem_cons_of_mem _ h)) (fun d h => hb d (List.mem_cons_of_mem _ h)) d hd
theorem out_ok {r : Rw} (h : RowOk r) {l : List PyData} (e : outR r = some l) : ∀ d ∈ l, Ok 52 d := by
  unfold outR at e
  split at e
  · cases e
    intro d hd
    rcases List.mem_cons.mp hd with rfl | hd
    · exact rD_ok h
    · cases hd
  · split at e
    · rename_i n m h1 h2
      cases e
      exact zipT_ok h.fl (pcs_ok h.na h.ca (szN_le h1)) (pcs_ok h.nb h.cb (szN_le h2))
    · cases e
theorem out_tup {r : Rw} {l : List PyData} (e : outR r = some l) : ∀ d ∈ l, ∃ t, d = .tuple t := by
  unfold outR at e
  split at e
  · cases e
    intro d hd
    rcases List.mem_cons.mp hd with rfl | hd
    · exact ⟨_, rfl⟩
    · cases hd
  · split at e
    · cases e
      have : ∀ (flag : PyData) (a b : List PyData), ∀ d ∈ zipT flag a b, ∃ t, d = .tuple t := by
        intro flag a
        induction a with
        | nil => intro b d hd; rw [zipT] at hd; obtain ⟨e, _, rfl⟩ := List.mem_map.mp hd; exact ⟨_, rfl⟩
        | cons x a ih =>
          intro b d hd
          cases b with
          | nil => rw [zipT] at hd; rcases List.mem_cons.mp hd with rfl | hd; exact ⟨_, rfl⟩; exact ih [] d hd
          | cons y b => rw [zipT] at hd; rcases List.mem_cons.mp hd with rfl | hd; exact ⟨_, rfl⟩; exact ih b d hd
      exact this _ _ _
    · cases e
noncomputable def asksL (rs : List Rw) : List PyData := rs.flatMap asksR
theorem asksL_len (rs : List Rw) : (asksL rs).length ≤ 2 * rs.length := by
  induction rs with
  | nil => exact Nat.le_refl _
  | cons r rs ih =>
    have := asks_len r
    unfold asksL at ih ⊢
    rw [List.flatMap_cons, List.length_append, List.length_cons]; (first | decide | exact Nat.le_trans (by assumption) (by decide) | lia | omega)
theorem asksL_snoc (rs : List Rw) (r : Rw) : asksL (rs ++ [r]) = asksL rs ++ asksR r := by unfold asksL; rw [List.flatMap_append, List.flatMap_cons, List.flatMap_nil, List.append_nil]
theorem goes_skip {rs : List Rw} {as : List PyData} {res : Res} (g : Goes rs as res) : ∀ {sk : List Rw}, (∀ r ∈ sk, outR r = some []) → Goes (sk ++ rs) (asksL sk ++ as) res
  | [], _ => g
  | r :: sk, h => by
    have := Goes.skip (h r List.mem_cons_self) (goes_skip g (sk := sk) fun q hq => h q (List.mem_cons_of_mem _ hq))
    unfold asksL at this ⊢
    rw [List.flatMap_cons, List.append_assoc]
    exact this
/-! ### sides laid side by side -/
theorem zipT_len (flag : PyData) : ∀ (a b : List PyData), (zipT flag a b).length = max a.length b.length
  | [], b => by rw [zipT, List.length_map, List.length_nil]; (first | decide | exact Nat.le_trans (by assumption) (by decide) | lia | omega)
  | x :: a, [] => by rw [zipT, List.length_cons, zipT_len flag a [], List.length_cons, List.length_nil]; (first | decide | exact Nat.le_trans (by assumption) (by decide) | lia | omega)
  | x :: a, y :: b => by rw [zipT, List.length_cons, zipT_len flag a b, List.length_cons, List.length_cons]; (first | decide | exact Nat.le_trans (by assumption) (by decide) | lia | omega)
theorem zipT_get (flag : PyData) : ∀ (a b : List PyData) (k : Nat), k < max a.length b.length → (zipT flag a b)[k]? = some (.tuple [a.getD k padD, b.getD k padD, flag])
  | [], b, k, h => by
    rw [zipT, List.getElem?_map]
    rw [List.length_nil] at h
    rw [List.getElem?_eq_getElem (by (first | decide | exact Nat.le_trans (by assumption) (by decide) | lia | omega) : k < b.length), List.getD_eq_getElem?_getD, List.getD_eq_getElem?_getD, List.getElem?_eq_getElem (by (first | decide | exact Nat.le_trans (by assumption) (by decide) | lia | omega) : k < b.length)]
    rfl
  | x :: a, [], k, h => by
    rw [zipT]
    cases k with
    | zero => rfl
    | succ k =>
      rw [List.getElem?_cons_succ, zipT_get flag a [] k (by simp only [List.length_cons, List.length_nil] at h ⊢; (first | decide | exact Nat.le_trans (by assumption) (by decide) | lia | omega))]
      rfl
  | x :: a, y :: b, k, h => by
    rw [zipT]
    cases k with
    | zero => rfl
    | succ k =>
      rw [List.getElem?_cons_succ, zipT_get flag a b k (by simp only [List.length_cons] at h ⊢; (first | decide | exact Nat.le_trans (by assumption) (by decide) | lia | omega))]
      rfl
theorem pad_get {a : List PyData} {j k : Nat} (h : k < a.length + j) : (a ++ List.replicate j padD).getD k .none = a.getD k padD := by
  rw [List.getD_eq_getElem?_getD, List.getD_eq_getElem?_getD, List.getElem?_append]
  split
  · rename_i h1; rw [List.getElem?_eq_getElem h1]; rfl
  · rename_i h1
    rw [List.getElem?_eq_none (by (first | decide | exact Nat.le_trans (by assumption) (by decide) | lia | omega) : a.length ≤ k), List.getElem?_replicate, if_pos (by (first | decide | exact Nat.le_trans (by assumption) (by decide) | lia | omega))]
    rfl
theorem zip4 (flag : PyData) {a b : List PyData} (ha : a.length ≤ 4) (hb : b.length ≤ 4) :
    (List.range (max a.length b.length)).map (fun k => (.tuple [(a ++ List.replicate (4 - a.length) padD).getD k .none, (b ++ List.replicate (4 - b.length) padD).getD k .none, flag] : PyData)) = zipT flag a b := by
  refine List.ext_getElem? fun k => ?_
  rw [List.getElem?_map]
  by_cases h : k < max a.length b.length
  · rw [List.getElem?_range h, zipT_get flag a b k h, Option.map_some, pad_get (by (first | decide | exact Nat.le_trans (by assumption) (by decide) | lia | omega)), pad_get (by (first | decide | exact Nat.le_trans (by assumption) (by decide) | lia | omega))]
  · rw [List.getElem?_eq_none (by rw [List.length_range]; (first | decide | exact Nat.le_trans (by assumption) (by decide) | lia | omega)), List.getElem?_eq_none (by rw [zipT_len]; (first | decide | exact Nat.le_trans (by assumption) (by decide) | lia | omega))]
    rfl
/-! ### comparisons -/
theorem cmp_isNotNone {d : PyData} {Q : V → Own → Prop} (h : Q (.bool (!isNoneD d)) own) : S2 W A RV (compareOp .IsNot) (.dat d) .none own Q := fun fz s v u H _ r1 r2 => by
  rw [r2.none_inv]
  have fin : ∀ b, Q (.bool b) own → Post W RV Q fz (.bool b) s := fun b q => ⟨fz, _, own, .refl _, H, .dat (.bool _), q⟩
  cases r1 with
  | dat r =>
    cases r with
    | none => exact wpAny_isNot_self rfl (fin false h)
    | _ => exact wpAny_isNot_other rfl (fun e => nomatch e) (fin true h)
theorem cmp_inSL {l : List Nat} {ls : List (List Nat)} {Q : V → Own → Prop} (h : Q (.bool (decide (l ∈ ls))) own) : S2 W A RV (compareOp .In) (.str (S l)) (.lst (ls.map fun l => .str (S l))) own Q := fun fz s v u H _ r1 r2 => by
  obtain ⟨t, rfl⟩ := r1.str_inv
  obtain ⟨x, vs, rfl, hl, rs⟩ := r2.lst_inv
  refine in_list_strs (vs := vs.toList) (by simpa using IsList_keep hl H.has) (strs_of rs) ?_
  rw [any_eqS]
  exact ⟨fz, _, own, .refl _, H, .dat (.bool _), h⟩
theorem cmp_neOO {D E : Addr} {ds : List PyData} {Q : V → Own → Prop} (hD : (D, Ob.list (ds.map V.dat)) ∈ own) (hE : (E, Ob.list (ds.map V.dat)) ∈ own) (ok : Ok 60 (.list ds)) (hu : A.units + 64 < cLine) (h : Q (.bool false) own) : S2 W A RV (compareOp .NotEq) (.ref D) (.ref E) own Q := fun fz s v u H _ r1 r2 => by
  cases r1.val_inv
  cases r2.val_inv
  obtain ⟨as, ra⟩ := own_reads H hD
  obtain ⟨bs, rb⟩ := own_reads H hE
  refine SeqAt.compareNe_reads ra rb ok.1 ok.1 (by have := ok.2; (first | decide | exact Nat.le_trans (by assumption) (by decide) | lia | omega)) ?_
  rw [SeqAt.eqv_refl _ ok.1]
  exact at_tok H _ (.dat (.bool _)) h
theorem cmp_eqOO {D E : Addr} {ds : List PyData} {Q : V → Own → Prop} (hD : (D, Ob.list (ds.map V.dat)) ∈ own) (hE : (E, Ob.list (ds.map V.dat)) ∈ own) (ok : Ok 60 (.list ds)) (hu : A.units + 64 < cLine) (h : Q (.bool true) own) : S2 W A RV (compareOp .Eq) (.ref D) (.ref E) own Q := fun fz s v u H _ r1 r2 => by
  cases r1.val_inv
  cases r2.val_inv
  obtain ⟨as, ra⟩ := own_reads H hD
  obtain ⟨bs, rb⟩ := own_reads H hE
  refine SeqAt.compareEq_reads ra rb ok.1 ok.1 (by have := ok.2; (first | decide | exact Nat.le_trans (by assumption) (by decide) | lia | omega)) ?_
  rw [SeqAt.eqv_refl _ ok.1]
  exact at_tok H _ (.dat (.bool _)) h
theorem cmp_eqTS {t : List PyData} {l : List Nat} {Q : V → Own → Prop} (ok : Ok 60 (.tuple t)) (hl : ∀ c ∈ l, c < 1114112) (hu : A.units + 64 < cLine) (h : Q (.bool false) own) : S2 W A RV (compareOp .Eq) (.tup t) (.str (S l)) own Q := fun fz s v u H _ r1 r2 => by
  cases r1 with | dat r1 => cases r2 with | dat r2 =>
  refine SeqAt.compareEq_reads (Reads.keeps H.has r1) (Reads.keeps H.has r2) ok.1 (ok_str (n := 0) hl).1 (by have := ok.2; (first | decide | exact Nat.le_trans (by assumption) (by decide) | lia | omega)) ?_
  exact at_tok H _ (.dat (.bool _)) h
theorem numL_get (j : Nat) (y : Int) : (numL j)[place (y % 3) (numL j).length]? = some ((numL j).getD (y % 3).toNat .none) := by
  unfold place
  rw [if_neg (by (first | decide | exact Nat.le_trans (by assumption) (by decide) | lia | omega)), List.getD_eq_getElem?_getD]
  have : (y % 3).toNat < (numL j).length := by show _ < 3; (first | decide | exact Nat.le_trans (by assumption) (by decide) | lia | omega)
  rw [List.getElem?_eq_getElem this]; rfl
theorem flL_get (y : Int) : flL[place (y % 4) flL.length]? = some (flL.getD (y % 4).toNat .none) := by
  unfold place
  rw [if_neg (by (first | decide | exact Nat.le_trans (by assumption) (by decide) | lia | omega)), List.getD_eq_getElem?_getD]
  have : (y % 4).toNat < flL.length := by show _ < 4; (first | decide | exact Nat.le_trans (by assumption) (by decide) | lia | omega)
  rw [List.getElem?_eq_getElem this]; rfl
theorem abc_get (y : Int) : ([97, 98, 99, 100, 101] : List Nat)[place (y % 5) 5]? = some (97 + (y % 5).toNat) := by
  have h : y % 5 = 0 ∨ y % 5 = 1 ∨ y % 5 = 2 ∨ y % 5 = 3 ∨ y % 5 = 4 := by (first | decide | exact Nat.le_trans (by assumption) (by decide) | lia | omega)
  rcases h with h | h | h | h | h <;> rw [h] <;> rfl


theorem turn_rows (hK : K03 W) {L D it : Addr} {cl : List (Str × Addr)} {tq : Str} {ts : Scope} {tc : Value} {tb : List Stmt} (hT : txtO (W.K.lookup 129) = some (tq, ts, tc, tb)) (hh : A.handled = none) {rr : List V} {scr : V} {x : Int} {rs : List Rw} (hl : rs.length ≤ 100) {Q : Fl → Own → Prop}
    (hQ : ∀ o, Wk o ((it, Ob.it rr) :: (D, Ob.list (((rs ++ [rowOf rs.length x]).map rD).map V.dat)) :: (L, Ob.ns [(Str.ofString "script", scr), (Str.ofString "rows", .ref D)]) :: own) → Q .next o) :
    SA W A (envX tq ts L 129 tc cl) (forT (nthS tb 2)) (.int x) ((it, Ob.it rr) :: (D, Ob.list ((rs.map rD).map V.dat)) :: (L, Ob.ns [(Str.ofString "script", scr), (Str.ofString "rows", .ref D)]) :: own) fun o1 => SXs W A (envX tq ts L 129 tc cl) (forB (nthS tb 2)) o1 Q := by
  rw [K_of (a := 129) hK rfl] at hT
  change some (_, _, _, _) = _ at hT
  cases hT
  dsimp only [lawS, fdB, fdS, clB, PySem.Challenge.pw_dm0066_03, nthS, forT, forI, forB, forP, ifT, ifB, ifE, ifP]
  have hnl : ∀ y : Int, -((numL rs.length).length : Int) ≤ y % 3 ∧ y % 3 < ((numL rs.length).length : Int) := fun y => by
    rw [show (numL rs.length).length = 3 from rfl]; (first | decide | exact Nat.le_trans (by assumption) (by decide) | lia | omega)
  have hfl : ∀ y : Int, -(flL.length : Int) ≤ y % 4 ∧ y % 4 < (flL.length : Int) := fun y => by
    rw [show flL.length = 4 from rfl]; (first | decide | exact Nat.le_trans (by assumption) (by decide) | lia | omega)
  have hab : ∀ y : Int, -((([97, 98, 99, 100, 101] : List Nat)).length : Int) ≤ y % 5 ∧ y % 5 < ((([97, 98, 99, 100, 101] : List Nat)).length : Int) := fun y => by
    (first | dsimp only [List.length_cons, List.length_nil] | simp only [List.length_cons, List.length_nil]); (first | decide | exact Nat.le_trans (by assumption) (by decide) | lia | omega)
  refine SA_Name ?_
  refine SS_loc rfl rfl (by (with_reducible repeat first | exact List.mem_cons_self | refine List.mem_cons_of_mem _ ?_ | assumption | exact mem_mid' | exact mem_mid (by assumption))) (by with_reducible rfl) (by (with_reducible repeat first | exact Put.here | exact Put.new | apply Put.there)) (by ((first | (dsimp only [List.map_cons, List.map_nil]; decide +kernel) | (simp only [List.map_cons, List.map_nil]; decide +kernel)))) (by (with_reducible repeat first | assumption | exact Upd.here | exact Upd.mid | apply Upd.there)) ?_
  refine SXs_cons ?_
  refine SX_Assign ?_
  refine SE_ListF ?_
  refine SEs_cons ?_
  refine SE_BinOp ?_
  refine SE_Call ?_
  refine SE_Name ?_ (by decide +kernel)
  refine SN_builtin rfl rfl rfl rfl (nsIn_of (by assumption) rfl) rfl (by decide +kernel) ?_
  with_reducible refine ⟨_, rfl, ?_⟩
  refine SEs_cons ?_
  refine SE_Name ?_ (by decide +kernel)
  refine SN_loc rfl rfl (by (with_reducible repeat first | exact List.mem_cons_self | refine List.mem_cons_of_mem _ ?_ | assumption | exact mem_mid' | exact mem_mid (by assumption))) (by with_reducible rfl) (by (with_reducible repeat first | exact List.mem_cons_self | refine List.mem_cons_of_mem _ ?_ | assumption | exact mem_mid' | exact mem_mid (by assumption))) ?_
  refine SEs_nil ?_
  with_reducible refine ⟨kp_builtin, ?_⟩
  refine call_len_own (by (with_reducible repeat first | exact List.mem_cons_self | refine List.mem_cons_of_mem _ ?_ | assumption | exact mem_mid' | exact mem_mid (by assumption))) (by ((rw [sizeLine_eq]; (try simp only [List.length_append, List.length_cons, List.length_nil, List.length_map]); (first | decide | exact Nat.le_trans (by assumption) (by decide) | lia | omega)))) ?_
  refine SE_int ?_
  with_reducible refine op_add ?_
  refine SEs_cons ?_
  refine SE_strL (by (first | exact l03_0 | exact l03_1 | exact l03_2 | exact l03_3 | exact l03_4 | exact l03_5 | exact l03_6 | exact l03_7 | exact l03_8 | exact l03_9 | exact l03_10)) ?_
  refine SEs_cons ?_
  refine SE_strL (by (first | exact l03_0 | exact l03_1 | exact l03_2 | exact l03_3 | exact l03_4 | exact l03_5 | exact l03_6 | exact l03_7 | exact l03_8 | exact l03_9 | exact l03_10)) ?_
  refine SEs_nil ?_
  with_reducible refine ⟨_, by with_reducible ((first | exact AllDat.map _ | repeat first | exact AllDat.nil | with_reducible apply AllDat.cons)), by ((rw [sizeLine_eq]; simp)), ?_⟩
  refine SS_loc rfl rfl (by (with_reducible repeat first | exact List.mem_cons_self | refine List.mem_cons_of_mem _ ?_ | assumption | exact mem_mid' | exact mem_mid (by assumption))) (by with_reducible rfl) (by (with_reducible repeat first | exact Put.here | exact Put.new | apply Put.there)) (by ((first | (dsimp only [List.map_cons, List.map_nil]; decide +kernel) | (simp only [List.map_cons, List.map_nil]; decide +kernel)))) (by (with_reducible repeat first | assumption | exact Upd.here | exact Upd.mid | apply Upd.there)) ?_
  refine SXs_cons ?_
  refine SX_Assign ?_
  refine SE_TupleF ?_
  refine SEs_cons ?_
  refine SE_Subscript ?_
  refine SE_Name ?_ (by decide +kernel)
  refine SN_loc rfl rfl (by (with_reducible repeat first | exact List.mem_cons_self | refine List.mem_cons_of_mem _ ?_ | assumption | exact mem_mid' | exact mem_mid (by assumption))) (by with_reducible rfl) (by (with_reducible repeat first | exact List.mem_cons_self | refine List.mem_cons_of_mem _ ?_ | assumption | exact mem_mid' | exact mem_mid (by assumption))) ?_
  refine SE_BinOp ?_
  refine SE_BinOp ?_
  refine SE_Name ?_ (by decide +kernel)
  refine SN_loc rfl rfl (by (with_reducible repeat first | exact List.mem_cons_self | refine List.mem_cons_of_mem _ ?_ | assumption | exact mem_mid' | exact mem_mid (by assumption))) (by with_reducible rfl) (by (with_reducible repeat first | exact List.mem_cons_self | refine List.mem_cons_of_mem _ ?_ | assumption | exact mem_mid' | exact mem_mid (by assumption))) ?_
  refine SE_int ?_
  with_reducible refine op_div (by decide) (by decide) ?_
  refine SE_int ?_
  with_reducible refine op_mod (by decide) ?_
  rw [show (((rs.map rD).map V.dat).length : Int) = (rs.length : Int) by rw [List.length_map, List.length_map]]
  refine sub_lst (l := numL rs.length) (hnl _).1 (hnl _).2 (by rw [sizeLine_eq]; show 3 ≤ _; decide) (numL_get _ _) ?_
  refine SEs_cons ?_
  refine SE_Subscript ?_
  refine SE_strL (by (first | exact l03_0 | exact l03_1 | exact l03_2 | exact l03_3 | exact l03_4 | exact l03_5 | exact l03_6 | exact l03_7 | exact l03_8 | exact l03_9 | exact l03_10)) ?_
  refine SE_BinOp ?_
  refine SE_Name ?_ (by decide +kernel)
  refine SN_loc rfl rfl (by (with_reducible repeat first | exact List.mem_cons_self | refine List.mem_cons_of_mem _ ?_ | assumption | exact mem_mid' | exact mem_mid (by assumption))) (by with_reducible rfl) (by (with_reducible repeat first | exact List.mem_cons_self | refine List.mem_cons_of_mem _ ?_ | assumption | exact mem_mid' | exact mem_mid (by assumption))) ?_
  refine SE_int ?_
  with_reducible refine op_mod (by decide) ?_
  refine sub_strS (hab _).1 (hab _).2 (by rw [sizeLine_eq]; decide) (abc_get _) ?_
  refine SEs_nil ?_
  with_reducible refine ⟨_, by with_reducible ((first | exact AllDat.map _ | repeat first | exact AllDat.nil | with_reducible apply AllDat.cons)), by ((rw [sizeLine_eq]; simp)), ?_⟩
  refine SS_loc rfl rfl (by (with_reducible repeat first | exact List.mem_cons_self | refine List.mem_cons_of_mem _ ?_ | assumption | exact mem_mid' | exact mem_mid (by assumption))) (by with_reducible rfl) (by (with_reducible repeat first | exact Put.here | exact Put.new | apply Put.there)) (by ((first | (dsimp only [List.map_cons, List.map_nil]; decide +kernel) | (simp only [List.map_cons, List.map_nil]; decide +kernel)))) (by (with_reducible repeat first | assumption | exact Upd.here | exact Upd.mid | apply Upd.there)) ?_
  refine SXs_cons ?_
  refine SX_Assign ?_
  refine SE_TupleF ?_
  refine SEs_cons ?_
  refine SE_Subscript ?_
  refine SE_Name ?_ (by decide +kernel)
  refine SN_loc rfl rfl (by (with_reducible repeat first | exact List.mem_cons_self | refine List.mem_cons_of_mem _ ?_ | assumption | exact mem_mid' | exact mem_mid (by assumption))) (by with_reducible rfl) (by (with_reducible repeat first | exact List.mem_cons_self | refine List.mem_cons_of_mem _ ?_ | assumption | exact mem_mid' | exact mem_mid (by assumption))) ?_
  refine SE_BinOp ?_
  refine SE_BinOp ?_
  refine SE_Name ?_ (by decide +kernel)
  refine SN_loc rfl rfl (by (with_reducible repeat first | exact List.mem_cons_self | refine List.mem_cons_of_mem _ ?_ | assumption | exact mem_mid' | exact mem_mid (by assumption))) (by with_reducible rfl) (by (with_reducible repeat first | exact List.mem_cons_self | refine List.mem_cons_of_mem _ ?_ | assumption | exact mem_mid' | exact mem_mid (by assumption))) ?_
  refine SE_int ?_
  with_reducible refine op_div (by decide) (by decide) ?_
  refine SE_int ?_
  with_reducible refine op_mod (by decide) ?_
  refine sub_lst (l := numL rs.length) (hnl _).1 (hnl _).2 (by rw [sizeLine_eq]; show 3 ≤ _; decide) (numL_get _ _) ?_
  refine SEs_cons ?_
  refine SE_Subscript ?_
  refine SE_strL (by (first | exact l03_0 | exact l03_1 | exact l03_2 | exact l03_3 | exact l03_4 | exact l03_5 | exact l03_6 | exact l03_7 | exact l03_8 | exact l03_9 | exact l03_10)) ?_
  refine SE_BinOp ?_
  refine SE_BinOp ?_
  refine SE_Name ?_ (by decide +kernel)
  refine SN_loc rfl rfl (by (with_reducible repeat first | exact List.mem_cons_self | refine List.mem_cons_of_mem _ ?_ | assumption | exact mem_mid' | exact mem_mid (by assumption))) (by with_reducible rfl) (by (with_reducible repeat first | exact List.mem_cons_self | refine List.mem_cons_of_mem _ ?_ | assumption | exact mem_mid' | exact mem_mid (by assumption))) ?_
  refine SE_int ?_
  with_reducible refine op_div (by decide) (by decide) ?_
  refine SE_int ?_
  with_reducible refine op_mod (by decide) ?_
  refine sub_strS (hab _).1 (hab _).2 (by rw [sizeLine_eq]; decide) (abc_get _) ?_
  refine SEs_nil ?_
  with_reducible refine ⟨_, by with_reducible ((first | exact AllDat.map _ | repeat first | exact AllDat.nil | with_reducible apply AllDat.cons)), by ((rw [sizeLine_eq]; simp)), ?_⟩
  refine SS_loc rfl rfl (by (with_reducible repeat first | exact List.mem_cons_self | refine List.mem_cons_of_mem _ ?_ | assumption | exact mem_mid' | exact mem_mid (by assumption))) (by with_reducible rfl) (by (with_reducible repeat first | exact Put.here | exact Put.new | apply Put.there)) (by ((first | (dsimp only [List.map_cons, List.map_nil]; decide +kernel) | (simp only [List.map_cons, List.map_nil]; decide +kernel)))) (by (with_reducible repeat first | assumption | exact Upd.here | exact Upd.mid | apply Upd.there)) ?_
  refine SXs_cons ?_
  refine SX_Expr ?_
  refine SE_Meth ?_
  refine SE_Name ?_ (by decide +kernel)
  refine SN_loc rfl rfl (by (with_reducible repeat first | exact List.mem_cons_self | refine List.mem_cons_of_mem _ ?_ | assumption | exact mem_mid' | exact mem_mid (by assumption))) (by with_reducible rfl) (by (with_reducible repeat first | exact List.mem_cons_self | refine List.mem_cons_of_mem _ ?_ | assumption | exact mem_mid' | exact mem_mid (by assumption))) ?_
  refine mth_append (by (with_reducible repeat first | exact List.mem_cons_self | refine List.mem_cons_of_mem _ ?_ | assumption | exact mem_mid' | exact mem_mid (by assumption))) ?_
  refine SEs_cons ?_
  refine SE_TupleF ?_
  refine SEs_cons ?_
  refine SE_Name ?_ (by decide +kernel)
  refine SN_loc rfl rfl (by (with_reducible repeat first | exact List.mem_cons_self | refine List.mem_cons_of_mem _ ?_ | assumption | exact mem_mid' | exact mem_mid (by assumption))) (by with_reducible rfl) (by (with_reducible repeat first | exact List.mem_cons_self | refine List.mem_cons_of_mem _ ?_ | assumption | exact mem_mid' | exact mem_mid (by assumption))) ?_
  refine SEs_cons ?_
  refine SE_Name ?_ (by decide +kernel)
  refine SN_loc rfl rfl (by (with_reducible repeat first | exact List.mem_cons_self | refine List.mem_cons_of_mem _ ?_ | assumption | exact mem_mid' | exact mem_mid (by assumption))) (by with_reducible rfl) (by (with_reducible repeat first | exact List.mem_cons_self | refine List.mem_cons_of_mem _ ?_ | assumption | exact mem_mid' | exact mem_mid (by assumption))) ?_
  refine SEs_cons ?_
  refine SE_Subscript ?_
  refine SE_ListF ?_
  refine SEs_cons ?_
  refine SE_bool ?_
  refine SEs_cons ?_
  refine SE_bool ?_
  refine SEs_cons ?_
  refine SE_none ?_
  refine SEs_cons ?_
  refine SE_strL (by (first | exact l03_0 | exact l03_1 | exact l03_2 | exact l03_3 | exact l03_4 | exact l03_5 | exact l03_6 | exact l03_7 | exact l03_8 | exact l03_9 | exact l03_10)) ?_
  refine SEs_nil ?_
  with_reducible refine ⟨_, by with_reducible ((first | exact AllDat.map _ | repeat first | exact AllDat.nil | with_reducible apply AllDat.cons)), by ((rw [sizeLine_eq]; simp)), ?_⟩
  refine SE_BinOp ?_
  refine SE_BinOp ?_
  refine SE_Name ?_ (by decide +kernel)
  refine SN_loc rfl rfl (by (with_reducible repeat first | exact List.mem_cons_self | refine List.mem_cons_of_mem _ ?_ | assumption | exact mem_mid' | exact mem_mid (by assumption))) (by with_reducible rfl) (by (with_reducible repeat first | exact List.mem_cons_self | refine List.mem_cons_of_mem _ ?_ | assumption | exact mem_mid' | exact mem_mid (by assumption))) ?_
  refine SE_int ?_
  with_reducible refine op_div (by decide) (by decide) ?_
  refine SE_int ?_
  with_reducible refine op_mod (by decide) ?_
  refine sub_lst (l := flL) (hfl _).1 (hfl _).2 (by rw [sizeLine_eq]; show 4 ≤ _; decide) (flL_get _) ?_
  refine SEs_nil ?_
  with_reducible refine ⟨_, by with_reducible ((first | exact AllDat.map _ | repeat first | exact AllDat.nil | with_reducible apply AllDat.cons)), by ((rw [sizeLine_eq]; simp)), ?_⟩
  refine SEs_nil ?_
  with_reducible refine ⟨kp_builtin, ?_⟩
  refine call_append (by (with_reducible repeat first | assumption | exact Upd.here | exact Upd.mid | apply Upd.there)) (by ((rw [sizeLine_eq]; (try simp only [List.length_append, List.length_cons, List.length_nil, List.length_map]); (first | decide | exact Nat.le_trans (by assumption) (by decide) | lia | omega)))) ?_
  refine SXs_nil ?_
  refine hQ _ ?_
  rw [show ((rs ++ [rowOf rs.length x]).map rD).map V.dat = (rs.map rD).map V.dat ++ [V.dat (rD (rowOf rs.length x))] by rw [List.map_append, List.map_append]; rfl]
  (with_reducible repeat first | exact Wk.refl | exact Wk.nil | refine Wk.keep ObW.refl ?_ | refine Wk.keep (ObW.ns (by (with_reducible repeat first | exact List.Sublist.refl _ | exact List.nil_sublist _ | apply List.Sublist.cons_cons | apply List.Sublist.cons))) ?_ | apply Wk.drop)
theorem rep_flat (n : Nat) (d : PyData) : (List.replicate n [d]).flatten = List.replicate n d := by
  induction n with
  | zero => rfl
  | succ n ih => rw [List.replicate_succ, List.flatten_cons, ih]; rfl
noncomputable abbrev clsL (L : Addr) : List (Str × Addr) := [(Str.ofString "sizes", L + 6), (Str.ofString "asked", L + 5), (Str.ofString "word", L + 4), (Str.ofString "number", L + 3), (Str.ofString "sides", L + 2), (Str.ofString "flag", L + 1)]

noncomputable abbrev locT (scr rws : V) (x src ga AS : Addr) (l r : PyData) (du : V) : List (Str × V) := [(Str.ofString "script", scr), (Str.ofString "rows", rws), (Str.ofString "sheet", .ref x), (Str.ofString "source", .ref src), (Str.ofString "flow", .ref ga), (Str.ofString "asks", .ref AS), (Str.ofString "left", .dat l), (Str.ofString "right", .dat r), (Str.ofString "due", du)]
/-- the for over the two sides -/
noncomputable def stS (tb : List Stmt) : Stmt := nthS (ifE (nthS (ifB (nthS (forB (nthS tb 9)) 1)) 2)) 1
theorem turn_side (hK : K03 W) {L it DS SZ : Addr} {tq : Str} {ts : Scope} {tc : Value} {tb : List Stmt} (hT : txtO (W.K.lookup 129) = some (tq, ts, tc, tb)) (hh : A.handled = none) {rr : List V} {scr rws du : V} {x src ga AS : Addr} {ld rd : PyData} {num : PyData} {c n : Nat} {l : List V} {c3 c4 : Option V} (hc : szN c = some n) (hl : l.length ≤ 10) {Q : Fl → Own → Prop}
    (hQ : ∀ o, Wk o ((it, Ob.it rr) :: (DS, Ob.list (l ++ [.lst (pcsD num c n ++ List.replicate (4 - n) padD)])) :: (L, Ob.ns (locT scr rws x src ga AS ld rd du)) :: (L + 4, Ob.cell (some (.str (S [c])))) :: (L + 3, Ob.cell (some (.dat num))) :: (L + 2, Ob.cell (some (.ref DS))) :: (L + 6, Ob.cell (some (.ref SZ))) :: (SZ, Ob.prop (DicP W.prog W.w szF)) :: own) → Q .next o) :
    SA W A (envX tq ts L 129 tc (clsL L)) (forT (stS tb)) (.dat (sideD num c)) ((it, Ob.it rr) :: (DS, Ob.list l) :: (L, Ob.ns (locT scr rws x src ga AS ld rd du)) :: (L + 4, Ob.cell c4) :: (L + 3, Ob.cell c3) :: (L + 2, Ob.cell (some (.ref DS))) :: (L + 6, Ob.cell (some (.ref SZ))) :: (SZ, Ob.prop (DicP W.prog W.w szF)) :: own) fun o1 => SXs W A (envX tq ts L 129 tc (clsL L)) (forB (stS tb)) o1 Q := by
  rw [K_of (a := 129) hK rfl] at hT
  change some (_, _, _, _) = _ at hT
  cases hT
  dsimp only [stS, lawS, fdB, fdS, clB, PySem.Challenge.pw_dm0066_03, nthS, forT, forI, forB, forP, ifT, ifB, ifE, ifP]
  dsimp only [locT] at hQ ⊢
  have hn := szN_le hc
  have hc' : szF [c] = some (n : Int) := by rw [szN_F, hc]; rfl
  refine SA_Tuple hh rfl ?_
  refine SAs_cons ?_
  refine SA_Name ?_
  refine SS_cell rfl rfl rfl (by (with_reducible repeat first | assumption | exact Upd.here | exact Upd.mid | apply Upd.there)) ?_
  refine SAs_cons ?_
  refine SA_Name ?_
  refine SS_cell rfl rfl rfl (by (with_reducible repeat first | assumption | exact Upd.here | exact Upd.mid | apply Upd.there)) ?_
  refine SAs_nil ?_
  refine SXs_cons ?_
  refine SX_AssignCompMap (α := Nat) hh rfl (by decide +kernel) rfl (by decide +kernel) rfl ?_
  refine SE_Call ?_
  refine SE_Name ?_ (by decide +kernel)
  refine SN_builtin rfl rfl rfl rfl (nsIn_of (by assumption) rfl) rfl (by decide +kernel) ?_
  with_reducible refine ⟨_, rfl, ?_⟩
  refine SEs_cons ?_
  refine SE_Subscript ?_
  refine SE_Name ?_ (by decide +kernel)
  refine SN_cell rfl rfl rfl (by (with_reducible repeat first | exact List.mem_cons_self | refine List.mem_cons_of_mem _ ?_ | assumption | exact mem_mid' | exact mem_mid (by assumption))) ?_
  refine SE_Name ?_ (by decide +kernel)
  refine SN_cell rfl rfl rfl (by (with_reducible repeat first | exact List.mem_cons_self | refine List.mem_cons_of_mem _ ?_ | assumption | exact mem_mid' | exact mem_mid (by assumption))) ?_
  refine sub_dic (n := (n : Int)) (by (with_reducible repeat first | exact List.mem_cons_self | refine List.mem_cons_of_mem _ ?_ | assumption | exact mem_mid' | exact mem_mid (by assumption))) hc' ?_
  refine SEs_nil ?_
  with_reducible refine ⟨kp_type, ?_⟩
  refine call_range1 ?_
  obtain ⟨hrs, hsm⟩ := small_rng (n := n) (by (first | decide | exact Nat.le_trans (by assumption) (by decide) | lia | omega))
  refine it_range (n := n) hsm hrs fun it' => ⟨it', _, _, rfl, rfl, fun j : Nat => V.int (0 + (j : Int) * 1), fun _ => true, fun k => .tuple [num, .str (S ([c] ++ decT ((k : Nat) : Int)))], List.range n, rfl, by rw [sizeLine_eq, List.length_range]; (first | decide | exact Nat.le_trans (by assumption) (by decide) | lia | omega), ?_, ?_⟩
  · intro C D' it3 k rr ys hk
    have hkn := List.mem_range.mp hk
    rw [show (fun j : Nat => V.int (0 + (j : Int) * 1)) k = V.int ((k : Nat) : Int) by show V.int _ = _; rw [show (0 : Int) + (k : Int) * 1 = ((k : Nat) : Int) by (first | decide | exact Nat.le_trans (by assumption) (by decide) | lia | omega)]]
    clear hk hrs hsm hc hc'
    refine SA_Name ?_
    refine SS_loc rfl rfl (by (with_reducible repeat first | exact List.mem_cons_self | refine List.mem_cons_of_mem _ ?_ | assumption | exact mem_mid' | exact mem_mid (by assumption))) (by with_reducible rfl) (by (with_reducible repeat first | exact Put.here | exact Put.new | apply Put.there)) (by ((first | (dsimp only [List.map_cons, List.map_nil]; decide +kernel) | (simp only [List.map_cons, List.map_nil]; decide +kernel)))) (by (with_reducible repeat first | assumption | exact Upd.here | exact Upd.mid | apply Upd.there)) ?_
    refine STs_nil ?_
    refine ⟨rfl, ?_⟩
    rw [if_pos rfl]
    refine SE_TupleF ?_
    refine SEs_cons ?_
    refine SE_Name ?_ (by decide +kernel)
    refine SN_cell rfl rfl rfl (by (with_reducible repeat first | exact List.mem_cons_self | refine List.mem_cons_of_mem _ ?_ | assumption | exact mem_mid' | exact mem_mid (by assumption))) ?_
    refine SEs_cons ?_
    refine SE_BinOp ?_
    refine SE_Name ?_ (by decide +kernel)
    refine SN_cell rfl rfl rfl (by (with_reducible repeat first | exact List.mem_cons_self | refine List.mem_cons_of_mem _ ?_ | assumption | exact mem_mid' | exact mem_mid (by assumption))) ?_
    refine SE_Call ?_
    refine SE_Name ?_ (by decide +kernel)
    refine SN_builtin rfl rfl rfl rfl (nsIn_of (by assumption) rfl) rfl (by decide +kernel) ?_
    with_reducible refine ⟨_, rfl, ?_⟩
    refine SEs_cons ?_
    refine SE_Name ?_ (by decide +kernel)
    refine SN_loc rfl rfl (by (with_reducible repeat first | exact List.mem_cons_self | refine List.mem_cons_of_mem _ ?_ | assumption | exact mem_mid' | exact mem_mid (by assumption))) (by with_reducible rfl) (by (with_reducible repeat first | exact List.mem_cons_self | refine List.mem_cons_of_mem _ ?_ | assumption | exact mem_mid' | exact mem_mid (by assumption))) ?_
    refine SEs_nil ?_
    with_reducible refine ⟨kp_type, ?_⟩
    refine call_strI (dec_small k (by (first | decide | exact Nat.le_trans (by assumption) (by decide) | lia | omega))).1 (by (first | decide | exact Nat.le_trans (by assumption) (by decide) | lia | omega)) ?_
    refine op_catS (by have := (dec_small k (by (first | decide | exact Nat.le_trans (by assumption) (by decide) | lia | omega))).2; rw [sizeLine_eq]; (first | dsimp only [List.length_cons, List.length_nil] | simp only [List.length_cons, List.length_nil]); (first | decide | exact Nat.le_trans (by assumption) (by decide) | lia | omega)) ?_
    refine SEs_nil ?_
    with_reducible refine ⟨_, by with_reducible ((first | exact AllDat.map _ | repeat first | exact AllDat.nil | with_reducible apply AllDat.cons)), by ((rw [sizeLine_eq]; simp)), ?_⟩
    exact ⟨rfl, by (with_reducible repeat first | exact Wk.refl | exact Wk.nil | refine Wk.keep ObW.refl ?_ | refine Wk.keep (ObW.ns (by (with_reducible repeat first | exact List.Sublist.refl _ | exact List.nil_sublist _ | apply List.Sublist.cons_cons | apply List.Sublist.cons))) ?_ | apply Wk.drop)⟩
  rw [show (List.range n).filter (fun _ => true) = List.range n from List.filter_eq_self.mpr fun _ _ => rfl]
  intro C
  clear hrs hsm hc hc'
  refine SS_loc (L := L) rfl rfl (by (with_reducible repeat first | exact List.mem_cons_self | refine List.mem_cons_of_mem _ ?_ | assumption | exact mem_mid' | exact mem_mid (by assumption))) rfl (by (with_reducible repeat first | exact Put.here | exact Put.new | apply Put.there)) (by ((first | (dsimp only [List.map_cons, List.map_nil]; decide +kernel) | (simp only [List.map_cons, List.map_nil]; decide +kernel)))) (by (with_reducible repeat first | assumption | exact Upd.here | exact Upd.mid | apply Upd.there)) ?_
  refine ⟨_, by (with_reducible repeat first | exact Wk.refl | exact Wk.nil | refine Wk.keep ObW.refl ?_ | refine Wk.keep (ObW.ns (by (with_reducible repeat first | exact List.Sublist.refl _ | exact List.nil_sublist _ | apply List.Sublist.cons_cons | apply List.Sublist.cons))) ?_ | apply Wk.drop), ?_⟩
  refine SXs_cons ?_
  refine SX_Expr ?_
  refine SE_Meth ?_
  refine SE_Name ?_ (by decide +kernel)
  refine SN_cell rfl rfl rfl (by (with_reducible repeat first | exact List.mem_cons_self | refine List.mem_cons_of_mem _ ?_ | assumption | exact mem_mid' | exact mem_mid (by assumption))) ?_
  refine mth_append (by (with_reducible repeat first | exact List.mem_cons_self | refine List.mem_cons_of_mem _ ?_ | assumption | exact mem_mid' | exact mem_mid (by assumption))) ?_
  refine SEs_cons ?_
  refine SE_BinOp ?_
  refine SE_Name ?_ (by decide +kernel)
  refine SN_loc rfl rfl (by (with_reducible repeat first | exact List.mem_cons_self | refine List.mem_cons_of_mem _ ?_ | assumption | exact mem_mid' | exact mem_mid (by assumption))) (by with_reducible rfl) (by (with_reducible repeat first | exact List.mem_cons_self | refine List.mem_cons_of_mem _ ?_ | assumption | exact mem_mid' | exact mem_mid (by assumption))) ?_
  refine SE_BinOp ?_
  refine SE_ListF ?_
  refine SEs_cons ?_
  refine SE_TupleF ?_
  refine SEs_cons ?_
  refine SE_strL (by (first | exact l03_0 | exact l03_1 | exact l03_2 | exact l03_3 | exact l03_4 | exact l03_5 | exact l03_6 | exact l03_7 | exact l03_8 | exact l03_9 | exact l03_10)) ?_
  refine SEs_cons ?_
  refine SE_strL (by (first | exact l03_0 | exact l03_1 | exact l03_2 | exact l03_3 | exact l03_4 | exact l03_5 | exact l03_6 | exact l03_7 | exact l03_8 | exact l03_9 | exact l03_10)) ?_
  refine SEs_nil ?_
  with_reducible refine ⟨_, by with_reducible ((first | exact AllDat.map _ | repeat first | exact AllDat.nil | with_reducible apply AllDat.cons)), by ((rw [sizeLine_eq]; simp)), ?_⟩
  refine SEs_nil ?_
  with_reducible refine ⟨_, by with_reducible ((first | exact AllDat.map _ | repeat first | exact AllDat.nil | with_reducible apply AllDat.cons)), by ((rw [sizeLine_eq]; simp)), ?_⟩
  refine SE_BinOp ?_
  refine SE_int ?_
  refine SE_Call ?_
  refine SE_Name ?_ (by decide +kernel)
  refine SN_builtin rfl rfl rfl rfl (nsIn_of (by assumption) rfl) rfl (by decide +kernel) ?_
  with_reducible refine ⟨_, rfl, ?_⟩
  refine SEs_cons ?_
  refine SE_Name ?_ (by decide +kernel)
  refine SN_loc rfl rfl (by (with_reducible repeat first | exact List.mem_cons_self | refine List.mem_cons_of_mem _ ?_ | assumption | exact mem_mid' | exact mem_mid (by assumption))) (by with_reducible rfl) (by (with_reducible repeat first | exact List.mem_cons_self | refine List.mem_cons_of_mem _ ?_ | assumption | exact mem_mid' | exact mem_mid (by assumption))) ?_
  refine SEs_nil ?_
  with_reducible refine ⟨kp_builtin, ?_⟩
  refine call_len_lst (by rw [sizeLine_eq, List.length_map, List.length_range]; (first | decide | exact Nat.le_trans (by assumption) (by decide) | lia | omega)) ?_
  rw [show (((List.range n).map fun k => PyData.tuple [num, PyData.str (S ([c] ++ decT ((k : Nat) : Int)))]).length : Int) = (n : Int) by rw [List.length_map, List.length_range]]
  with_reducible refine op_sub ?_
  refine op_mulL (by (first | decide | exact Nat.le_trans (by assumption) (by decide) | lia | omega)) (by (first | decide | exact Nat.le_trans (by assumption) (by decide) | lia | omega)) (by (first | dsimp only [List.length_cons, List.length_nil] | simp only [List.length_cons, List.length_nil]); (first | decide | exact Nat.le_trans (by assumption) (by decide) | lia | omega)) ?_
  rw [rep_flat, show ((4 : Int) - (n : Int)).toNat = 4 - n by (first | decide | exact Nat.le_trans (by assumption) (by decide) | lia | omega)]
  refine op_addL (by rw [sizeLine_eq]; simp only [List.length_map, List.length_range, List.length_replicate]; (first | decide | exact Nat.le_trans (by assumption) (by decide) | lia | omega)) ?_
  refine SEs_nil ?_
  with_reducible refine ⟨kp_builtin, ?_⟩
  refine call_append (by (with_reducible repeat first | assumption | exact Upd.here | exact Upd.mid | apply Upd.there)) (by ((rw [sizeLine_eq]; (try simp only [List.length_append, List.length_cons, List.length_nil, List.length_map]); (first | decide | exact Nat.le_trans (by assumption) (by decide) | lia | omega)))) ?_
  refine SXs_nil ?_
  refine hQ _ ?_
  (with_reducible repeat first | exact Wk.refl | exact Wk.nil | refine Wk.keep ObW.refl ?_ | refine Wk.keep (ObW.ns (by (with_reducible repeat first | exact List.Sublist.refl _ | exact List.nil_sublist _ | apply List.Sublist.cons_cons | apply List.Sublist.cons))) ?_ | apply Wk.drop)
theorem SG.perm3 {α β : Type} {R : Heap → β → α → Prop} {t : Sem α} {own' : Own} {Q : β → Own → Prop} (k : own.Perm own') (h : SG W A R t own' Q) : SG W A R t own Q := fun fz s H ht => h fz s (H.perm k) ht


theorem sub_side0 {o i : Expr} {n : PyData} {c : Nat} {Q : V → Own → Prop} (h : Q (.dat n) own) (hs : ∀ v u, subscripted i false v u = operate [v, u] (getItem v u) := by intro _ _; with_unfolding_all rfl) : S2 W A RV (subscriptTail o i) (.dat (sideD n c)) (.int 0) own Q :=
  sub_tup (by simp) (by simp) (by rw [sizeLine_eq]; simp) rfl h hs
theorem sub_side1 {o i : Expr} {n : PyData} {c : Nat} {Q : V → Own → Prop} (h : Q (.str (S [c])) own) (hs : ∀ v u, subscripted i false v u = operate [v, u] (getItem v u) := by intro _ _; with_unfolding_all rfl) : S2 W A RV (subscriptTail o i) (.dat (sideD n c)) (.int 1) own Q :=
  sub_tup (by simp) (by simp) (by rw [sizeLine_eq]; simp) rfl h hs

theorem szN_101 {c : Nat} (h1 : 97 ≤ c) (h2 : c ≤ 101) : szN c = none ↔ c = 101 := by
  have h : c = 97 ∨ c = 98 ∨ c = 99 ∨ c = 100 ∨ c = 101 := by (first | decide | exact Nat.le_trans (by assumption) (by decide) | lia | omega)
  rcases h with rfl | rfl | rfl | rfl | rfl <;> decide
theorem SG.wpPost {α β : Type} {R : Heap → β → α → Prop} {t : Sem α} {Q : β → Own → Prop} (h : SG W A R t own (fun b o => ∃ o2 o1, Wk o o2 ∧ o2.Perm o1 ∧ Q b o1)) : SG W A R t own Q := fun fz s H ht => by
  refine wpAny_mono (h fz s H ht) (fun a s' x => ?_) fun _ _ x => x
  obtain ⟨fz', b, o, k, H', r, o2, o1, wk, hp, q⟩ := x
  exact ⟨fz', b, o1, k, (wk.hold H').perm hp, r, q⟩
theorem S1.wk {α β : Type} {R : Heap → β → α → Prop} {f : Value → Sem α} {a : V} {own' : Own} {Q : β → Own → Prop} (k : Wk own own') (h : S1 W A R f a own' Q) : S1 W A R f a own Q := fun fz s v H ht r => h fz s v (k.hold H) ht r
/-- what the law awaits for a row -/
noncomputable def dueL (r : Rw) : List PyData := match outR r with
  | some l => l
  | none => [.str (S [114, 101, 102, 117, 115, 101, 100])]
noncomputable abbrev locS (scr rws : V) (x src ga AS : Addr) (l r : PyData) : List (Str × V) := [(Str.ofString "script", scr), (Str.ofString "rows", rws), (Str.ofString "sheet", .ref x), (Str.ofString "source", .ref src), (Str.ofString "flow", .ref ga), (Str.ofString "asks", .ref AS), (Str.ofString "left", .dat l), (Str.ofString "right", .dat r)]
set_option maxHeartbeats 8000000 in
theorem turn_due (hK : K03 W) {L it2 SZ : Addr} {tq : Str} {ts : Scope} {tc : Value} {tb : List Stmt} (hT : txtO (W.K.lookup 129) = some (tq, ts, tc, tb)) (hh : A.handled = none) {rr : List V} {scr rws : V} {x src ga AS : Addr} {r : Rw} {asks : List PyData} {c2 c3 c4 : Option V} (hask : asks.length ≤ 300)
    (hca : 97 ≤ r.ca ∧ r.ca ≤ 101) (hcb : 97 ≤ r.cb ∧ r.cb ≤ 101) {Q : Fl → Own → Prop}
    (hQ : ∀ o c2 c3 c4, Wk o ((it2, Ob.it rr) :: (L, Ob.ns (locT scr rws x src ga AS (sideD r.na r.ca) (sideD r.nb r.cb) (.lst (dueL r)))) :: (L + 4, Ob.cell c4) :: (L + 3, Ob.cell c3) :: (L + 2, Ob.cell c2) :: (L + 1, Ob.cell (some (.dat r.flag))) :: (AS, Ob.list ((asks ++ asksR r).map V.dat)) :: (L + 6, Ob.cell (some (.ref SZ))) :: (SZ, Ob.prop (DicP W.prog W.w szF)) :: own) → Q .next o) :
    SXs W A (envX tq ts L 129 tc (clsL L)) ((forB (nthS tb 9)).take 2) ((it2, Ob.it rr) :: (L, Ob.ns (locS scr rws x src ga AS (sideD r.na r.ca) (sideD r.nb r.cb))) :: (L + 4, Ob.cell c4) :: (L + 3, Ob.cell c3) :: (L + 2, Ob.cell c2) :: (L + 1, Ob.cell (some (.dat r.flag))) :: (AS, Ob.list (asks.map V.dat)) :: (L + 6, Ob.cell (some (.ref SZ))) :: (SZ, Ob.prop (DicP W.prog W.w szF)) :: own) Q := by
  have hT0 := hT
  rw [K_of (a := 129) hK rfl] at hT
  change some (_, _, _, _) = _ at hT
  cases hT
  dsimp only [lawS, fdB, fdS, clB, PySem.Challenge.pw_dm0066_03, nthS, forT, forI, forB, forP, ifT, ifB, ifE, ifP, List.take]
  dsimp only [locT, locS] at hQ ⊢
  refine SXs_cons ?_
  refine SX_Assign ?_
  refine SE_ListF ?_
  refine SEs_cons ?_
  refine SE_TupleF ?_
  refine SEs_cons ?_
  refine SE_Name ?_ (by decide +kernel)
  refine SN_loc rfl rfl (by (with_reducible repeat first | exact List.mem_cons_self | refine List.mem_cons_of_mem _ ?_ | assumption | exact mem_mid' | exact mem_mid (by assumption))) (by with_reducible rfl) (by (with_reducible repeat first | exact List.mem_cons_self | refine List.mem_cons_of_mem _ ?_ | assumption | exact mem_mid' | exact mem_mid (by assumption))) ?_
  refine SEs_cons ?_
  refine SE_Name ?_ (by decide +kernel)
  refine SN_loc rfl rfl (by (with_reducible repeat first | exact List.mem_cons_self | refine List.mem_cons_of_mem _ ?_ | assumption | exact mem_mid' | exact mem_mid (by assumption))) (by with_reducible rfl) (by (with_reducible repeat first | exact List.mem_cons_self | refine List.mem_cons_of_mem _ ?_ | assumption | exact mem_mid' | exact mem_mid (by assumption))) ?_
  refine SEs_cons ?_
  refine SE_Name ?_ (by decide +kernel)
  refine SN_cell rfl rfl rfl (by (with_reducible repeat first | exact List.mem_cons_self | refine List.mem_cons_of_mem _ ?_ | assumption | exact mem_mid' | exact mem_mid (by assumption))) ?_
  refine SEs_nil ?_
  with_reducible refine ⟨_, by with_reducible ((first | exact AllDat.map _ | repeat first | exact AllDat.nil | with_reducible apply AllDat.cons)), by ((rw [sizeLine_eq]; simp)), ?_⟩
  refine SEs_nil ?_
  with_reducible refine ⟨_, by with_reducible ((first | exact AllDat.map _ | repeat first | exact AllDat.nil | with_reducible apply AllDat.cons)), by ((rw [sizeLine_eq]; simp)), ?_⟩
  refine SS_loc rfl rfl (by (with_reducible repeat first | exact List.mem_cons_self | refine List.mem_cons_of_mem _ ?_ | assumption | exact mem_mid' | exact mem_mid (by assumption))) (by with_reducible rfl) (by (with_reducible repeat first | exact Put.here | exact Put.new | apply Put.there)) (by ((first | (dsimp only [List.map_cons, List.map_nil]; decide +kernel) | (simp only [List.map_cons, List.map_nil]; decide +kernel)))) (by (with_reducible repeat first | assumption | exact Upd.here | exact Upd.mid | apply Upd.there)) ?_
  refine SXs_cons ?_
  refine SX_If ?_
  refine ST_Compare ?_
  refine SE_Name ?_ (by decide +kernel)
  refine SN_cell rfl rfl rfl (by (with_reducible repeat first | exact List.mem_cons_self | refine List.mem_cons_of_mem _ ?_ | assumption | exact mem_mid' | exact mem_mid (by assumption))) ?_
  refine SE_none ?_
  with_reducible refine cmp_isNotNone ?_
  with_reducible refine tr_bool ?_
  by_cases hfl : isNoneD r.flag = true
  · rw [hfl]
    with_reducible refine ite_nt ?_
    refine SXs_nil ?_
    refine SXs_nil ?_
    have e1 : dueL r = [rD r] := by unfold dueL; rw [out_none hfl]
    rw [e1, asks_none hfl, List.append_nil] at hQ
    exact hQ _ c2 c3 c4 (by (with_reducible repeat first | exact Wk.refl | exact Wk.nil | refine Wk.keep ObW.refl ?_ | refine Wk.keep (ObW.ns (by (with_reducible repeat first | exact List.Sublist.refl _ | exact List.nil_sublist _ | apply List.Sublist.cons_cons | apply List.Sublist.cons))) ?_ | apply Wk.drop))
  · rw [Bool.not_eq_true] at hfl
    rw [hfl]
    with_reducible refine ite_nf ?_
    refine SXs_cons ?_
    refine SX_Expr ?_
    refine SE_Meth ?_
    refine SE_Name ?_ (by decide +kernel)
    refine SN_loc rfl rfl (by (with_reducible repeat first | exact List.mem_cons_self | refine List.mem_cons_of_mem _ ?_ | assumption | exact mem_mid' | exact mem_mid (by assumption))) (by with_reducible rfl) (by (with_reducible repeat first | exact List.mem_cons_self | refine List.mem_cons_of_mem _ ?_ | assumption | exact mem_mid' | exact mem_mid (by assumption))) ?_
    refine mth_append (by (with_reducible repeat first | exact List.mem_cons_self | refine List.mem_cons_of_mem _ ?_ | assumption | exact mem_mid' | exact mem_mid (by assumption))) ?_
    refine SEs_cons ?_
    refine SE_TupleF ?_
    refine SEs_cons ?_
    refine SE_Subscript ?_
    refine SE_Name ?_ (by decide +kernel)
    refine SN_loc rfl rfl (by (with_reducible repeat first | exact List.mem_cons_self | refine List.mem_cons_of_mem _ ?_ | assumption | exact mem_mid' | exact mem_mid (by assumption))) (by with_reducible rfl) (by (with_reducible repeat first | exact List.mem_cons_self | refine List.mem_cons_of_mem _ ?_ | assumption | exact mem_mid' | exact mem_mid (by assumption))) ?_
    refine SE_int ?_
    with_reducible refine sub_side0 ?_
    refine SEs_cons ?_
    refine SE_Subscript ?_
    refine SE_Name ?_ (by decide +kernel)
    refine SN_loc rfl rfl (by (with_reducible repeat first | exact List.mem_cons_self | refine List.mem_cons_of_mem _ ?_ | assumption | exact mem_mid' | exact mem_mid (by assumption))) (by with_reducible rfl) (by (with_reducible repeat first | exact List.mem_cons_self | refine List.mem_cons_of_mem _ ?_ | assumption | exact mem_mid' | exact mem_mid (by assumption))) ?_
    refine SE_int ?_
    with_reducible refine sub_side1 ?_
    refine SEs_cons ?_
    refine SE_ListF ?_
    refine SEs_nil ?_
    with_reducible refine ⟨_, by with_reducible ((first | exact AllDat.map _ | repeat first | exact AllDat.nil | with_reducible apply AllDat.cons)), by ((rw [sizeLine_eq]; simp)), ?_⟩
    refine SEs_nil ?_
    with_reducible refine ⟨_, by with_reducible ((first | exact AllDat.map _ | repeat first | exact AllDat.nil | with_reducible apply AllDat.cons)), by ((rw [sizeLine_eq]; simp)), ?_⟩
    refine SEs_nil ?_
    with_reducible refine ⟨kp_builtin, ?_⟩
    refine call_append (by (with_reducible repeat first | assumption | exact Upd.here | exact Upd.mid | apply Upd.there)) (by ((rw [sizeLine_eq]; (try simp only [List.length_append, List.length_cons, List.length_nil, List.length_map]); (first | decide | exact Nat.le_trans (by assumption) (by decide) | lia | omega)))) ?_
    refine SXs_cons ?_
    refine SX_If ?_
    refine ST_Compare ?_
    refine SE_Subscript ?_
    refine SE_Name ?_ (by decide +kernel)
    refine SN_loc rfl rfl (by (with_reducible repeat first | exact List.mem_cons_self | refine List.mem_cons_of_mem _ ?_ | assumption | exact mem_mid' | exact mem_mid (by assumption))) (by with_reducible rfl) (by (with_reducible repeat first | exact List.mem_cons_self | refine List.mem_cons_of_mem _ ?_ | assumption | exact mem_mid' | exact mem_mid (by assumption))) ?_
    refine SE_int ?_
    with_reducible refine sub_side1 ?_
    refine SE_strL (by (first | exact l03_0 | exact l03_1 | exact l03_2 | exact l03_3 | exact l03_4 | exact l03_5 | exact l03_6 | exact l03_7 | exact l03_8 | exact l03_9 | exact l03_10)) ?_
    with_reducible refine cmp_neSS ?_
    with_reducible refine tr_bool ?_
    refine ite_dec (fun h1 => ?_) (fun h1 => ?_)
    · have h1' : r.ca ≠ 101 := fun e => h1 (by rw [e])
      obtain ⟨n, hn⟩ : ∃ n, szN r.ca = some n := by
        cases e : szN r.ca with
        | none => exact absurd ((szN_101 hca.1 hca.2).mp e) h1'
        | some n => exact ⟨n, rfl⟩
      rw [asks_two hfl hn] at hQ
      refine SXs_cons ?_
      refine SX_Expr ?_
      refine SE_Meth ?_
      refine SE_Name ?_ (by decide +kernel)
      refine SN_loc rfl rfl (by (with_reducible repeat first | exact List.mem_cons_self | refine List.mem_cons_of_mem _ ?_ | assumption | exact mem_mid' | exact mem_mid (by assumption))) (by with_reducible rfl) (by (with_reducible repeat first | exact List.mem_cons_self | refine List.mem_cons_of_mem _ ?_ | assumption | exact mem_mid' | exact mem_mid (by assumption))) ?_
      refine mth_append (by (with_reducible repeat first | exact List.mem_cons_self | refine List.mem_cons_of_mem _ ?_ | assumption | exact mem_mid' | exact mem_mid (by assumption))) ?_
      refine SEs_cons ?_
      refine SE_TupleF ?_
      refine SEs_cons ?_
      refine SE_Subscript ?_
      refine SE_Name ?_ (by decide +kernel)
      refine SN_loc rfl rfl (by (with_reducible repeat first | exact List.mem_cons_self | refine List.mem_cons_of_mem _ ?_ | assumption | exact mem_mid' | exact mem_mid (by assumption))) (by with_reducible rfl) (by (with_reducible repeat first | exact List.mem_cons_self | refine List.mem_cons_of_mem _ ?_ | assumption | exact mem_mid' | exact mem_mid (by assumption))) ?_
      refine SE_int ?_
      with_reducible refine sub_side0 ?_
      refine SEs_cons ?_
      refine SE_Subscript ?_
      refine SE_Name ?_ (by decide +kernel)
      refine SN_loc rfl rfl (by (with_reducible repeat first | exact List.mem_cons_self | refine List.mem_cons_of_mem _ ?_ | assumption | exact mem_mid' | exact mem_mid (by assumption))) (by with_reducible rfl) (by (with_reducible repeat first | exact List.mem_cons_self | refine List.mem_cons_of_mem _ ?_ | assumption | exact mem_mid' | exact mem_mid (by assumption))) ?_
      refine SE_int ?_
      with_reducible refine sub_side1 ?_
      refine SEs_cons ?_
      refine SE_ListF ?_
      refine SEs_nil ?_
      with_reducible refine ⟨_, by with_reducible ((first | exact AllDat.map _ | repeat first | exact AllDat.nil | with_reducible apply AllDat.cons)), by ((rw [sizeLine_eq]; simp)), ?_⟩
      refine SEs_nil ?_
      with_reducible refine ⟨_, by with_reducible ((first | exact AllDat.map _ | repeat first | exact AllDat.nil | with_reducible apply AllDat.cons)), by ((rw [sizeLine_eq]; simp)), ?_⟩
      refine SEs_nil ?_
      with_reducible refine ⟨kp_builtin, ?_⟩
      refine call_append (by (with_reducible repeat first | assumption | exact Upd.here | exact Upd.mid | apply Upd.there)) (by ((rw [sizeLine_eq]; (try simp only [List.length_append, List.length_cons, List.length_nil, List.length_map]); (first | decide | exact Nat.le_trans (by assumption) (by decide) | lia | omega)))) ?_
      refine SXs_nil ?_
      refine SXs_cons ?_
      refine SX_If ?_
      refine ST_Compare ?_
      refine SE_strL (by (first | exact l03_0 | exact l03_1 | exact l03_2 | exact l03_3 | exact l03_4 | exact l03_5 | exact l03_6 | exact l03_7 | exact l03_8 | exact l03_9 | exact l03_10)) ?_
      refine SE_ListF ?_
      refine SEs_cons ?_
      refine SE_Subscript ?_
      refine SE_Name ?_ (by decide +kernel)
      refine SN_loc rfl rfl (by (with_reducible repeat first | exact List.mem_cons_self | refine List.mem_cons_of_mem _ ?_ | assumption | exact mem_mid' | exact mem_mid (by assumption))) (by with_reducible rfl) (by (with_reducible repeat first | exact List.mem_cons_self | refine List.mem_cons_of_mem _ ?_ | assumption | exact mem_mid' | exact mem_mid (by assumption))) ?_
      refine SE_int ?_
      with_reducible refine sub_side1 ?_
      refine SEs_cons ?_
      refine SE_Subscript ?_
      refine SE_Name ?_ (by decide +kernel)
      refine SN_loc rfl rfl (by (with_reducible repeat first | exact List.mem_cons_self | refine List.mem_cons_of_mem _ ?_ | assumption | exact mem_mid' | exact mem_mid (by assumption))) (by with_reducible rfl) (by (with_reducible repeat first | exact List.mem_cons_self | refine List.mem_cons_of_mem _ ?_ | assumption | exact mem_mid' | exact mem_mid (by assumption))) ?_
      refine SE_int ?_
      with_reducible refine sub_side1 ?_
      refine SEs_nil ?_
      with_reducible refine ⟨_, by with_reducible ((first | exact AllDat.map _ | repeat first | exact AllDat.nil | with_reducible apply AllDat.cons)), by ((rw [sizeLine_eq]; simp)), ?_⟩
      refine cmp_inSL (ls := [[r.ca], [r.cb]]) ?_
      with_reducible refine tr_bool ?_
      refine ite_dec (fun h2 => ?_) (fun h2 => ?_)
      · have h2' : r.cb = 101 := by
          rcases List.mem_cons.mp h2 with e | h2
          · exact absurd (List.cons.inj e).1.symm h1'
          · rcases List.mem_cons.mp h2 with e | h2
            · exact (List.cons.inj e).1.symm
            · cases h2
        refine SXs_cons ?_
        refine SX_Assign ?_
        refine SE_ListF ?_
        refine SEs_cons ?_
        refine SE_strL (by (first | exact l03_0 | exact l03_1 | exact l03_2 | exact l03_3 | exact l03_4 | exact l03_5 | exact l03_6 | exact l03_7 | exact l03_8 | exact l03_9 | exact l03_10)) ?_
        refine SEs_nil ?_
        with_reducible refine ⟨_, by with_reducible ((first | exact AllDat.map _ | repeat first | exact AllDat.nil | with_reducible apply AllDat.cons)), by ((rw [sizeLine_eq]; simp)), ?_⟩
        refine SS_loc rfl rfl (by (with_reducible repeat first | exact List.mem_cons_self | refine List.mem_cons_of_mem _ ?_ | assumption | exact mem_mid' | exact mem_mid (by assumption))) (by with_reducible rfl) (by (with_reducible repeat first | exact Put.here | exact Put.new | apply Put.there)) (by ((first | (dsimp only [List.map_cons, List.map_nil]; decide +kernel) | (simp only [List.map_cons, List.map_nil]; decide +kernel)))) (by (with_reducible repeat first | assumption | exact Upd.here | exact Upd.mid | apply Upd.there)) ?_
        refine SXs_nil ?_
        refine SXs_nil ?_
        refine SXs_nil ?_
        have e1 : dueL r = [.str (S [114, 101, 102, 117, 115, 101, 100])] := by unfold dueL; rw [out_x2 hfl hn ((szN_101 hcb.1 hcb.2).mpr h2')]
        rw [e1] at hQ
        refine hQ _ c2 c3 c4 ?_
        rw [← List.append_assoc, List.map_append, List.map_append]
        (with_reducible repeat first | exact Wk.refl | exact Wk.nil | refine Wk.keep ObW.refl ?_ | refine Wk.keep (ObW.ns (by (with_reducible repeat first | exact List.Sublist.refl _ | exact List.nil_sublist _ | apply List.Sublist.cons_cons | apply List.Sublist.cons))) ?_ | apply Wk.drop)
      · have h2' : r.cb ≠ 101 := fun e => h2 (by rw [e]; simp)
        obtain ⟨m, hm⟩ : ∃ m, szN r.cb = some m := by
          cases e : szN r.cb with
          | none => exact absurd ((szN_101 hcb.1 hcb.2).mp e) h2'
          | some m => exact ⟨m, rfl⟩
        have e1 : dueL r = zipT r.flag (pcsD r.na r.ca n) (pcsD r.nb r.cb m) := by unfold dueL; rw [out_some hfl hn hm]
        rw [e1] at hQ
        have hn4 := szN_le hn
        have hm4 := szN_le hm
        have hn' : szF [r.ca] = some (n : Int) := by rw [szN_F, hn]; rfl
        have hm' : szF [r.cb] = some (m : Int) := by rw [szN_F, hm]; rfl
        clear h1 h2 h1' h2' e1 hca hcb
        refine SXs_cons ?_
        refine SX_Assign ?_
        refine SE_List (by ((rw [sizeLine_eq]; simp))) ?_
        refine SEs_nil ?_
        refine ⟨by ((rw [sizeLine_eq]; simp)), fun DS => ?_⟩
        refine SS_cell rfl rfl rfl (by (with_reducible repeat first | assumption | exact Upd.here | exact Upd.mid | apply Upd.there)) ?_
        refine SXs_cons ?_
        obtain ⟨pA, hpA⟩ : ∃ pA, pA = pcsD r.na r.ca n ++ List.replicate (4 - n) padD := ⟨_, rfl⟩
        obtain ⟨pB, hpB⟩ : ∃ pB, pB = pcsD r.nb r.cb m ++ List.replicate (4 - m) padD := ⟨_, rfl⟩
        refine SG.perm3 (own' := (DS, Ob.list ([] : List V)) :: (L, Ob.ns (locT scr rws x src ga AS (sideD r.na r.ca) (sideD r.nb r.cb) (.lst [PyData.tuple [sideD r.na r.ca, sideD r.nb r.cb, r.flag]]))) :: (L + 4, Ob.cell c4) :: (L + 3, Ob.cell c3) :: (L + 2, Ob.cell (some (.ref DS))) :: (L + 6, Ob.cell (some (.ref SZ))) :: (SZ, Ob.prop (DicP W.prog W.w szF)) :: (it2, Ob.it rr) :: (L + 1, Ob.cell (some (.dat r.flag))) :: (AS, Ob.list (asks.map V.dat ++ [V.dat (entD r.na r.ca)] ++ [V.dat (entD r.nb r.cb)])) :: own) (by (with_reducible repeat first | exact List.Perm.refl _ | refine (Take.perm (by (with_reducible repeat first | exact Take.here | apply Take.there))).trans (List.Perm.cons _ ?_))) ?_
        refine SG.wpPost (SX_For hh ?_)
        refine SE_ListF ?_
        refine SEs_cons ?_
        refine SE_Name ?_ (by decide +kernel)
        refine SN_loc rfl rfl (by (with_reducible repeat first | exact List.mem_cons_self | refine List.mem_cons_of_mem _ ?_ | assumption | exact mem_mid' | exact mem_mid (by assumption))) (by with_reducible rfl) (by (with_reducible repeat first | exact List.mem_cons_self | refine List.mem_cons_of_mem _ ?_ | assumption | exact mem_mid' | exact mem_mid (by assumption))) ?_
        refine SEs_cons ?_
        refine SE_Name ?_ (by decide +kernel)
        refine SN_loc rfl rfl (by (with_reducible repeat first | exact List.mem_cons_self | refine List.mem_cons_of_mem _ ?_ | assumption | exact mem_mid' | exact mem_mid (by assumption))) (by with_reducible rfl) (by (with_reducible repeat first | exact List.mem_cons_self | refine List.mem_cons_of_mem _ ?_ | assumption | exact mem_mid' | exact mem_mid (by assumption))) ?_
        refine SEs_nil ?_
        with_reducible refine ⟨_, by with_reducible ((first | exact AllDat.map _ | repeat first | exact AllDat.nil | with_reducible apply AllDat.cons)), by ((rw [sizeLine_eq]; simp)), ?_⟩
        refine it_list fun it3 => ⟨it3, _, _, rfl, rfl, fun l o => ∃ (lst : List V) (c3 c4 : Option V), ((l = [V.dat (sideD r.na r.ca), V.dat (sideD r.nb r.cb)] ∧ lst = []) ∨ (l = [V.dat (sideD r.nb r.cb)] ∧ lst = [V.lst pA]) ∨ (l = [] ∧ lst = [V.lst pA, V.lst pB])) ∧
          Wk o ((DS, Ob.list lst) :: (L, Ob.ns (locT scr rws x src ga AS (sideD r.na r.ca) (sideD r.nb r.cb) (.lst [PyData.tuple [sideD r.na r.ca, sideD r.nb r.cb, r.flag]]))) :: (L + 4, Ob.cell c4) :: (L + 3, Ob.cell c3) :: (L + 2, Ob.cell (some (.ref DS))) :: (L + 6, Ob.cell (some (.ref SZ))) :: (SZ, Ob.prop (DicP W.prog W.w szF)) :: (it2, Ob.it rr) :: (L + 1, Ob.cell (some (.dat r.flag))) :: (AS, Ob.list (asks.map V.dat ++ [V.dat (entD r.na r.ca)] ++ [V.dat (entD r.nb r.cb)])) :: own), ?_, ?_, ?_⟩
        · exact ⟨[], c3, c4, .inl ⟨rfl, rfl⟩, by (with_reducible repeat first | exact Wk.refl | exact Wk.nil | refine Wk.keep ObW.refl ?_ | refine Wk.keep (ObW.ns (by (with_reducible repeat first | exact List.Sublist.refl _ | exact List.nil_sublist _ | apply List.Sublist.cons_cons | apply List.Sublist.cons))) ?_ | apply Wk.drop)⟩
        · rintro v r' o ⟨lst, c3', c4', h, wk⟩
          refine S1.wk (Wk.keep .refl wk) ?_
          rcases h with ⟨e, rfl⟩ | ⟨e, rfl⟩ | ⟨e, _⟩
          · injection e with e1 e2
            subst e1 e2
            refine turn_side hK hT0 hh hn (by simp) fun o1 wk1 => ⟨_, wk1, _, _, _, .inr (.inl ⟨rfl, by rw [hpA]; rfl⟩), .refl⟩
          · injection e with e1 e2
            subst e1 e2
            refine turn_side hK hT0 hh hm (by simp) fun o1 wk1 => ⟨_, wk1, _, _, _, .inr (.inr ⟨rfl, by rw [hpB]; rfl⟩), .refl⟩
          · cases e
        · rintro o ⟨lst, c3', c4', h, wk⟩
          rcases h with ⟨e, _⟩ | ⟨e, _⟩ | ⟨_, rfl⟩
          · cases e
          · cases e
          refine ⟨_, (it2, Ob.it rr) :: (L, Ob.ns (locT scr rws x src ga AS (sideD r.na r.ca) (sideD r.nb r.cb) (.lst [PyData.tuple [sideD r.na r.ca, sideD r.nb r.cb, r.flag]]))) :: (L + 4, Ob.cell c4') :: (L + 3, Ob.cell c3') :: (L + 2, Ob.cell (some (.ref DS))) :: (L + 1, Ob.cell (some (.dat r.flag))) :: (AS, Ob.list (asks.map V.dat ++ [V.dat (entD r.na r.ca)] ++ [V.dat (entD r.nb r.cb)])) :: (L + 6, Ob.cell (some (.ref SZ))) :: (SZ, Ob.prop (DicP W.prog W.w szF)) :: (DS, Ob.list [V.lst pA, V.lst pB]) :: own, wk, by (with_reducible repeat first | exact List.Perm.refl _ | refine (Take.perm (by (with_reducible repeat first | exact Take.here | apply Take.there))).trans (List.Perm.cons _ ?_)), ?_⟩
          clear wk
          have hlA : pA.length = 4 := by rw [hpA, List.length_append, pcs_len, List.length_replicate]; (first | decide | exact Nat.le_trans (by assumption) (by decide) | lia | omega)
          have hlB : pB.length = 4 := by rw [hpB, List.length_append, pcs_len, List.length_replicate]; (first | decide | exact Nat.le_trans (by assumption) (by decide) | lia | omega)
          have hz : (List.range (max n m)).map (fun k => (.tuple [pA.getD k .none, pB.getD k .none, r.flag] : PyData)) = zipT r.flag (pcsD r.na r.ca n) (pcsD r.nb r.cb m) := by
            have := zip4 r.flag (a := pcsD r.na r.ca n) (b := pcsD r.nb r.cb m) (by rw [pcs_len]; exact hn4) (by rw [pcs_len]; exact hm4)
            rw [pcs_len, pcs_len] at this
            rw [hpA, hpB]
            exact this
          clear hpA hpB
          dsimp only [locT]
          refine SXs_cons ?_
          refine SX_Assign ?_
          refine SE_Call ?_
          refine SE_Name ?_ (by decide +kernel)
          refine SN_builtin rfl rfl rfl rfl (nsIn_of (by assumption) rfl) rfl (by decide +kernel) ?_
          with_reducible refine ⟨_, rfl, ?_⟩
          refine SEs_cons ?_
          refine SE_Subscript ?_
          refine SE_Name ?_ (by decide +kernel)
          refine SN_cell rfl rfl rfl (by (with_reducible repeat first | exact List.mem_cons_self | refine List.mem_cons_of_mem _ ?_ | assumption | exact mem_mid' | exact mem_mid (by assumption))) ?_
          refine SE_Subscript ?_
          refine SE_Name ?_ (by decide +kernel)
          refine SN_loc rfl rfl (by (with_reducible repeat first | exact List.mem_cons_self | refine List.mem_cons_of_mem _ ?_ | assumption | exact mem_mid' | exact mem_mid (by assumption))) (by with_reducible rfl) (by (with_reducible repeat first | exact List.mem_cons_self | refine List.mem_cons_of_mem _ ?_ | assumption | exact mem_mid' | exact mem_mid (by assumption))) ?_
          refine SE_int ?_
          with_reducible refine sub_side1 ?_
          refine sub_dic (n := (n : Int)) (by (with_reducible repeat first | exact List.mem_cons_self | refine List.mem_cons_of_mem _ ?_ | assumption | exact mem_mid' | exact mem_mid (by assumption))) hn' ?_
          refine SEs_cons ?_
          refine SE_Subscript ?_
          refine SE_Name ?_ (by decide +kernel)
          refine SN_cell rfl rfl rfl (by (with_reducible repeat first | exact List.mem_cons_self | refine List.mem_cons_of_mem _ ?_ | assumption | exact mem_mid' | exact mem_mid (by assumption))) ?_
          refine SE_Subscript ?_
          refine SE_Name ?_ (by decide +kernel)
          refine SN_loc rfl rfl (by (with_reducible repeat first | exact List.mem_cons_self | refine List.mem_cons_of_mem _ ?_ | assumption | exact mem_mid' | exact mem_mid (by assumption))) (by with_reducible rfl) (by (with_reducible repeat first | exact List.mem_cons_self | refine List.mem_cons_of_mem _ ?_ | assumption | exact mem_mid' | exact mem_mid (by assumption))) ?_
          refine SE_int ?_
          with_reducible refine sub_side1 ?_
          refine sub_dic (n := (m : Int)) (by (with_reducible repeat first | exact List.mem_cons_self | refine List.mem_cons_of_mem _ ?_ | assumption | exact mem_mid' | exact mem_mid (by assumption))) hm' ?_
          refine SEs_nil ?_
          with_reducible refine ⟨kp_builtin, ?_⟩
          refine call_max2 hh ?_
          rw [show max (n : Int) (m : Int) = ((max n m : Nat) : Int) by (first | decide | exact Nat.le_trans (by assumption) (by decide) | lia | omega)]
          refine SS_loc rfl rfl (by (with_reducible repeat first | exact List.mem_cons_self | refine List.mem_cons_of_mem _ ?_ | assumption | exact mem_mid' | exact mem_mid (by assumption))) (by with_reducible rfl) (by (with_reducible repeat first | exact Put.here | exact Put.new | apply Put.there)) (by ((first | (dsimp only [List.map_cons, List.map_nil]; decide +kernel) | (simp only [List.map_cons, List.map_nil]; decide +kernel)))) (by (with_reducible repeat first | assumption | exact Upd.here | exact Upd.mid | apply Upd.there)) ?_
          refine SXs_cons ?_
          refine SX_AssignCompMap (α := Nat) hh rfl (by decide +kernel) rfl (by decide +kernel) rfl ?_
          refine SE_Call ?_
          refine SE_Name ?_ (by decide +kernel)
          refine SN_builtin rfl rfl rfl rfl (nsIn_of (by assumption) rfl) rfl (by decide +kernel) ?_
          with_reducible refine ⟨_, rfl, ?_⟩
          refine SEs_cons ?_
          refine SE_Name ?_ (by decide +kernel)
          refine SN_loc rfl rfl (by (with_reducible repeat first | exact List.mem_cons_self | refine List.mem_cons_of_mem _ ?_ | assumption | exact mem_mid' | exact mem_mid (by assumption))) (by with_reducible rfl) (by (with_reducible repeat first | exact List.mem_cons_self | refine List.mem_cons_of_mem _ ?_ | assumption | exact mem_mid' | exact mem_mid (by assumption))) ?_
          refine SEs_nil ?_
          with_reducible refine ⟨kp_type, ?_⟩
          refine call_range1 ?_
          obtain ⟨hrs, hsm⟩ := small_rng (n := max n m) (by (first | decide | exact Nat.le_trans (by assumption) (by decide) | lia | omega))
          refine it_range (n := max n m) hsm hrs fun it' => ⟨it', _, _, rfl, rfl, fun j : Nat => V.int (0 + (j : Int) * 1), fun _ => true, fun k => .tuple [pA.getD k .none, pB.getD k .none, r.flag], List.range (max n m), rfl, by rw [sizeLine_eq, List.length_range]; (first | decide | exact Nat.le_trans (by assumption) (by decide) | lia | omega), ?_, ?_⟩
          · intro C D' it4 k rr' ys hk
            have hkn := List.mem_range.mp hk
            rw [show (fun j : Nat => V.int (0 + (j : Int) * 1)) k = V.int ((k : Nat) : Int) by show V.int _ = _; rw [show (0 : Int) + (k : Int) * 1 = ((k : Nat) : Int) by (first | decide | exact Nat.le_trans (by assumption) (by decide) | lia | omega)]]
            have hx : pA[place (k : Int) pA.length]? = some (pA.getD k .none) := by
              unfold place; rw [if_neg (by (first | decide | exact Nat.le_trans (by assumption) (by decide) | lia | omega)), Int.toNat_natCast, List.getD_eq_getElem?_getD, List.getElem?_eq_getElem (by (first | decide | exact Nat.le_trans (by assumption) (by decide) | lia | omega))]; rfl
            have hy : pB[place (k : Int) pB.length]? = some (pB.getD k .none) := by
              unfold place; rw [if_neg (by (first | decide | exact Nat.le_trans (by assumption) (by decide) | lia | omega)), Int.toNat_natCast, List.getD_eq_getElem?_getD, List.getElem?_eq_getElem (by (first | decide | exact Nat.le_trans (by assumption) (by decide) | lia | omega))]; rfl
            clear hk hrs hsm hz hn' hm' hn hm hfl hQ
            refine SA_Name ?_
            refine SS_loc rfl rfl (by (with_reducible repeat first | exact List.mem_cons_self | refine List.mem_cons_of_mem _ ?_ | assumption | exact mem_mid' | exact mem_mid (by assumption))) (by with_reducible rfl) (by (with_reducible repeat first | exact Put.here | exact Put.new | apply Put.there)) (by ((first | (dsimp only [List.map_cons, List.map_nil]; decide +kernel) | (simp only [List.map_cons, List.map_nil]; decide +kernel)))) (by (with_reducible repeat first | assumption | exact Upd.here | exact Upd.mid | apply Upd.there)) ?_
            refine STs_nil ?_
            refine ⟨rfl, ?_⟩
            rw [if_pos rfl]
            refine SE_TupleF ?_
            refine SEs_cons ?_
            refine SE_Subscript ?_
            refine SE_Subscript ?_
            refine SE_Name ?_ (by decide +kernel)
            refine SN_cell rfl rfl rfl (by (with_reducible repeat first | exact List.mem_cons_self | refine List.mem_cons_of_mem _ ?_ | assumption | exact mem_mid' | exact mem_mid (by assumption))) ?_
            refine SE_int ?_
            refine sub_own (l := [V.lst pA, V.lst pB]) (by (with_reducible repeat first | exact List.mem_cons_self | refine List.mem_cons_of_mem _ ?_ | assumption | exact mem_mid' | exact mem_mid (by assumption))) (by simp) (by simp) (by rw [sizeLine_eq]; simp) rfl ?_
            refine SE_Name ?_ (by decide +kernel)
            refine SN_loc rfl rfl (by (with_reducible repeat first | exact List.mem_cons_self | refine List.mem_cons_of_mem _ ?_ | assumption | exact mem_mid' | exact mem_mid (by assumption))) (by with_reducible rfl) (by (with_reducible repeat first | exact List.mem_cons_self | refine List.mem_cons_of_mem _ ?_ | assumption | exact mem_mid' | exact mem_mid (by assumption))) ?_
            refine sub_lst (by (first | decide | exact Nat.le_trans (by assumption) (by decide) | lia | omega)) (by (first | decide | exact Nat.le_trans (by assumption) (by decide) | lia | omega)) (by rw [sizeLine_eq]; (first | decide | exact Nat.le_trans (by assumption) (by decide) | lia | omega)) hx ?_
            refine SEs_cons ?_
            refine SE_Subscript ?_
            refine SE_Subscript ?_
            refine SE_Name ?_ (by decide +kernel)
            refine SN_cell rfl rfl rfl (by (with_reducible repeat first | exact List.mem_cons_self | refine List.mem_cons_of_mem _ ?_ | assumption | exact mem_mid' | exact mem_mid (by assumption))) ?_
            refine SE_int ?_
            refine sub_own (l := [V.lst pA, V.lst pB]) (by (with_reducible repeat first | exact List.mem_cons_self | refine List.mem_cons_of_mem _ ?_ | assumption | exact mem_mid' | exact mem_mid (by assumption))) (by simp) (by simp) (by rw [sizeLine_eq]; simp) rfl ?_
            refine SE_Name ?_ (by decide +kernel)
            refine SN_loc rfl rfl (by (with_reducible repeat first | exact List.mem_cons_self | refine List.mem_cons_of_mem _ ?_ | assumption | exact mem_mid' | exact mem_mid (by assumption))) (by with_reducible rfl) (by (with_reducible repeat first | exact List.mem_cons_self | refine List.mem_cons_of_mem _ ?_ | assumption | exact mem_mid' | exact mem_mid (by assumption))) ?_
            refine sub_lst (by (first | decide | exact Nat.le_trans (by assumption) (by decide) | lia | omega)) (by (first | decide | exact Nat.le_trans (by assumption) (by decide) | lia | omega)) (by rw [sizeLine_eq]; (first | decide | exact Nat.le_trans (by assumption) (by decide) | lia | omega)) hy ?_
            refine SEs_cons ?_
            refine SE_Name ?_ (by decide +kernel)
            refine SN_cell rfl rfl rfl (by (with_reducible repeat first | exact List.mem_cons_self | refine List.mem_cons_of_mem _ ?_ | assumption | exact mem_mid' | exact mem_mid (by assumption))) ?_
            refine SEs_nil ?_
            with_reducible refine ⟨_, by with_reducible ((first | exact AllDat.map _ | repeat first | exact AllDat.nil | with_reducible apply AllDat.cons)), by ((rw [sizeLine_eq]; simp)), ?_⟩
            exact ⟨rfl, by (with_reducible repeat first | exact Wk.refl | exact Wk.nil | refine Wk.keep ObW.refl ?_ | refine Wk.keep (ObW.ns (by (with_reducible repeat first | exact List.Sublist.refl _ | exact List.nil_sublist _ | apply List.Sublist.cons_cons | apply List.Sublist.cons))) ?_ | apply Wk.drop)⟩
          rw [show (List.range (max n m)).filter (fun _ => true) = List.range (max n m) from List.filter_eq_self.mpr fun _ _ => rfl, hz]
          intro C
          clear hrs hsm hz
          refine SS_loc (L := L) rfl rfl (by (with_reducible repeat first | exact List.mem_cons_self | refine List.mem_cons_of_mem _ ?_ | assumption | exact mem_mid' | exact mem_mid (by assumption))) rfl (by (with_reducible repeat first | exact Put.here | exact Put.new | apply Put.there)) (by ((first | (dsimp only [List.map_cons, List.map_nil]; decide +kernel) | (simp only [List.map_cons, List.map_nil]; decide +kernel)))) (by (with_reducible repeat first | assumption | exact Upd.here | exact Upd.mid | apply Upd.there)) ?_
          refine ⟨_, by (with_reducible repeat first | exact Wk.refl | exact Wk.nil | refine Wk.keep ObW.refl ?_ | refine Wk.keep (ObW.ns (by (with_reducible repeat first | exact List.Sublist.refl _ | exact List.nil_sublist _ | apply List.Sublist.cons_cons | apply List.Sublist.cons))) ?_ | apply Wk.drop), ?_⟩
          refine SXs_nil ?_
          refine SXs_nil ?_
          refine SXs_nil ?_
          refine hQ _ (some (.ref DS)) c3' c4' ?_
          rw [← List.append_assoc, List.map_append, List.map_append]
          (with_reducible repeat first | exact Wk.refl | exact Wk.nil | refine Wk.keep ObW.refl ?_ | refine Wk.keep (ObW.ns (by (with_reducible repeat first | exact List.Sublist.refl _ | exact List.nil_sublist _ | apply List.Sublist.cons_cons | apply List.Sublist.cons))) ?_ | apply Wk.drop)
    · have h1' : r.ca = 101 := by
        have : [r.ca] = [101] := Classical.byContradiction fun e => h1 e
        exact (List.cons.inj this).1
      have hn := (szN_101 hca.1 hca.2).mpr h1'
      refine SXs_nil ?_
      refine SXs_cons ?_
      refine SX_If ?_
      refine ST_Compare ?_
      refine SE_strL (by (first | exact l03_0 | exact l03_1 | exact l03_2 | exact l03_3 | exact l03_4 | exact l03_5 | exact l03_6 | exact l03_7 | exact l03_8 | exact l03_9 | exact l03_10)) ?_
      refine SE_ListF ?_
      refine SEs_cons ?_
      refine SE_Subscript ?_
      refine SE_Name ?_ (by decide +kernel)
      refine SN_loc rfl rfl (by (with_reducible repeat first | exact List.mem_cons_self | refine List.mem_cons_of_mem _ ?_ | assumption | exact mem_mid' | exact mem_mid (by assumption))) (by with_reducible rfl) (by (with_reducible repeat first | exact List.mem_cons_self | refine List.mem_cons_of_mem _ ?_ | assumption | exact mem_mid' | exact mem_mid (by assumption))) ?_
      refine SE_int ?_
      with_reducible refine sub_side1 ?_
      refine SEs_cons ?_
      refine SE_Subscript ?_
      refine SE_Name ?_ (by decide +kernel)
      refine SN_loc rfl rfl (by (with_reducible repeat first | exact List.mem_cons_self | refine List.mem_cons_of_mem _ ?_ | assumption | exact mem_mid' | exact mem_mid (by assumption))) (by with_reducible rfl) (by (with_reducible repeat first | exact List.mem_cons_self | refine List.mem_cons_of_mem _ ?_ | assumption | exact mem_mid' | exact mem_mid (by assumption))) ?_
      refine SE_int ?_
      with_reducible refine sub_side1 ?_
      refine SEs_nil ?_
      with_reducible refine ⟨_, by with_reducible ((first | exact AllDat.map _ | repeat first | exact AllDat.nil | with_reducible apply AllDat.cons)), by ((rw [sizeLine_eq]; simp)), ?_⟩
      refine cmp_inSL (ls := [[r.ca], [r.cb]]) ?_
      with_reducible refine tr_bool ?_
      refine ite_dec (fun h2 => ?_) (fun h2 => absurd (by rw [h1']; exact List.mem_cons_self) h2)
      refine SXs_cons ?_
      refine SX_Assign ?_
      refine SE_ListF ?_
      refine SEs_cons ?_
      refine SE_strL (by (first | exact l03_0 | exact l03_1 | exact l03_2 | exact l03_3 | exact l03_4 | exact l03_5 | exact l03_6 | exact l03_7 | exact l03_8 | exact l03_9 | exact l03_10)) ?_
      refine SEs_nil ?_
      with_reducible refine ⟨_, by with_reducible ((first | exact AllDat.map _ | repeat first | exact AllDat.nil | with_reducible apply AllDat.cons)), by ((rw [sizeLine_eq]; simp)), ?_⟩
      refine SS_loc rfl rfl (by (with_reducible repeat first | exact List.mem_cons_self | refine List.mem_cons_of_mem _ ?_ | assumption | exact mem_mid' | exact mem_mid (by assumption))) (by with_reducible rfl) (by (with_reducible repeat first | exact Put.here | exact Put.new | apply Put.there)) (by ((first | (dsimp only [List.map_cons, List.map_nil]; decide +kernel) | (simp only [List.map_cons, List.map_nil]; decide +kernel)))) (by (with_reducible repeat first | assumption | exact Upd.here | exact Upd.mid | apply Upd.there)) ?_
      refine SXs_nil ?_
      refine SXs_nil ?_
      refine SXs_nil ?_
      have e1 : dueL r = [.str (S [114, 101, 102, 117, 115, 101, 100])] := by unfold dueL; rw [out_x1 hfl hn]
      rw [asks_one hfl hn, e1] at hQ
      refine hQ _ c2 c3 c4 ?_
      rw [List.map_append]
      (with_reducible repeat first | exact Wk.refl | exact Wk.nil | refine Wk.keep ObW.refl ?_ | refine Wk.keep (ObW.ns (by (with_reducible repeat first | exact List.Sublist.refl _ | exact List.nil_sublist _ | apply List.Sublist.cons_cons | apply List.Sublist.cons))) ?_ | apply Wk.drop)
theorem SLC.nd {f : Value} {args : List V} {Q : V → Own → Prop} (h : (own.map (·.1)).Nodup → SLC W A f args own Q) : SLC W A f args own Q := fun fz s vs H ht r => h H.nd fz s vs H ht r
theorem SLC.perm {f : Value} {args : List V} {Q : V → Own → Prop} (h : SLC W A f args own (fun b o => ∃ o1, o.Perm o1 ∧ Q b o1)) : SLC W A f args own Q := fun fz s vs H ht rs =>
  codeAny_mono (h fz s vs H ht rs) fun r s' x => by
    rcases r with e | (v | _ | _ | _) <;> first | exact x.elim | skip
    obtain ⟨fz', b, own', k, H', r, o1, hp, q⟩ := x
    exact ⟨fz', b, o1, k, H'.perm hp, r, q⟩
theorem Upd.app {a : Addr} {x y : Ob} {f f' : Own} (l : Own) (u : Upd a x y f f') : Upd a x y (f ++ l) (f' ++ l) := by
  induction u with
  | here => exact .here
  | there _ ih => exact .there ih
theorem perm_gen {p : Addr × Ob} (a b c : Own) : (a ++ p :: (b ++ c)).Perm (p :: (b ++ (a ++ c))) := by
  refine List.perm_middle.trans (List.Perm.cons _ ?_)
  rw [← List.append_assoc, ← List.append_assoc]
  exact (List.perm_append_comm).append_right _
noncomputable def restOf : Res → List Rw
  | .over => []
  | .row _ _ rest => rest
  | .fail rest => rest
section
variable {it x dx f cA AL cS SZ ga : Addr} {g : Nat}
noncomputable def NxL (W : Wd) (it x dx f cA AL cS SZ ga : Addr) (g n : Nat) (front own0 : Own) (res : Res) : V → Own → Prop := fun r o' => match res with
  | .row row pend' _ => ∃ go', r = .dat row ∧ o' = front ++ (ga, .gen g (GP3 W it x dx f cA AL cS SZ n go' pend')) :: (go' ++ own0)
  | .over => r = .str (S [111, 118, 101, 114]) ∧ o' = front ++ (ga, .gen g (· = .finished)) :: own0
  | .fail _ => r = .str (S [114, 101, 102, 117, 115, 101, 100]) ∧ o' = front ++ (ga, .gen g (· = .finished)) :: own0
theorem c_nextL (hK : K03 W) (hh : A.handled = none) (hd : A.depth < 400) {fr : List Env} (hfr : A.frames = some fr) {front f1 front' go own0 : Own} {P : GenState → Prop} {pend : List PyData} {rs : List Rw} {asked as : List PyData} {res : Res} {n : Nat} (hF : FrO front fr)
    (hI : (it, obI rs) ∈ front) (hA : (AL, obA asked) ∈ front) (hx : (x, Ob.obj (instObj 113 dx)) ∈ front) (hdx : (dx, Ob.att (attL f)) ∈ front) (hf : (f, lamOb cA cS) ∈ front) (hcA : (cA, Ob.cell (some (.ref AL))) ∈ front) (hcS : (cS, Ob.cell (some (.ref SZ))) ∈ front) (hSZ : (SZ, Ob.prop (DicP W.prog W.w szF)) ∈ front)
    (n1 : it ≠ f) (n2 : it ≠ SZ) (hs : (SZ == sysModules) = false) (hP : ∀ st, P st → GP3 W it x dx f cA AL cS SZ (n + 1) go pend st) (hl : asked.length + as.length ≤ 400) (st : Stp pend rs as res)
    (u1 : Upd it (obI rs) (obI (restOf res)) front f1) (u2 : Upd AL (obA asked) (obA (asked ++ as)) f1 front') :
    SLC W A (.ref 124) [.ref ga] (front ++ (ga, .gen g P) :: (go ++ own0)) (NxL W it x dx f cA AL cS SZ ga g n front' own0 res) := by
  refine SLC.nd fun nd => ?_
  have hp := perm_gen (p := (ga, Ob.gen g P)) front go own0
  have kn : ((front ++ own0).map (·.1)).Nodup := by
    have := ((hp.map (·.1)).nodup_iff.mp nd)
    rw [List.map_cons, List.nodup_cons, List.map_append] at this
    exact (List.nodup_append.mp this.2).2.1
  have B : Bx W it x dx f cA AL cS SZ (front ++ own0) := ⟨kn, ⟨_, List.mem_append_left _ hI⟩, ⟨_, List.mem_append_left _ hA⟩, List.mem_append_left _ hx, List.mem_append_left _ hdx, List.mem_append_left _ hf, List.mem_append_left _ hcA, List.mem_append_left _ hcS, List.mem_append_left _ hSZ, n1, n2, hs⟩
  have e0 : stO it AL rs asked (front ++ own0) = front ++ own0 := by
    unfold stO
    rw [setO_same kn (List.mem_append_left _ hI), setO_same kn (List.mem_append_left _ hA)]
  have e1 : stO it AL (restOf res) (asked ++ as) (front ++ own0) = front' ++ own0 := by
    unfold stO
    rw [← (u1.app own0).is_setO kn]
    exact ((u2.app own0).is_setO (by rw [(u1.app own0).keys]; exact kn)).symm
  refine SLC.perm ((c_next (n := n) hK hh hd hfr (hF.mono' fun p hp => List.mem_append_left _ hp) B hP hl st (by rw [e0]; exact hp)).mono ?_)
  intro r o' h
  cases res with
  | over =>
    obtain ⟨rfl, rfl⟩ := h
    refine ⟨_, ?_, rfl, rfl⟩
    rw [show stO it AL [] (asked ++ as) (front ++ own0) = front' ++ own0 from e1]
    exact (perm_gen front' [] own0).symm
  | row row pend' rest =>
    obtain ⟨go', rfl, rfl⟩ := h
    refine ⟨_, ?_, go', rfl, rfl⟩
    rw [show stO it AL rest (asked ++ as) (front ++ own0) = front' ++ own0 from e1]
    exact (perm_gen front' go' own0).symm
  | fail rest =>
    obtain ⟨rfl, rfl⟩ := h
    refine ⟨_, ?_, rfl, rfl⟩
    rw [show stO it AL rest (asked ++ as) (front ++ own0) = front' ++ own0 from e1]
    exact (perm_gen front' [] own0).symm
end
theorem S1.perm {α β : Type} {R : Heap → β → α → Prop} {f : Value → Sem α} {a : V} {own' : Own} {Q : β → Own → Prop} (k : own.Perm own') (h : S1 W A R f a own' Q) : S1 W A R f a own Q := fun fz s v H ht r => h fz s v (H.perm k) ht r
noncomputable abbrev stF (it2 : Addr) (rr : List V) (L : Addr) (loc : List (Str × V)) (c1 c2 c3 c4 : Option V) (AS : Addr) (asks : List PyData) (SZ src : Addr) (rs : List Rw) (AL : Addr) (asked : List PyData) (x dx f : Addr) : Own :=
  [(it2, Ob.it rr), (L, Ob.ns loc), (L + 4, Ob.cell c4), (L + 3, Ob.cell c3), (L + 2, Ob.cell c2), (L + 1, Ob.cell c1), (AS, Ob.list (asks.map V.dat)), (L + 6, Ob.cell (some (.ref SZ))), (SZ, Ob.prop (DicP W.prog W.w szF)), (src, obI rs), (AL, obA asked), (x, Ob.obj (instObj 113 dx)), (dx, Ob.att (attL f)), (f, lamOb (L + 5) (L + 6)), (L + 5, Ob.cell (some (.ref AL)))]
theorem row_len {r : Rw} {l : List PyData} (h : outR r = some l) : l.length ≤ 4 := by
  unfold outR at h
  split at h
  · cases h; simp
  · split at h
    · rename_i n m h1 h2
      cases h
      have := szN_le h1
      have := szN_le h2
      rw [zipT_len, pcs_len, pcs_len]; (first | decide | exact Nat.le_trans (by assumption) (by decide) | lia | omega)
    · cases h
set_option maxHeartbeats 8000000 in
theorem turn_yield (hK : K03 W) {L it4 it2 SZ AL dx f ga : Addr} {g : Nat} {tq : Str} {ts : Scope} {tc : Value} {tb : List Stmt} (hT : txtO (W.K.lookup 129) = some (tq, ts, tc, tb)) (hh : A.handled = none) (hd : A.depth < 350) (hu : A.units < 200) (hfr : A.frames = some [envX tq ts L 129 tc (clsL L)])
    {r' rr : List V} {scr rws : V} {x src AS : Addr} {ld rd : PyData} {du : V} {rs rest : List Rw} {asked as A2 pend pend' : List PyData} {t : List PyData} {c1 c2 c3 c4 : Option V} (hok : Ok 52 (.tuple t)) (hoa : ∀ d ∈ A2, Ok 52 d) (hlen : A2.length ≤ 300) (hA2 : asked ++ as = A2) (st : Stp pend rs as (.row (.tuple t) pend' rest))
    (n1 : src ≠ f) (n2 : src ≠ SZ) (hs : (SZ == sysModules) = false) {P : GenState → Prop} {go : Own} {n : Nat} (hP : ∀ st, P st → GP3 W src x dx f (L + 5) AL (L + 6) SZ (n + 1) go pend st) {Q : Fl → Own → Prop}
    (hQ : ∀ o go', Wk o ((it4, Ob.it r') :: (stF (W := W) it2 rr L (locT scr rws x src ga AS ld rd du) c1 c2 c3 c4 AS A2 SZ src rest AL A2 x dx f ++ (ga, .gen g (GP3 W src x dx f (L + 5) AL (L + 6) SZ n go' pend')) :: (go' ++ own))) → Q .next o) :
    SA W A (envX tq ts L 129 tc (clsL L)) (forT (nthS (forB (nthS tb 9)) 2)) (.tup t) ((it4, Ob.it r') :: (stF (W := W) it2 rr L (locT scr rws x src ga AS ld rd du) c1 c2 c3 c4 AS A2 SZ src rs AL asked x dx f ++ (ga, .gen g P) :: (go ++ own))) fun o1 => SXs W A (envX tq ts L 129 tc (clsL L)) (forB (nthS (forB (nthS tb 9)) 2)) o1 Q := by
  rw [K_of (a := 129) hK rfl] at hT
  change some (_, _, _, _) = _ at hT
  cases hT
  dsimp only [lawS, fdB, fdS, clB, PySem.Challenge.pw_dm0066_03, nthS, forT, forI, forB, forP, ifT, ifB, ifE, ifP]
  have hrec : recursionLimit = 1000 := rfl
  have hcl : cLine = 9900 := rfl
  dsimp only [stF, locT, List.cons_append, List.nil_append] at hQ ⊢
  refine SA_Name ?_
  refine SS_loc rfl rfl (by (with_reducible repeat first | exact List.mem_cons_self | refine List.mem_cons_of_mem _ ?_ | assumption | exact mem_mid' | exact mem_mid (by assumption))) (by with_reducible rfl) (by (with_reducible repeat first | exact Put.here | exact Put.new | apply Put.there)) (by ((first | (dsimp only [List.map_cons, List.map_nil]; decide +kernel) | (simp only [List.map_cons, List.map_nil]; decide +kernel)))) (by (with_reducible repeat first | assumption | exact Upd.here | exact Upd.mid | apply Upd.there)) ?_
  refine SXs_cons ?_
  refine SX_If ?_
  refine SG_or ?_
  refine ST_Compare ?_
  refine SE_Call ?_
  refine SE_Name ?_ (by decide +kernel)
  refine SN_global rfl rfl rfl (nsIn_of (by assumption) rfl) ?_
  with_reducible refine ⟨_, rfl, ?_⟩
  refine SEs_cons ?_
  refine SE_Name ?_ (by decide +kernel)
  refine SN_loc rfl rfl (by (with_reducible repeat first | exact List.mem_cons_self | refine List.mem_cons_of_mem _ ?_ | assumption | exact mem_mid' | exact mem_mid (by assumption))) (by with_reducible rfl) (by (with_reducible repeat first | exact List.mem_cons_self | refine List.mem_cons_of_mem _ ?_ | assumption | exact mem_mid' | exact mem_mid (by assumption))) ?_
  refine SEs_nil ?_
  refine ⟨kp_K (by rw [hK]; rfl), SLC.call ((c_nextL (ga := ga) (g := g) (P := P) (go := go) (own0 := own) (n := n) (as := as) (front := [(it4, Ob.it r'), (it2, Ob.it rr), (L, Ob.ns (locT scr rws x src ga AS ld rd du ++ [(Str.ofString "row", .tup t)])), (L + 4, Ob.cell c4), (L + 3, Ob.cell c3), (L + 2, Ob.cell c2), (L + 1, Ob.cell c1), (AS, Ob.list (A2.map V.dat)), (L + 6, Ob.cell (some (.ref SZ))), (SZ, Ob.prop (DicP W.prog W.w szF)), (src, obI rs), (AL, obA asked), (x, Ob.obj (instObj 113 dx)), (dx, Ob.att (attL f)), (f, lamOb (L + 5) (L + 6)), (L + 5, Ob.cell (some (.ref AL)))])
    hK hh (by (first | decide | exact Nat.le_trans (by assumption) (by decide) | lia | omega)) hfr ⟨(fun e => nomatch e), ⟨L, _, rfl, by (with_reducible repeat first | exact List.mem_cons_self | refine List.mem_cons_of_mem _ ?_ | assumption | exact mem_mid' | exact mem_mid (by assumption))⟩, trivial⟩ (by (with_reducible repeat first | exact List.mem_cons_self | refine List.mem_cons_of_mem _ ?_ | assumption | exact mem_mid' | exact mem_mid (by assumption))) (by (with_reducible repeat first | exact List.mem_cons_self | refine List.mem_cons_of_mem _ ?_ | assumption | exact mem_mid' | exact mem_mid (by assumption))) (by (with_reducible repeat first | exact List.mem_cons_self | refine List.mem_cons_of_mem _ ?_ | assumption | exact mem_mid' | exact mem_mid (by assumption))) (by (with_reducible repeat first | exact List.mem_cons_self | refine List.mem_cons_of_mem _ ?_ | assumption | exact mem_mid' | exact mem_mid (by assumption))) (by (with_reducible repeat first | exact List.mem_cons_self | refine List.mem_cons_of_mem _ ?_ | assumption | exact mem_mid' | exact mem_mid (by assumption))) (by (with_reducible repeat first | exact List.mem_cons_self | refine List.mem_cons_of_mem _ ?_ | assumption | exact mem_mid' | exact mem_mid (by assumption))) (by (with_reducible repeat first | exact List.mem_cons_self | refine List.mem_cons_of_mem _ ?_ | assumption | exact mem_mid' | exact mem_mid (by assumption))) (by (with_reducible repeat first | exact List.mem_cons_self | refine List.mem_cons_of_mem _ ?_ | assumption | exact mem_mid' | exact mem_mid (by assumption))) n1 n2 hs hP (by rw [← hA2, List.length_append] at hlen; (first | decide | exact Nat.le_trans (by assumption) (by decide) | lia | omega)) st (by (with_reducible repeat first | assumption | exact Upd.here | exact Upd.mid | apply Upd.there)) (by (with_reducible repeat first | assumption | exact Upd.here | exact Upd.mid | apply Upd.there))).mono ?_)⟩
  rintro v o ⟨go', rfl, rfl⟩
  rw [hA2]
  dsimp only [restOf, List.cons_append, List.nil_append]
  refine SE_Name ?_ (by decide +kernel)
  refine SN_loc rfl rfl (by (with_reducible repeat first | exact List.mem_cons_self | refine List.mem_cons_of_mem _ ?_ | assumption | exact mem_mid' | exact mem_mid (by assumption))) (by with_reducible rfl) (by (with_reducible repeat first | exact List.mem_cons_self | refine List.mem_cons_of_mem _ ?_ | assumption | exact mem_mid' | exact mem_mid (by assumption))) ?_
  refine cmp_neR rfl (hok.mono (by decide)) (by (first | decide | exact Nat.le_trans (by assumption) (by decide) | lia | omega)) ?_
  with_reducible refine tr_bool ?_
  with_reducible refine ite_ff' ?_
  refine SG_or ?_
  refine ST_Compare ?_
  refine SE_Name ?_ (by decide +kernel)
  refine SN_cell rfl rfl rfl (by (with_reducible repeat first | exact List.mem_cons_self | refine List.mem_cons_of_mem _ ?_ | assumption | exact mem_mid' | exact mem_mid (by assumption))) ?_
  refine SE_Name ?_ (by decide +kernel)
  refine SN_loc rfl rfl (by (with_reducible repeat first | exact List.mem_cons_self | refine List.mem_cons_of_mem _ ?_ | assumption | exact mem_mid' | exact mem_mid (by assumption))) (by with_reducible rfl) (by (with_reducible repeat first | exact List.mem_cons_self | refine List.mem_cons_of_mem _ ?_ | assumption | exact mem_mid' | exact mem_mid (by assumption))) ?_
  refine cmp_neOO (ds := A2) (by (with_reducible repeat first | exact List.mem_cons_self | refine List.mem_cons_of_mem _ ?_ | assumption | exact mem_mid' | exact mem_mid (by assumption))) (by (with_reducible repeat first | exact List.mem_cons_self | refine List.mem_cons_of_mem _ ?_ | assumption | exact mem_mid' | exact mem_mid (by assumption))) (ok_list (n := 59) fun d hd => (hoa d hd).mono (by decide)) (by (first | decide | exact Nat.le_trans (by assumption) (by decide) | lia | omega)) ?_
  with_reducible refine tr_bool ?_
  with_reducible refine ite_ff' ?_
  refine SG_or_nil ?_
  with_reducible refine ite_ff' ?_
  refine SXs_nil ?_
  refine SXs_cons ?_
  refine SX_If ?_
  refine ST_Compare ?_
  refine SE_Name ?_ (by decide +kernel)
  refine SN_loc rfl rfl (by (with_reducible repeat first | exact List.mem_cons_self | refine List.mem_cons_of_mem _ ?_ | assumption | exact mem_mid' | exact mem_mid (by assumption))) (by with_reducible rfl) (by (with_reducible repeat first | exact List.mem_cons_self | refine List.mem_cons_of_mem _ ?_ | assumption | exact mem_mid' | exact mem_mid (by assumption))) ?_
  refine SE_strL (by (first | exact l03_0 | exact l03_1 | exact l03_2 | exact l03_3 | exact l03_4 | exact l03_5 | exact l03_6 | exact l03_7 | exact l03_8 | exact l03_9 | exact l03_10)) ?_
  refine cmp_eqTS (hok.mono (by decide)) (by decide) (by (first | decide | exact Nat.le_trans (by assumption) (by decide) | lia | omega)) ?_
  with_reducible refine tr_bool ?_
  with_reducible refine ite_ff' ?_
  refine SXs_nil ?_
  refine SXs_nil ?_
  exact hQ _ go' (by (with_reducible repeat first | exact Wk.refl | exact Wk.nil | refine Wk.keep ObW.refl ?_ | refine Wk.keep (ObW.ns (by (with_reducible repeat first | exact List.Sublist.refl _ | exact List.nil_sublist _ | apply List.Sublist.cons_cons | apply List.Sublist.cons))) ?_ | apply Wk.drop))
set_option maxHeartbeats 8000000 in
theorem turn_fail (hK : K03 W) {L it4 it2 SZ AL dx f ga : Addr} {g : Nat} {tq : Str} {ts : Scope} {tc : Value} {tb : List Stmt} (hT : txtO (W.K.lookup 129) = some (tq, ts, tc, tb)) (hh : A.handled = none) (hd : A.depth < 350) (hu : A.units < 200) (hfr : A.frames = some [envX tq ts L 129 tc (clsL L)])
    {r' rr : List V} {scr rws : V} {x src AS : Addr} {ld rd : PyData} {du : V} {rs rest : List Rw} {asked as A2 pend : List PyData} {c1 c2 c3 c4 : Option V} (hoa : ∀ d ∈ A2, Ok 52 d) (hlen : A2.length ≤ 300) (hA2 : asked ++ as = A2) (st : Stp pend rs as (.fail rest))
    (n1 : src ≠ f) (n2 : src ≠ SZ) (hs : (SZ == sysModules) = false) {P : GenState → Prop} {go : Own} {n : Nat} (hP : ∀ st, P st → GP3 W src x dx f (L + 5) AL (L + 6) SZ (n + 1) go pend st) {Q : Fl → Own → Prop}
    (hQ : ∀ o ga' g' P' go', (∀ st m, P' st → GP3 W src x dx f (L + 5) AL (L + 6) SZ m go' [] st) → (∃ o2, Wk o o2 ∧ o2.Perm ((it4, Ob.it r') :: (stF (W := W) it2 rr L (locT scr rws x src ga' AS ld rd du) c1 c2 c3 c4 AS A2 SZ src rest AL A2 x dx f ++ (ga', .gen g' P') :: (go' ++ own)))) → Q .next o) :
    SA W A (envX tq ts L 129 tc (clsL L)) (forT (nthS (forB (nthS tb 9)) 2)) (.str (S [114, 101, 102, 117, 115, 101, 100])) ((it4, Ob.it r') :: (stF (W := W) it2 rr L (locT scr rws x src ga AS ld rd du) c1 c2 c3 c4 AS A2 SZ src rs AL asked x dx f ++ (ga, .gen g P) :: (go ++ own))) fun o1 => SXs W A (envX tq ts L 129 tc (clsL L)) (forB (nthS (forB (nthS tb 9)) 2)) o1 Q := by
  rw [K_of (a := 129) hK rfl] at hT
  change some (_, _, _, _) = _ at hT
  cases hT
  dsimp only [lawS, fdB, fdS, clB, PySem.Challenge.pw_dm0066_03, nthS, forT, forI, forB, forP, ifT, ifB, ifE, ifP]
  have hrec : recursionLimit = 1000 := rfl
  have hcl : cLine = 9900 := rfl
  dsimp only [stF, locT, List.cons_append, List.nil_append] at hQ ⊢
  refine SA_Name ?_
  refine SS_loc rfl rfl (by (with_reducible repeat first | exact List.mem_cons_self | refine List.mem_cons_of_mem _ ?_ | assumption | exact mem_mid' | exact mem_mid (by assumption))) (by with_reducible rfl) (by (with_reducible repeat first | exact Put.here | exact Put.new | apply Put.there)) (by ((first | (dsimp only [List.map_cons, List.map_nil]; decide +kernel) | (simp only [List.map_cons, List.map_nil]; decide +kernel)))) (by (with_reducible repeat first | assumption | exact Upd.here | exact Upd.mid | apply Upd.there)) ?_
  refine SXs_cons ?_
  refine SX_If ?_
  refine SG_or ?_
  refine ST_Compare ?_
  refine SE_Call ?_
  refine SE_Name ?_ (by decide +kernel)
  refine SN_global rfl rfl rfl (nsIn_of (by assumption) rfl) ?_
  with_reducible refine ⟨_, rfl, ?_⟩
  refine SEs_cons ?_
  refine SE_Name ?_ (by decide +kernel)
  refine SN_loc rfl rfl (by (with_reducible repeat first | exact List.mem_cons_self | refine List.mem_cons_of_mem _ ?_ | assumption | exact mem_mid' | exact mem_mid (by assumption))) (by with_reducible rfl) (by (with_reducible repeat first | exact List.mem_cons_self | refine List.mem_cons_of_mem _ ?_ | assumption | exact mem_mid' | exact mem_mid (by assumption))) ?_
  refine SEs_nil ?_
  refine ⟨kp_K (by rw [hK]; rfl), SLC.call ((c_nextL (ga := ga) (g := g) (P := P) (go := go) (own0 := own) (n := n) (as := as) (front := [(it4, Ob.it r'), (it2, Ob.it rr), (L, Ob.ns (locT scr rws x src ga AS ld rd du ++ [(Str.ofString "row", .str (S [114, 101, 102, 117, 115, 101, 100]))])), (L + 4, Ob.cell c4), (L + 3, Ob.cell c3), (L + 2, Ob.cell c2), (L + 1, Ob.cell c1), (AS, Ob.list (A2.map V.dat)), (L + 6, Ob.cell (some (.ref SZ))), (SZ, Ob.prop (DicP W.prog W.w szF)), (src, obI rs), (AL, obA asked), (x, Ob.obj (instObj 113 dx)), (dx, Ob.att (attL f)), (f, lamOb (L + 5) (L + 6)), (L + 5, Ob.cell (some (.ref AL)))])
    hK hh (by (first | decide | exact Nat.le_trans (by assumption) (by decide) | lia | omega)) hfr ⟨(fun e => nomatch e), ⟨L, _, rfl, by (with_reducible repeat first | exact List.mem_cons_self | refine List.mem_cons_of_mem _ ?_ | assumption | exact mem_mid' | exact mem_mid (by assumption))⟩, trivial⟩ (by (with_reducible repeat first | exact List.mem_cons_self | refine List.mem_cons_of_mem _ ?_ | assumption | exact mem_mid' | exact mem_mid (by assumption))) (by (with_reducible repeat first | exact List.mem_cons_self | refine List.mem_cons_of_mem _ ?_ | assumption | exact mem_mid' | exact mem_mid (by assumption))) (by (with_reducible repeat first | exact List.mem_cons_self | refine List.mem_cons_of_mem _ ?_ | assumption | exact mem_mid' | exact mem_mid (by assumption))) (by (with_reducible repeat first | exact List.mem_cons_self | refine List.mem_cons_of_mem _ ?_ | assumption | exact mem_mid' | exact mem_mid (by assumption))) (by (with_reducible repeat first | exact List.mem_cons_self | refine List.mem_cons_of_mem _ ?_ | assumption | exact mem_mid' | exact mem_mid (by assumption))) (by (with_reducible repeat first | exact List.mem_cons_self | refine List.mem_cons_of_mem _ ?_ | assumption | exact mem_mid' | exact mem_mid (by assumption))) (by (with_reducible repeat first | exact List.mem_cons_self | refine List.mem_cons_of_mem _ ?_ | assumption | exact mem_mid' | exact mem_mid (by assumption))) (by (with_reducible repeat first | exact List.mem_cons_self | refine List.mem_cons_of_mem _ ?_ | assumption | exact mem_mid' | exact mem_mid (by assumption))) n1 n2 hs hP (by rw [← hA2, List.length_append] at hlen; (first | decide | exact Nat.le_trans (by assumption) (by decide) | lia | omega)) st (by (with_reducible repeat first | assumption | exact Upd.here | exact Upd.mid | apply Upd.there)) (by (with_reducible repeat first | assumption | exact Upd.here | exact Upd.mid | apply Upd.there))).mono ?_)⟩
  rintro v o ⟨rfl, rfl⟩
  rw [hA2]
  dsimp only [restOf, List.cons_append, List.nil_append]
  refine SE_Name ?_ (by decide +kernel)
  refine SN_loc rfl rfl (by (with_reducible repeat first | exact List.mem_cons_self | refine List.mem_cons_of_mem _ ?_ | assumption | exact mem_mid' | exact mem_mid (by assumption))) (by with_reducible rfl) (by (with_reducible repeat first | exact List.mem_cons_self | refine List.mem_cons_of_mem _ ?_ | assumption | exact mem_mid' | exact mem_mid (by assumption))) ?_
  with_reducible refine cmp_neSS ?_
  with_reducible refine tr_bool ?_
  rw [decide_eq_false (by simp)]
  with_reducible refine ite_ff' ?_
  refine SG_or ?_
  refine ST_Compare ?_
  refine SE_Name ?_ (by decide +kernel)
  refine SN_cell rfl rfl rfl (by (with_reducible repeat first | exact List.mem_cons_self | refine List.mem_cons_of_mem _ ?_ | assumption | exact mem_mid' | exact mem_mid (by assumption))) ?_
  refine SE_Name ?_ (by decide +kernel)
  refine SN_loc rfl rfl (by (with_reducible repeat first | exact List.mem_cons_self | refine List.mem_cons_of_mem _ ?_ | assumption | exact mem_mid' | exact mem_mid (by assumption))) (by with_reducible rfl) (by (with_reducible repeat first | exact List.mem_cons_self | refine List.mem_cons_of_mem _ ?_ | assumption | exact mem_mid' | exact mem_mid (by assumption))) ?_
  refine cmp_neOO (ds := A2) (by (with_reducible repeat first | exact List.mem_cons_self | refine List.mem_cons_of_mem _ ?_ | assumption | exact mem_mid' | exact mem_mid (by assumption))) (by (with_reducible repeat first | exact List.mem_cons_self | refine List.mem_cons_of_mem _ ?_ | assumption | exact mem_mid' | exact mem_mid (by assumption))) (ok_list (n := 59) fun d hd => (hoa d hd).mono (by decide)) (by (first | decide | exact Nat.le_trans (by assumption) (by decide) | lia | omega)) ?_
  with_reducible refine tr_bool ?_
  with_reducible refine ite_ff' ?_
  refine SG_or_nil ?_
  with_reducible refine ite_ff' ?_
  refine SXs_nil ?_
  refine SXs_cons ?_
  refine SX_If ?_
  refine ST_Compare ?_
  refine SE_Name ?_ (by decide +kernel)
  refine SN_loc rfl rfl (by (with_reducible repeat first | exact List.mem_cons_self | refine List.mem_cons_of_mem _ ?_ | assumption | exact mem_mid' | exact mem_mid (by assumption))) (by with_reducible rfl) (by (with_reducible repeat first | exact List.mem_cons_self | refine List.mem_cons_of_mem _ ?_ | assumption | exact mem_mid' | exact mem_mid (by assumption))) ?_
  refine SE_strL (by (first | exact l03_0 | exact l03_1 | exact l03_2 | exact l03_3 | exact l03_4 | exact l03_5 | exact l03_6 | exact l03_7 | exact l03_8 | exact l03_9 | exact l03_10)) ?_
  with_reducible refine cmp_eqSS ?_
  with_reducible refine tr_bool ?_
  refine ite_dec (fun _ => ?_) (fun h => absurd rfl h)
  refine SXs_cons ?_
  refine SX_Assign ?_
  refine SE_Meth ?_
  refine SE_Name ?_ (by decide +kernel)
  refine SN_loc rfl rfl (by (with_reducible repeat first | exact List.mem_cons_self | refine List.mem_cons_of_mem _ ?_ | assumption | exact mem_mid' | exact mem_mid (by assumption))) (by with_reducible rfl) (by (with_reducible repeat first | exact List.mem_cons_self | refine List.mem_cons_of_mem _ ?_ | assumption | exact mem_mid' | exact mem_mid (by assumption))) ?_
  refine mth_inst (cls03 hK) (by (with_reducible repeat first | exact List.mem_cons_self | refine List.mem_cons_of_mem _ ?_ | assumption | exact mem_mid' | exact mem_mid (by assumption))) (by (with_reducible repeat first | exact List.mem_cons_self | refine List.mem_cons_of_mem _ ?_ | assumption | exact mem_mid' | exact mem_mid (by assumption))) (by rw [hK]; rfl) (by rw [hK]; rfl) (by ((first | (dsimp only [List.map_cons, List.map_nil]; decide +kernel) | (simp only [List.map_cons, List.map_nil]; decide +kernel)))) ?_
  refine SEs_cons ?_
  refine SE_Name ?_ (by decide +kernel)
  refine SN_loc rfl rfl (by (with_reducible repeat first | exact List.mem_cons_self | refine List.mem_cons_of_mem _ ?_ | assumption | exact mem_mid' | exact mem_mid (by assumption))) (by with_reducible rfl) (by (with_reducible repeat first | exact List.mem_cons_self | refine List.mem_cons_of_mem _ ?_ | assumption | exact mem_mid' | exact mem_mid (by assumption))) ?_
  refine SEs_nil ?_
  refine ⟨kp_K (by rw [hK]; rfl), SLC.call (c_wrap3 hK (by (first | decide | exact Nat.le_trans (by assumption) (by decide) | lia | omega)) fun Lg ga2 g2 => ?_)⟩
  refine SS_loc (L := L) rfl rfl (by (with_reducible repeat first | exact List.mem_cons_self | refine List.mem_cons_of_mem _ ?_ | assumption | exact mem_mid' | exact mem_mid (by assumption))) rfl (by (with_reducible repeat first | exact Put.here | exact Put.new | apply Put.there)) (by ((first | (dsimp only [List.map_cons, List.map_nil]; decide +kernel) | (simp only [List.map_cons, List.map_nil]; decide +kernel)))) (by (with_reducible repeat first | assumption | exact Upd.here | exact Upd.mid | apply Upd.there)) ?_
  refine SXs_nil ?_
  refine SXs_nil ?_
  refine hQ _ ga2 g2 (fun st => ∀ (dx f cA AL cS SZ : Addr) (n : Nat), GP3 W src x dx f cA AL cS SZ n [(Lg, Ob.ns (locF x src))] [] st) [(Lg, Ob.ns (locF x src))] (fun st m h => h dx f (L + 5) AL (L + 6) SZ m) ⟨(ga2, .gen g2 (fun st => ∀ (dx f cA AL cS SZ : Addr) (n : Nat), GP3 W src x dx f cA AL cS SZ n [(Lg, Ob.ns (locF x src))] [] st)) :: (Lg, Ob.ns (locF x src)) :: (it4, Ob.it r') :: (stF (W := W) it2 rr L (locT scr rws x src ga2 AS ld rd du) c1 c2 c3 c4 AS A2 SZ src rest AL A2 x dx f ++ own), ?_, ?_⟩
  · dsimp only [stF, locT, List.cons_append, List.nil_append]
    (with_reducible repeat first | exact Wk.refl | exact Wk.nil | refine Wk.keep ObW.refl ?_ | refine Wk.keep (ObW.ns (by (with_reducible repeat first | exact List.Sublist.refl _ | exact List.nil_sublist _ | apply List.Sublist.cons_cons | apply List.Sublist.cons))) ?_ | apply Wk.drop)
  · dsimp only [stF, locT, List.cons_append, List.nil_append]
    (with_reducible repeat first | exact List.Perm.refl _ | refine (Take.perm (by (with_reducible repeat first | exact Take.here | apply Take.there))).trans (List.Perm.cons _ ?_))
theorem S1.mono3 {α β : Type} {R : Heap → β → α → Prop} {f : Value → Sem α} {a : V} {Q Q' : β → Own → Prop} (h : S1 W A R f a own Q) (q : ∀ b o, Q b o → Q' b o) : S1 W A R f a own Q' := fun fz s v H ht r => (h fz s v H ht r).mono q
set_option maxHeartbeats 8000000 in
theorem loop_due (hK : K03 W) {L it2 SZ AL dx f ga : Addr} {g : Nat} {tq : Str} {ts : Scope} {tc : Value} {tb : List Stmt} (hT : txtO (W.K.lookup 129) = some (tq, ts, tc, tb)) (hh : A.handled = none) (hd : A.depth < 350) (hu : A.units < 200) (hfr : A.frames = some [envX tq ts L 129 tc (clsL L)])
    {rr : List V} {scr rws : V} {x src AS : Addr} {r : Rw} {rest sk : List Rw} {asked : List PyData} {c1 c2 c3 c4 : Option V} (hsk : ∀ q ∈ sk, outR q = some []) (hok : RowOk r) (hoa : ∀ d ∈ asked ++ (asksL sk ++ asksR r), Ok 52 d) (hlen : (asked ++ (asksL sk ++ asksR r)).length ≤ 300)
    (n1 : src ≠ f) (n2 : src ≠ SZ) (hs : (SZ == sysModules) = false) {P : GenState → Prop} {go : Own} {m : Nat} (hm : 10 ≤ m) (hP : ∀ st, P st → GP3 W src x dx f (L + 5) AL (L + 6) SZ m go [] st) {Q : Fl → Own → Prop}
    (hQ1 : outR r = some [] → ∀ o, Wk o (stF (W := W) it2 rr L (locT scr rws x src ga AS (sideD r.na r.ca) (sideD r.nb r.cb) (.lst (dueL r))) c1 c2 c3 c4 AS (asked ++ (asksL sk ++ asksR r)) SZ src (sk ++ r :: rest) AL asked x dx f ++ (ga, .gen g P) :: (go ++ own)) → Q .next o)
    (hQ2 : ∀ o ga' g' P' go' m', m ≤ m' + 5 → (∀ st, P' st → GP3 W src x dx f (L + 5) AL (L + 6) SZ m' go' [] st) → Wk o (stF (W := W) it2 rr L (locT scr rws x src ga' AS (sideD r.na r.ca) (sideD r.nb r.cb) (.lst (dueL r))) c1 c2 c3 c4 AS (asked ++ (asksL sk ++ asksR r)) SZ src rest AL (asked ++ (asksL sk ++ asksR r)) x dx f ++ (ga', .gen g' P') :: (go' ++ own)) → Q .next o) :
    SX W A (envX tq ts L 129 tc (clsL L)) (nthS (forB (nthS tb 9)) 2) (stF (W := W) it2 rr L (locT scr rws x src ga AS (sideD r.na r.ca) (sideD r.nb r.cb) (.lst (dueL r))) c1 c2 c3 c4 AS (asked ++ (asksL sk ++ asksR r)) SZ src (sk ++ r :: rest) AL asked x dx f ++ (ga, .gen g P) :: (go ++ own)) Q := by
  have hT0 := hT
  rw [K_of (a := 129) hK rfl] at hT
  change some (_, _, _, _) = _ at hT
  cases hT
  dsimp only [lawS, fdB, fdS, clB, PySem.Challenge.pw_dm0066_03, nthS, forT, forI, forB, forP, ifT, ifB, ifE, ifP]
  obtain ⟨A2, hA2⟩ : ∃ A2, A2 = asked ++ (asksL sk ++ asksR r) := ⟨_, rfl⟩
  have hrec : recursionLimit = 1000 := rfl
  have hcl : cLine = 9900 := rfl
  rw [← hA2] at hoa hlen hQ1 hQ2 ⊢
  dsimp only [stF, locT, List.cons_append, List.nil_append] at hQ1 hQ2 ⊢
  refine SG.wpPost (SX_For hh ?_)
  refine SE_Name ?_ (by decide +kernel)
  refine SN_loc rfl rfl (by (with_reducible repeat first | exact List.mem_cons_self | refine List.mem_cons_of_mem _ ?_ | assumption | exact mem_mid' | exact mem_mid (by assumption))) (by with_reducible rfl) (by (with_reducible repeat first | exact List.mem_cons_self | refine List.mem_cons_of_mem _ ?_ | assumption | exact mem_mid' | exact mem_mid (by assumption))) ?_
  refine it_list fun it4 => ⟨it4, _, _, rfl, rfl, fun l o => (l = (dueL r).map V.dat ∧ o = stF (W := W) it2 rr L (locT scr rws x src ga AS (sideD r.na r.ca) (sideD r.nb r.cb) (.lst (dueL r))) c1 c2 c3 c4 AS A2 SZ src (sk ++ r :: rest) AL asked x dx f ++ (ga, .gen g P) :: (go ++ own)) ∨
      (∃ pend ga' g' P' go' m' o2, l = pend.map V.dat ∧ ((∃ full, outR r = some full ∧ m' + (full.length - pend.length) = m ∧ pend.length ≤ full.length ∧ (∀ d ∈ pend, d ∈ full)) ∨ (pend = [] ∧ m' = m)) ∧ (∀ st, P' st → GP3 W src x dx f (L + 5) AL (L + 6) SZ m' go' pend st) ∧ Wk o o2 ∧ o2.Perm (stF (W := W) it2 rr L (locT scr rws x src ga' AS (sideD r.na r.ca) (sideD r.nb r.cb) (.lst (dueL r))) c1 c2 c3 c4 AS A2 SZ src rest AL A2 x dx f ++ (ga', .gen g' P') :: (go' ++ own))), ?_, ?_, ?_⟩
  · exact .inl ⟨rfl, rfl⟩
  · rintro v r' o (⟨hl, rfl⟩ | ⟨pend, ga', g', P', go', m', o2, hl, hmm, hP', wk, hp⟩)
    · cases ho : outR r with
      | some fl =>
        cases fl with
        | nil => rw [show dueL r = [] by unfold dueL; rw [ho]] at hl; cases hl
        | cons y ys =>
          rw [show dueL r = y :: ys by unfold dueL; rw [ho]] at hl
          obtain ⟨rfl, rfl⟩ : v = V.dat y ∧ r' = ys.map V.dat := by injection hl with h1 h2; exact ⟨h1, h2⟩
          obtain ⟨t, rfl⟩ := out_tup ho y (List.mem_cons_self ..)
          obtain ⟨m1, rfl⟩ : ∃ m1, m = m1 + 1 := ⟨m - 1, by (first | decide | exact Nat.le_trans (by assumption) (by decide) | lia | omega)⟩
          refine turn_yield (as := asksL sk ++ asksR r) hK hT0 hh hd hu hfr (out_ok hok ho _ (List.mem_cons_self ..)) hoa hlen hA2.symm (Stp.go (goes_skip (Goes.row ho) hsk)) n1 n2 hs hP fun o go' wk => ?_
          refine ⟨_, wk, .inr ⟨ys, ga, g, _, go', m1, _, rfl, .inl ⟨_, rfl, ?_, ?_, ?_⟩, fun st h => h, .refl, List.Perm.refl _⟩⟩
          · rw [List.length_cons]; (first | decide | exact Nat.le_trans (by assumption) (by decide) | lia | omega)
          · rw [List.length_cons]; (first | decide | exact Nat.le_trans (by assumption) (by decide) | lia | omega)
          · exact fun d hd => List.mem_cons_of_mem _ hd
      | none =>
        rw [show dueL r = [.str (S [114, 101, 102, 117, 115, 101, 100])] by unfold dueL; rw [ho]] at hl
        obtain ⟨rfl, rfl⟩ : v = V.dat _ ∧ r' = [] := by injection hl with h1 h2; exact ⟨h1, h2⟩
        obtain ⟨m1, rfl⟩ : ∃ m1, m = m1 + 1 := ⟨m - 1, by (first | decide | exact Nat.le_trans (by assumption) (by decide) | lia | omega)⟩
        refine S1.mono3 (turn_fail (Q := fun b o => ∃ o2 o1, Wk o o2 ∧ o2.Perm o1 ∧ turnEnd it4 [] _ _ b o1) (as := asksL sk ++ asksR r) hK hT0 hh hd hu hfr hoa hlen hA2.symm (Stp.go (goes_skip (Goes.fail ho) hsk)) n1 n2 hs hP fun o ga' g' P' go' hP' h => ?_) fun _ _ h => SG.wpPost h
        obtain ⟨o2, wk, hp⟩ := h
        exact ⟨o2, _, wk, hp, ⟨_, .refl, .inr ⟨[], ga', g', P', go', m1 + 1, _, rfl, .inr ⟨rfl, rfl⟩, fun st h => hP' st _ h, .refl, List.Perm.refl _⟩⟩⟩
    · cases pend with
      | nil => cases hl
      | cons y ys =>
        obtain ⟨rfl, rfl⟩ : v = V.dat y ∧ r' = ys.map V.dat := by injection hl with h1 h2; exact ⟨h1, h2⟩
        rcases hmm with ⟨full, ho, h1, h2, h3⟩ | ⟨h, _⟩
        · obtain ⟨t, rfl⟩ := out_tup ho y (h3 _ (List.mem_cons_self ..))
          have hl4 := row_len ho
          rw [List.length_cons] at h1 h2
          obtain ⟨m1, rfl⟩ : ∃ m1, m' = m1 + 1 := ⟨m' - 1, by (first | decide | exact Nat.le_trans (by assumption) (by decide) | lia | omega)⟩
          refine S1.wk (Wk.keep .refl wk) (S1.perm (hp.cons _) (turn_yield (as := []) hK hT0 hh hd hu hfr (out_ok hok ho _ (h3 _ (List.mem_cons_self ..))) hoa hlen (List.append_nil _) Stp.pend n1 n2 hs hP' fun o go' wk => ?_))
          refine ⟨_, wk, .inr ⟨ys, ga', g', _, go', m1, _, rfl, .inl ⟨_, ho, ?_, ?_, ?_⟩, fun st h => h, .refl, List.Perm.refl _⟩⟩
          · (first | decide | exact Nat.le_trans (by assumption) (by decide) | lia | omega)
          · (first | decide | exact Nat.le_trans (by assumption) (by decide) | lia | omega)
          · exact fun d hd => h3 _ (List.mem_cons_of_mem _ hd)
        · cases h
  · rintro o (⟨hl, rfl⟩ | ⟨pend, ga', g', P', go', m', o2, hl, hmm, hP', wk, hp⟩)
    · have e : outR r = some [] := by
        unfold dueL at hl
        cases ho : outR r with
        | none => rw [ho] at hl; cases hl
        | some l => rw [ho] at hl; cases l with
          | nil => rfl
          | cons _ _ => cases hl
      exact ⟨_, _, .refl, List.Perm.refl _, hQ1 e _ .refl⟩
    · have e : pend = [] := by cases pend with | nil => rfl | cons _ _ => cases hl
      subst e
      refine ⟨_, _, wk, hp, hQ2 _ ga' g' P' go' m' ?_ hP' .refl⟩
      rcases hmm with ⟨full, ho, h, _, _⟩ | ⟨_, h⟩
      · have := row_len ho; rw [List.length_nil] at h; (first | decide | exact Nat.le_trans (by assumption) (by decide) | lia | omega)
      · (first | decide | exact Nat.le_trans (by assumption) (by decide) | lia | omega)
noncomputable abbrev locB (scr rws : V) (x src ga AS : Addr) : List (Str × V) := [(Str.ofString "script", scr), (Str.ofString "rows", rws), (Str.ofString "sheet", .ref x), (Str.ofString "source", .ref src), (Str.ofString "flow", .ref ga), (Str.ofString "asks", .ref AS)]
theorem tgt_main (hK : K03 W) {L it2 : Addr} {tq : Str} {ts : Scope} {tc : Value} {tb : List Stmt} (hT : txtO (W.K.lookup 129) = some (tq, ts, tc, tb)) (hh : A.handled = none) {rr : List V} {scr rws : V} {x src ga AS : Addr} {r : Rw} {c1 c2 c3 c4 : Option V} {Q : Own → Prop}
    (hQ : Q ((it2, Ob.it rr) :: (L, Ob.ns (locS scr rws x src ga AS (sideD r.na r.ca) (sideD r.nb r.cb))) :: (L + 4, Ob.cell c4) :: (L + 3, Ob.cell c3) :: (L + 2, Ob.cell c2) :: (L + 1, Ob.cell (some (.dat r.flag))) :: own)) :
    SA W A (envX tq ts L 129 tc (clsL L)) (forT (nthS tb 9)) (.dat (rD r)) ((it2, Ob.it rr) :: (L, Ob.ns (locB scr rws x src ga AS)) :: (L + 4, Ob.cell c4) :: (L + 3, Ob.cell c3) :: (L + 2, Ob.cell c2) :: (L + 1, Ob.cell c1) :: own) Q := by
  rw [K_of (a := 129) hK rfl] at hT
  change some (_, _, _, _) = _ at hT
  cases hT
  dsimp only [lawS, fdB, fdS, clB, PySem.Challenge.pw_dm0066_03, nthS, forT, forI, forB, forP, ifT, ifB, ifE, ifP]
  dsimp only [locB, locS] at hQ ⊢
  refine SA_Tuple hh rfl ?_
  refine SAs_cons ?_
  refine SA_Name ?_
  refine SS_loc rfl rfl (by (with_reducible repeat first | exact List.mem_cons_self | refine List.mem_cons_of_mem _ ?_ | assumption | exact mem_mid' | exact mem_mid (by assumption))) (by with_reducible rfl) (by (with_reducible repeat first | exact Put.here | exact Put.new | apply Put.there)) (by ((first | (dsimp only [List.map_cons, List.map_nil]; decide +kernel) | (simp only [List.map_cons, List.map_nil]; decide +kernel)))) (by (with_reducible repeat first | assumption | exact Upd.here | exact Upd.mid | apply Upd.there)) ?_
  refine SAs_cons ?_
  refine SA_Name ?_
  refine SS_loc rfl rfl (by (with_reducible repeat first | exact List.mem_cons_self | refine List.mem_cons_of_mem _ ?_ | assumption | exact mem_mid' | exact mem_mid (by assumption))) (by with_reducible rfl) (by (with_reducible repeat first | exact Put.here | exact Put.new | apply Put.there)) (by ((first | (dsimp only [List.map_cons, List.map_nil]; decide +kernel) | (simp only [List.map_cons, List.map_nil]; decide +kernel)))) (by (with_reducible repeat first | assumption | exact Upd.here | exact Upd.mid | apply Upd.there)) ?_
  refine SAs_cons ?_
  refine SA_Name ?_
  refine SS_cell rfl rfl rfl (by (with_reducible repeat first | assumption | exact Upd.here | exact Upd.mid | apply Upd.there)) ?_
  refine SAs_nil ?_
  exact hQ
theorem tb_drop (hK : K03 W) {tq : Str} {ts : Scope} {tc : Value} {tb : List Stmt} (hT : txtO (W.K.lookup 129) = some (tq, ts, tc, tb)) : (forB (nthS tb 9)).drop 2 = [nthS (forB (nthS tb 9)) 2] := by
  rw [K_of (a := 129) hK rfl] at hT
  change some (_, _, _, _) = _ at hT
  cases hT
  rfl
theorem turn_main (hK : K03 W) {L it2 SZ AL dx f ga : Addr} {g : Nat} {tq : Str} {ts : Scope} {tc : Value} {tb : List Stmt} (hT : txtO (W.K.lookup 129) = some (tq, ts, tc, tb)) (hh : A.handled = none) (hd : A.depth < 350) (hu : A.units < 200) (hfr : A.frames = some [envX tq ts L 129 tc (clsL L)])
    {rr : List V} {scr rws : V} {x src AS : Addr} {r : Rw} {rest sk : List Rw} {asked : List PyData} {c1 c2 c3 c4 : Option V} (hsk : ∀ q ∈ sk, outR q = some []) (hok : RowOk r) (hca : 97 ≤ r.ca ∧ r.ca ≤ 101) (hcb : 97 ≤ r.cb ∧ r.cb ≤ 101) (hoa : ∀ d ∈ asked ++ (asksL sk ++ asksR r), Ok 52 d) (hlen : (asked ++ (asksL sk ++ asksR r)).length ≤ 300)
    (n1 : src ≠ f) (n2 : src ≠ SZ) (hs : (SZ == sysModules) = false) {P : GenState → Prop} {go : Own} {m : Nat} (hm : 10 ≤ m) (hP : ∀ st, P st → GP3 W src x dx f (L + 5) AL (L + 6) SZ m go [] st) {Q : Fl → Own → Prop}
    (hQ1 : outR r = some [] → ∀ o c1 c2 c3 c4, Wk o (stF (W := W) it2 rr L (locB scr rws x src ga AS) c1 c2 c3 c4 AS (asked ++ (asksL sk ++ asksR r)) SZ src (sk ++ r :: rest) AL asked x dx f ++ (ga, .gen g P) :: (go ++ own)) → Q .next o)
    (hQ2 : ∀ o ga' g' P' go' m' c1 c2 c3 c4, m ≤ m' + 5 → (∀ st, P' st → GP3 W src x dx f (L + 5) AL (L + 6) SZ m' go' [] st) → Wk o (stF (W := W) it2 rr L (locB scr rws x src ga' AS) c1 c2 c3 c4 AS (asked ++ (asksL sk ++ asksR r)) SZ src rest AL (asked ++ (asksL sk ++ asksR r)) x dx f ++ (ga', .gen g' P') :: (go' ++ own)) → Q .next o) :
    SA W A (envX tq ts L 129 tc (clsL L)) (forT (nthS tb 9)) (.dat (rD r)) (stF (W := W) it2 rr L (locB scr rws x src ga AS) c1 c2 c3 c4 AS (asked ++ asksL sk) SZ src (sk ++ r :: rest) AL asked x dx f ++ (ga, .gen g P) :: (go ++ own)) fun o1 => SXs W A (envX tq ts L 129 tc (clsL L)) (forB (nthS tb 9)) o1 Q := by
  have hl1 : (asked ++ asksL sk).length ≤ 300 := by
    rw [List.length_append, List.length_append] at hlen
    rw [List.length_append]; (first | decide | exact Nat.le_trans (by assumption) (by decide) | lia | omega)
  refine tgt_main hK hT hh ?_
  refine SXs_splitAt 2 ?_
  refine turn_due hK hT hh hl1 hca hcb fun o c2' c3' c4' wk => ?_
  show SXs W A _ _ o Q
  rw [tb_drop hK hT]
  refine SG.wk wk ?_
  rw [List.append_assoc]
  refine SXs_cons (loop_due (ga := ga) (g := g) (P := P) (go := go) (own := own) hK hT hh hd hu hfr hsk hok hoa hlen n1 n2 hs hm hP ?_ ?_)
  · intro e o wk
    refine SXs_nil (hQ1 e o (some (.dat r.flag)) c2' c3' c4' (wk.trans ?_))
    dsimp only [stF, locT, locB, List.cons_append, List.nil_append]
    (with_reducible repeat first | exact Wk.refl | exact Wk.nil | refine Wk.keep ObW.refl ?_ | refine Wk.keep (ObW.ns (by (with_reducible repeat first | exact List.Sublist.refl _ | exact List.nil_sublist _ | apply List.Sublist.cons_cons | apply List.Sublist.cons))) ?_ | apply Wk.drop)
  · intro o ga' g' P' go' m' hm' hP' wk
    refine SXs_nil (hQ2 o ga' g' P' go' m' (some (.dat r.flag)) c2' c3' c4' hm' hP' (wk.trans ?_))
    dsimp only [stF, locT, locB, List.cons_append, List.nil_append]
    (with_reducible repeat first | exact Wk.refl | exact Wk.nil | refine Wk.keep ObW.refl ?_ | refine Wk.keep (ObW.ns (by (with_reducible repeat first | exact List.Sublist.refl _ | exact List.nil_sublist _ | apply List.Sublist.cons_cons | apply List.Sublist.cons))) ?_ | apply Wk.drop)
theorem SE_And2 {x y : Expr} {pos : Pos} {Q : V → Own → Prop} (h : SE W A env x own fun a o1 => S1 W A RB truthy a o1 fun c o2 => c = true ∧ SE W A env y o2 Q) : SE W A env (.BoolOp .And [x, y] pos) own Q := fun fz s H ht => by
  refine BoolOp_and (wp_then (h fz s H ht) ht fun fz1 va a o1 s1 k1 H1 t1 r1 q1 => wp_then (q1 fz1 s1 va H1 t1 r1) t1 fun fz2 vb b o2 s2 k2 H2 t2 r2 q2 => ?_)
  obtain ⟨rfl, q2⟩ := q2
  subst r2
  exact BoolOp_one ((q2 fz2 s2 H2 t2).weak (k1.trans k2))
noncomputable abbrev stT (L : Addr) (loc : List (Str × V)) (c1 c2 c3 c4 : Option V) (AS : Addr) (asks : List PyData) (SZ src : Addr) (rs : List Rw) (AL : Addr) (asked : List PyData) (x dx f : Addr) : Own :=
  [(L, Ob.ns loc), (L + 4, Ob.cell c4), (L + 3, Ob.cell c3), (L + 2, Ob.cell c2), (L + 1, Ob.cell c1), (AS, Ob.list (asks.map V.dat)), (L + 6, Ob.cell (some (.ref SZ))), (SZ, Ob.prop (DicP W.prog W.w szF)), (src, obI rs), (AL, obA asked), (x, Ob.obj (instObj 113 dx)), (dx, Ob.att (attL f)), (f, lamOb (L + 5) (L + 6)), (L + 5, Ob.cell (some (.ref AL)))]
theorem end_main (hK : K03 W) {L SZ AL dx f ga : Addr} {g : Nat} {tq : Str} {ts : Scope} {tc : Value} {tb : List Stmt} (hT : txtO (W.K.lookup 129) = some (tq, ts, tc, tb)) (hh : A.handled = none) (hd : A.depth < 350) (hu : A.units < 200) (hfr : A.frames = some [envX tq ts L 129 tc (clsL L)])
    {scr rws : V} {x src AS : Addr} {sk : List Rw} {asked A2 : List PyData} {c1 c2 c3 c4 : Option V} (hsk : ∀ q ∈ sk, outR q = some []) (hA2 : asked ++ (asksL sk ++ []) = A2) (hoa : ∀ d ∈ A2, Ok 52 d) (hlen : A2.length ≤ 300)
    (n1 : src ≠ f) (n2 : src ≠ SZ) (hs : (SZ == sysModules) = false) {P : GenState → Prop} {go : Own} {m : Nat} (hP : ∀ st, P st → GP3 W src x dx f (L + 5) AL (L + 6) SZ (m + 1) go [] st) {Q : Fl → Own → Prop}
    (hQ : ∀ o, Wk o own → Q (.ret (.bool true)) o) :
    SX W A (envX tq ts L 129 tc (clsL L)) (nthS tb 10) (stT (W := W) L (locB scr rws x src ga AS) c1 c2 c3 c4 AS A2 SZ src (sk ++ []) AL asked x dx f ++ (ga, .gen g P) :: (go ++ own)) Q := by
  rw [K_of (a := 129) hK rfl] at hT
  change some (_, _, _, _) = _ at hT
  cases hT
  dsimp only [lawS, fdB, fdS, clB, PySem.Challenge.pw_dm0066_03, nthS, forT, forI, forB, forP, ifT, ifB, ifE, ifP]
  have hrec : recursionLimit = 1000 := rfl
  have hcl : cLine = 9900 := rfl
  dsimp only [stT, locB, List.cons_append, List.nil_append]
  refine SX_Return ?_
  refine SE_And2 ?_
  refine SE_Compare ?_
  refine SE_Call ?_
  refine SE_Name ?_ (by decide +kernel)
  refine SN_global rfl rfl rfl (nsIn_of (by assumption) rfl) ?_
  with_reducible refine ⟨_, rfl, ?_⟩
  refine SEs_cons ?_
  refine SE_Name ?_ (by decide +kernel)
  refine SN_loc rfl rfl (by (with_reducible repeat first | exact List.mem_cons_self | refine List.mem_cons_of_mem _ ?_ | assumption | exact mem_mid' | exact mem_mid (by assumption))) (by with_reducible rfl) (by (with_reducible repeat first | exact List.mem_cons_self | refine List.mem_cons_of_mem _ ?_ | assumption | exact mem_mid' | exact mem_mid (by assumption))) ?_
  refine SEs_nil ?_
  refine ⟨kp_K (by rw [hK]; rfl), SLC.call ((c_nextL (ga := ga) (g := g) (P := P) (go := go) (own0 := own) (n := m) (as := asksL sk ++ []) (res := .over) (rs := sk ++ []) (front := [(L, Ob.ns (locB scr rws x src ga AS)), (L + 4, Ob.cell c4), (L + 3, Ob.cell c3), (L + 2, Ob.cell c2), (L + 1, Ob.cell c1), (AS, Ob.list (A2.map V.dat)), (L + 6, Ob.cell (some (.ref SZ))), (SZ, Ob.prop (DicP W.prog W.w szF)), (src, obI (sk ++ [])), (AL, obA asked), (x, Ob.obj (instObj 113 dx)), (dx, Ob.att (attL f)), (f, lamOb (L + 5) (L + 6)), (L + 5, Ob.cell (some (.ref AL)))])
    hK hh (by (first | decide | exact Nat.le_trans (by assumption) (by decide) | lia | omega)) hfr ⟨(fun e => nomatch e), ⟨L, _, rfl, by (with_reducible repeat first | exact List.mem_cons_self | refine List.mem_cons_of_mem _ ?_ | assumption | exact mem_mid' | exact mem_mid (by assumption))⟩, trivial⟩ (by (with_reducible repeat first | exact List.mem_cons_self | refine List.mem_cons_of_mem _ ?_ | assumption | exact mem_mid' | exact mem_mid (by assumption))) (by (with_reducible repeat first | exact List.mem_cons_self | refine List.mem_cons_of_mem _ ?_ | assumption | exact mem_mid' | exact mem_mid (by assumption))) (by (with_reducible repeat first | exact List.mem_cons_self | refine List.mem_cons_of_mem _ ?_ | assumption | exact mem_mid' | exact mem_mid (by assumption))) (by (with_reducible repeat first | exact List.mem_cons_self | refine List.mem_cons_of_mem _ ?_ | assumption | exact mem_mid' | exact mem_mid (by assumption))) (by (with_reducible repeat first | exact List.mem_cons_self | refine List.mem_cons_of_mem _ ?_ | assumption | exact mem_mid' | exact mem_mid (by assumption))) (by (with_reducible repeat first | exact List.mem_cons_self | refine List.mem_cons_of_mem _ ?_ | assumption | exact mem_mid' | exact mem_mid (by assumption))) (by (with_reducible repeat first | exact List.mem_cons_self | refine List.mem_cons_of_mem _ ?_ | assumption | exact mem_mid' | exact mem_mid (by assumption))) (by (with_reducible repeat first | exact List.mem_cons_self | refine List.mem_cons_of_mem _ ?_ | assumption | exact mem_mid' | exact mem_mid (by assumption))) n1 n2 hs hP (by rw [← hA2, List.length_append] at hlen; (first | decide | exact Nat.le_trans (by assumption) (by decide) | lia | omega)) (Stp.go (goes_skip Goes.over hsk)) (by (with_reducible repeat first | assumption | exact Upd.here | exact Upd.mid | apply Upd.there)) (by (with_reducible repeat first | assumption | exact Upd.here | exact Upd.mid | apply Upd.there))).mono ?_)⟩
  rintro v o ⟨rfl, rfl⟩
  rw [hA2]
  dsimp only [restOf, List.cons_append, List.nil_append]
  refine SE_strL (by (first | exact l03_0 | exact l03_1 | exact l03_2 | exact l03_3 | exact l03_4 | exact l03_5 | exact l03_6 | exact l03_7 | exact l03_8 | exact l03_9 | exact l03_10)) ?_
  with_reducible refine cmp_eqSS ?_
  with_reducible refine tr_bool ?_
  refine ⟨rfl, ?_⟩
  refine SE_Compare ?_
  refine SE_Name ?_ (by decide +kernel)
  refine SN_cell rfl rfl rfl (by (with_reducible repeat first | exact List.mem_cons_self | refine List.mem_cons_of_mem _ ?_ | assumption | exact mem_mid' | exact mem_mid (by assumption))) ?_
  refine SE_Name ?_ (by decide +kernel)
  refine SN_loc rfl rfl (by (with_reducible repeat first | exact List.mem_cons_self | refine List.mem_cons_of_mem _ ?_ | assumption | exact mem_mid' | exact mem_mid (by assumption))) (by with_reducible rfl) (by (with_reducible repeat first | exact List.mem_cons_self | refine List.mem_cons_of_mem _ ?_ | assumption | exact mem_mid' | exact mem_mid (by assumption))) ?_
  refine cmp_eqOO (ds := A2) (by (with_reducible repeat first | exact List.mem_cons_self | refine List.mem_cons_of_mem _ ?_ | assumption | exact mem_mid' | exact mem_mid (by assumption))) (by (with_reducible repeat first | exact List.mem_cons_self | refine List.mem_cons_of_mem _ ?_ | assumption | exact mem_mid' | exact mem_mid (by assumption))) (ok_list (n := 59) fun d hd => (hoa d hd).mono (by decide)) (by (first | decide | exact Nat.le_trans (by assumption) (by decide) | lia | omega)) ?_
  refine hQ _ ?_
  (with_reducible repeat first | exact Wk.refl | exact Wk.nil | refine Wk.keep ObW.refl ?_ | refine Wk.keep (ObW.ns (by (with_reducible repeat first | exact List.Sublist.refl _ | exact List.nil_sublist _ | apply List.Sublist.cons_cons | apply List.Sublist.cons))) ?_ | apply Wk.drop)
structure RB3 (r : Rw) : Prop where
  ok : RowOk r
  ca : 97 ≤ r.ca ∧ r.ca ≤ 101
  cb : 97 ≤ r.cb ∧ r.cb ≤ 101
theorem rowOf_b (j : Nat) (x : Int) : RB3 (rowOf j x) := by
  refine ⟨rowOf_ok j x, ?_, ?_⟩
  · show 97 ≤ 97 + (x % 5).toNat ∧ 97 + (x % 5).toNat ≤ 101
    (first | decide | exact Nat.le_trans (by assumption) (by decide) | lia | omega)
  · show 97 ≤ 97 + (x / 5 % 5).toNat ∧ 97 + (x / 5 % 5).toNat ≤ 101
    (first | decide | exact Nat.le_trans (by assumption) (by decide) | lia | omega)
theorem rowsAt_b : ∀ (j : Nat) (xs : List Int), ∀ r ∈ rowsAt j xs, RB3 r
  | _, [], r, h => nomatch h
  | j, x :: xs, r, h => by
    rcases List.mem_cons.mp h with rfl | h
    · exact rowOf_b j x
    · exact rowsAt_b (j + 1) xs r h
theorem loop_main (hK : K03 W) {L SZ AL dx f ga : Addr} {g : Nat} {tq : Str} {ts : Scope} {tc : Value} {tb : List Stmt} (hT : txtO (W.K.lookup 129) = some (tq, ts, tc, tb)) (hh : A.handled = none) (hd : A.depth < 350) (hu : A.units < 200) (hfr : A.frames = some [envX tq ts L 129 tc (clsL L)])
    {scr : V} {x src AS : Addr} {rs : List Rw} {c1 c2 c3 c4 : Option V} (hrs : rs.length ≤ 72) (hok : ∀ r ∈ rs, RB3 r)
    (n1 : src ≠ f) (n2 : src ≠ SZ) (hs : (SZ == sysModules) = false) {P : GenState → Prop} {go : Own} (hP : ∀ st m, P st → GP3 W src x dx f (L + 5) AL (L + 6) SZ m go [] st) {Q : Fl → Own → Prop}
    (hQ : ∀ o ga g P go m sk asked c1 c2 c3 c4, (∀ q ∈ sk, outR q = some []) → (∀ d ∈ asked ++ (asksL sk ++ []), Ok 52 d) → (asked ++ (asksL sk ++ [])).length ≤ 300 → (∀ st, P st → GP3 W src x dx f (L + 5) AL (L + 6) SZ (m + 1) go [] st) →
      Wk o (stT (W := W) L (locB scr (.lst (rs.map rD)) x src ga AS) c1 c2 c3 c4 AS (asked ++ (asksL sk ++ [])) SZ src (sk ++ []) AL asked x dx f ++ (ga, .gen g P) :: (go ++ own)) → Q .next o) :
    SX W A (envX tq ts L 129 tc (clsL L)) (nthS tb 9) (stT (W := W) L (locB scr (.lst (rs.map rD)) x src ga AS) c1 c2 c3 c4 AS [] SZ src rs AL [] x dx f ++ (ga, .gen g P) :: (go ++ own)) Q := by
  have hT0 := hT
  rw [K_of (a := 129) hK rfl] at hT
  change some (_, _, _, _) = _ at hT
  cases hT
  have e : ∃ p1 p2, nthS (fdB (lawS 10)) 9 = .For (forT (nthS (fdB (lawS 10)) 9)) (.Name (Str.ofString "rows") p1) (forB (nthS (fdB (lawS 10)) 9)) [] p2 := ⟨_, _, rfl⟩
  obtain ⟨p1, p2, e⟩ := e
  rw [e]
  obtain ⟨rws, hrw⟩ : ∃ rws, rws = V.lst (rs.map rD) := ⟨_, rfl⟩
  rw [← hrw] at hQ ⊢
  refine SX_For hh ?_
  dsimp only [stT, locB, List.cons_append, List.nil_append]
  refine SE_Name ?_ (by decide +kernel)
  refine SN_loc (L := L) rfl rfl (by (with_reducible repeat first | exact List.mem_cons_self | refine List.mem_cons_of_mem _ ?_ | assumption | exact mem_mid' | exact mem_mid (by assumption))) rfl (by (with_reducible repeat first | exact List.mem_cons_self | refine List.mem_cons_of_mem _ ?_ | assumption | exact mem_mid' | exact mem_mid (by assumption))) ?_
  rw [hrw]
  refine it_list fun it2 => ⟨it2, _, _, rfl, rfl, fun l o => ∃ (rest sk : List Rw) (asked : List PyData) (ga : Addr) (g : Nat) (P : GenState → Prop) (go : Own) (m : Nat) (c1 c2 c3 c4 : Option V), l = (rest.map rD).map V.dat ∧ (∀ r ∈ rest, RB3 r) ∧ (∀ q ∈ sk, outR q = some []) ∧
    (∀ d ∈ asked ++ asksL sk, Ok 52 d) ∧ (asked ++ asksL sk).length + 2 * rest.length ≤ 200 ∧ 5 * rest.length + 10 ≤ m ∧ (∀ st, P st → GP3 W src x dx f (L + 5) AL (L + 6) SZ m go [] st) ∧
    Wk o (stT (W := W) L (locB scr rws x src ga AS) c1 c2 c3 c4 AS (asked ++ asksL sk) SZ src (sk ++ rest) AL asked x dx f ++ (ga, .gen g P) :: (go ++ own)), ?_, ?_, ?_⟩
  · exact ⟨rs, [], [], ga, g, P, go, 5 * rs.length + 10, c1, c2, c3, c4, rfl, hok, (fun q h => nomatch h), (fun d h => nomatch h), by simp only [asksL, List.flatMap_nil, List.append_nil, List.length_nil]; (first | decide | exact Nat.le_trans (by assumption) (by decide) | lia | omega), Nat.le_refl _, fun st h => hP st _ h, by rw [hrw]; exact .refl⟩
  · rintro v r' o ⟨rest, sk, asked, ga, g, P, go, m, c1, c2, c3, c4, hl, hb, hsk, hoa, hlen, hm, hP, wk⟩
    cases rest with
    | nil => cases hl
    | cons r rest =>
      obtain ⟨rfl, rfl⟩ : v = V.dat (rD r) ∧ r' = (rest.map rD).map V.dat := by injection hl with h1 h2; exact ⟨h1, h2⟩
      have hr := hb r List.mem_cons_self
      have hb' : ∀ r ∈ rest, RB3 r := fun q hq => hb q (List.mem_cons_of_mem _ hq)
      have hl2 : (asksR r).length ≤ 2 := by
        have := asksL_len [r]
        unfold asksL at this
        rw [List.flatMap_cons, List.flatMap_nil, List.append_nil] at this
        exact this
      have hoa' : ∀ d ∈ asked ++ (asksL sk ++ asksR r), Ok 52 d := fun d hd => by
        rw [← List.append_assoc] at hd
        rcases List.mem_append.mp hd with hd | hd
        · exact hoa d hd
        · exact asks_ok hr.ok d hd
      have hlen' : (asked ++ (asksL sk ++ asksR r)).length + 2 * rest.length ≤ 200 := by
        rw [← List.append_assoc, List.length_append]
        rw [List.length_cons] at hlen
        (first | decide | exact Nat.le_trans (by assumption) (by decide) | lia | omega)
      rw [List.length_cons] at hm
      refine S1.wk (Wk.keep .refl wk) (turn_main (it2 := it2) (ga := ga) (g := g) (P := P) (go := go) (own := own) hK hT0 hh hd hu hfr hsk hr.ok hr.ca hr.cb hoa' (by (first | decide | exact Nat.le_trans (by assumption) (by decide) | lia | omega)) n1 n2 hs (by (first | decide | exact Nat.le_trans (by assumption) (by decide) | lia | omega)) hP ?_ ?_)
      · intro e0 o c1 c2 c3 c4 wk
        refine ⟨_, wk, rest, sk ++ [r], asked, ga, g, P, go, m, c1, c2, c3, c4, rfl, hb', ?_, ?_, ?_, by (first | decide | exact Nat.le_trans (by assumption) (by decide) | lia | omega), hP, ?_⟩
        · intro q hq
          rcases List.mem_append.mp hq with hq | hq
          · exact hsk q hq
          · rw [List.mem_singleton.mp hq]; exact e0
        · rw [asksL_snoc]; exact hoa'
        · rw [asksL_snoc]; exact hlen'
        · rw [asksL_snoc, List.append_assoc]; exact .refl
      · intro o ga' g' P' go' m' c1 c2 c3 c4 hm' hP' wk
        refine ⟨_, wk, rest, [], asked ++ (asksL sk ++ asksR r), ga', g', P', go', m', c1, c2, c3, c4, rfl, hb', (fun q h => nomatch h), ?_, ?_, by (first | decide | exact Nat.le_trans (by assumption) (by decide) | lia | omega), hP', ?_⟩
        · rw [show asksL [] = [] from rfl, List.append_nil]; exact hoa'
        · rw [show asksL [] = [] from rfl, List.append_nil]; exact hlen'
        · rw [show asksL [] = [] from rfl, List.append_nil]; exact .refl
  · rintro o ⟨rest, sk, asked, ga, g, P, go, m, c1, c2, c3, c4, hl, hb, hsk, hoa, hlen, hm, hP, wk⟩
    have e : rest = [] := by cases rest with | nil => rfl | cons _ _ => cases hl
    subst e
    obtain ⟨m1, rfl⟩ : ∃ m1, m = m1 + 1 := ⟨m - 1, by (first | decide | exact Nat.le_trans (by assumption) (by decide) | lia | omega)⟩
    refine hQ o ga g P go m1 sk asked c1 c2 c3 c4 hsk ?_ ?_ hP ?_
    · rw [List.append_nil]; exact hoa
    · rw [List.append_nil]; (first | decide | exact Nat.le_trans (by assumption) (by decide) | lia | omega)
    · rw [List.append_nil (asksL sk)]; exact wk
theorem loop_rows (hK : K03 W) {L D : Addr} {cl : List (Str × Addr)} {tq : Str} {ts : Scope} {tc : Value} {tb : List Stmt} (hT : txtO (W.K.lookup 129) = some (tq, ts, tc, tb)) (hh : A.handled = none) {xs : List Int} (hn : xs.length ≤ 63) {Q : Fl → Own → Prop}
    (hQ : ∀ o, Wk o ((D, Ob.list (((rowsAt 0 (xs ++ [7, 44, 21, 16, 75, 52, 13])).map rD).map V.dat)) :: (L, Ob.ns [(Str.ofString "script", .lst (xs.map .int)), (Str.ofString "rows", .ref D)]) :: own) → Q .next o) :
    SX W A (envX tq ts L 129 tc cl) (nthS tb 2) ((D, Ob.list []) :: (L, Ob.ns [(Str.ofString "script", .lst (xs.map .int)), (Str.ofString "rows", .ref D)]) :: own) Q := by
  have hT0 := hT
  rw [K_of (a := 129) hK rfl] at hT
  change some (_, _, _, _) = _ at hT
  cases hT
  dsimp only [lawS, fdB, fdS, clB, PySem.Challenge.pw_dm0066_03, nthS, forT, forI, forB, forP, ifT, ifB, ifE, ifP]
  refine SX_For hh ?_
  refine SE_BinOp ?_
  refine SE_Name ?_ (by decide +kernel)
  refine SN_loc rfl rfl (by (with_reducible repeat first | exact List.mem_cons_self | refine List.mem_cons_of_mem _ ?_ | assumption | exact mem_mid' | exact mem_mid (by assumption))) (by with_reducible rfl) (by (with_reducible repeat first | exact List.mem_cons_self | refine List.mem_cons_of_mem _ ?_ | assumption | exact mem_mid' | exact mem_mid (by assumption))) ?_
  refine SE_ListF ?_
  refine SEs_cons ?_
  refine SE_int ?_
  refine SEs_cons ?_
  refine SE_int ?_
  refine SEs_cons ?_
  refine SE_int ?_
  refine SEs_cons ?_
  refine SE_int ?_
  refine SEs_cons ?_
  refine SE_int ?_
  refine SEs_cons ?_
  refine SE_int ?_
  refine SEs_cons ?_
  refine SE_int ?_
  refine SEs_nil ?_
  with_reducible refine ⟨_, by with_reducible ((first | exact AllDat.map _ | repeat first | exact AllDat.nil | with_reducible apply AllDat.cons)), by ((rw [sizeLine_eq]; simp)), ?_⟩
  refine op_addL (by rw [sizeLine_eq]; simp only [List.length_map, List.length_cons, List.length_nil]; (first | decide | exact Nat.le_trans (by assumption) (by decide) | lia | omega)) ?_
  rw [show xs.map PyData.int ++ [PyData.int 7, PyData.int 44, PyData.int 21, PyData.int 16, PyData.int 75, PyData.int 52, PyData.int 13] = (xs ++ [7, 44, 21, 16, 75, 52, 13]).map PyData.int by rw [List.map_append]; rfl]
  have hys : (xs ++ [7, 44, 21, 16, 75, 52, 13]).length ≤ 70 := by rw [List.length_append]; (first | dsimp only [List.length_cons, List.length_nil] | simp only [List.length_cons, List.length_nil]); (first | decide | exact Nat.le_trans (by assumption) (by decide) | lia | omega)
  generalize xs ++ [7, 44, 21, 16, 75, 52, 13] = ys at hys hQ ⊢
  refine it_list fun it => ⟨it, _, _, rfl, rfl, fun l o => ∃ dn rem : List Int, ys = dn ++ rem ∧ l = (rem.map PyData.int).map V.dat ∧ Wk o ((D, Ob.list (((rowsAt 0 dn).map rD).map V.dat)) :: (L, Ob.ns [(Str.ofString "script", .lst (xs.map .int)), (Str.ofString "rows", .ref D)]) :: own), ?_, ?_, ?_⟩
  · exact ⟨[], ys, rfl, rfl, .refl⟩
  · rintro v r' o ⟨dn, rem, hd, hl, wk⟩
    cases rem with
    | nil => cases hl
    | cons y rem =>
      obtain ⟨rfl, rfl⟩ : v = V.dat (.int y) ∧ r' = (rem.map PyData.int).map V.dat := by injection hl with h1 h2; exact ⟨h1, h2⟩
      have hdl : dn.length ≤ 70 := by rw [hd, List.length_append] at hys; (first | decide | exact Nat.le_trans (by assumption) (by decide) | lia | omega)
      refine S1.wk (Wk.keep .refl wk) (turn_rows hK hT0 hh (rs := rowsAt 0 dn) (by rw [rowsAt_len]; (first | decide | exact Nat.le_trans (by assumption) (by decide) | lia | omega)) fun o wk => ⟨_, wk, dn ++ [y], rem, by rw [hd, List.append_assoc]; rfl, rfl, ?_⟩)
      rw [rowsAt_snoc, rowsAt_len, Nat.zero_add]
      exact .refl
  · rintro o ⟨dn, rem, hd, hl, wk⟩
    have e : rem = [] := by cases rem with | nil => rfl | cons _ _ => cases hl
    subst e
    rw [List.append_nil] at hd
    subst hd
    exact hQ o wk
noncomputable abbrev lamPos : Pos := ⟨111, 24, 111, 167⟩
theorem SE_lam03 (hK : K03 W) {L : Addr} {tq : Str} {ts : Scope} {tc : Value} {tb : List Stmt} (hT : txtO (W.K.lookup 129) = some (tq, ts, tc, tb)) {Q : V → Own → Prop} (htab : (126, Ob.prop (TabP lamPos lamQ)) ∈ own) (h : ∀ f, Q (.ref f) ((f, lamOb (L + 5) (L + 6)) :: own)) :
    SE W A (envX tq ts L 129 tc (clsL L)) lamE own Q := by
  rw [K_of (a := 129) hK rfl] at hT
  change some (_, _, _, _) = _ at hT
  cases hT
  have e : lamE = .Lambda (laA lamE) (laB lamE) (laS lamE) lamPos := rfl
  rw [e]
  exact SE_Lambda (qual := lamQ) (by kernel_rfl) (make_lam (c := 128) (P := 126) (clos := [(Str.ofString "sizes", L + 6), (Str.ofString "asked", L + 5)]) rfl rfl rfl (by rw [hK]; kernel_rfl) (Upd.self htab) h)
noncomputable abbrev attC (m : Int) : List (Str × V) := [(Str.ofString "_tabsize", V.int 8), (Str.ofString "_wrapcolumn", V.int m), (Str.ofString "_linejunk", V.none), (Str.ofString "_charjunk", V.ref 29)]
theorem c_init2 (hK : K03 W) (hh : A.handled = none) (hd : A.depth < recursionLimit) {x dx : Addr} {n m : Int} :
    SLC W A (.ref 44) [.ref x, .int n, .int m] ((x, .obj (instObj 113 dx)) :: (dx, .att []) :: own) (fun r o => r = .none ∧ o = (x, .obj (instObj 113 dx)) :: (dx, .att [(Str.ofString "_tabsize", V.int n), (Str.ofString "_wrapcolumn", V.int m), (Str.ofString "_linejunk", V.none), (Str.ofString "_charjunk", V.ref 29)]) :: own) := by
  refine' do_callD [Str.ofString "self", Str.ofString "tabsize", Str.ofString "wrapcolumn", Str.ofString "linejunk", Str.ofString "charjunk"] [.none, .ref 29] [V.none, V.ref 29] ?hdf ?ho ?hcd hd ?hb ?hloc ?nd ?hh3 ?c1 ?c2 ?c3 ?c4
  case ho => exact K_of hK rfl
  case hcd => rw [hK]; rfl
  case hb => intro s vs X hl; obtain ⟨_, _, _, rfl⟩ := len_3 hl; exact binds_K X rfl (K_of hK rfl) rfl rfl rfl
  case hdf => intro fz; exact .cons (.dat .none) (.cons (.val _) .nil)
  case hloc => decide +kernel
  case nd => decide +kernel
  case c1 => rfl
  case c2 => rfl
  case c3 => rfl
  case c4 => decide +kernel
  intro L
  dsimp only [lawS, nthS, fdB, fdS, clB, PySem.Challenge.pw_dm0066_03]
  simp only [List.zip_cons_cons, List.zip_nil_right, List.cons_append, List.nil_append]
  refine SXs_cons ?_
  refine SX_AssignAttr ?_
  refine SE_Name ?_ (by decide +kernel)
  refine SN_loc rfl rfl (by (with_reducible repeat first | exact List.mem_cons_self | refine List.mem_cons_of_mem _ ?_ | assumption | exact mem_mid' | exact mem_mid (by assumption))) (by with_reducible rfl) (by (with_reducible repeat first | exact List.mem_cons_self | refine List.mem_cons_of_mem _ ?_ | assumption | exact mem_mid' | exact mem_mid (by assumption))) ?_
  refine SE_Name ?_ (by decide +kernel)
  refine SN_loc rfl rfl (by (with_reducible repeat first | exact List.mem_cons_self | refine List.mem_cons_of_mem _ ?_ | assumption | exact mem_mid' | exact mem_mid (by assumption))) (by with_reducible rfl) (by (with_reducible repeat first | exact List.mem_cons_self | refine List.mem_cons_of_mem _ ?_ | assumption | exact mem_mid' | exact mem_mid (by assumption))) ?_
  with_reducible refine ⟨_, rfl, ?_⟩
  refine do_setattr (cls03 hK) (by rw [hK]; rfl) (by (with_reducible repeat first | exact List.mem_cons_self | refine List.mem_cons_of_mem _ ?_ | assumption | exact mem_mid' | exact mem_mid (by assumption))) (by (with_reducible repeat first | exact List.mem_cons_self | refine List.mem_cons_of_mem _ ?_ | assumption | exact mem_mid' | exact mem_mid (by assumption))) (by (with_reducible repeat first | exact Put.here | exact Put.new | apply Put.there)) (by ((first | (dsimp only [List.map_cons, List.map_nil]; decide +kernel) | (simp only [List.map_cons, List.map_nil]; decide +kernel)))) (by simp) (by (with_reducible repeat first | assumption | exact Upd.here | exact Upd.mid | apply Upd.there)) ?_
  refine SXs_cons ?_
  refine SX_AssignAttr ?_
  refine SE_Name ?_ (by decide +kernel)
  refine SN_loc rfl rfl (by (with_reducible repeat first | exact List.mem_cons_self | refine List.mem_cons_of_mem _ ?_ | assumption | exact mem_mid' | exact mem_mid (by assumption))) (by with_reducible rfl) (by (with_reducible repeat first | exact List.mem_cons_self | refine List.mem_cons_of_mem _ ?_ | assumption | exact mem_mid' | exact mem_mid (by assumption))) ?_
  refine SE_Name ?_ (by decide +kernel)
  refine SN_loc rfl rfl (by (with_reducible repeat first | exact List.mem_cons_self | refine List.mem_cons_of_mem _ ?_ | assumption | exact mem_mid' | exact mem_mid (by assumption))) (by with_reducible rfl) (by (with_reducible repeat first | exact List.mem_cons_self | refine List.mem_cons_of_mem _ ?_ | assumption | exact mem_mid' | exact mem_mid (by assumption))) ?_
  with_reducible refine ⟨_, rfl, ?_⟩
  refine do_setattr (cls03 hK) (by rw [hK]; rfl) (by (with_reducible repeat first | exact List.mem_cons_self | refine List.mem_cons_of_mem _ ?_ | assumption | exact mem_mid' | exact mem_mid (by assumption))) (by (with_reducible repeat first | exact List.mem_cons_self | refine List.mem_cons_of_mem _ ?_ | assumption | exact mem_mid' | exact mem_mid (by assumption))) (by (with_reducible repeat first | exact Put.here | exact Put.new | apply Put.there)) (by ((first | (dsimp only [List.map_cons, List.map_nil]; decide +kernel) | (simp only [List.map_cons, List.map_nil]; decide +kernel)))) (by simp) (by (with_reducible repeat first | assumption | exact Upd.here | exact Upd.mid | apply Upd.there)) ?_
  refine SXs_cons ?_
  refine SX_AssignAttr ?_
  refine SE_Name ?_ (by decide +kernel)
  refine SN_loc rfl rfl (by (with_reducible repeat first | exact List.mem_cons_self | refine List.mem_cons_of_mem _ ?_ | assumption | exact mem_mid' | exact mem_mid (by assumption))) (by with_reducible rfl) (by (with_reducible repeat first | exact List.mem_cons_self | refine List.mem_cons_of_mem _ ?_ | assumption | exact mem_mid' | exact mem_mid (by assumption))) ?_
  refine SE_Name ?_ (by decide +kernel)
  refine SN_loc rfl rfl (by (with_reducible repeat first | exact List.mem_cons_self | refine List.mem_cons_of_mem _ ?_ | assumption | exact mem_mid' | exact mem_mid (by assumption))) (by with_reducible rfl) (by (with_reducible repeat first | exact List.mem_cons_self | refine List.mem_cons_of_mem _ ?_ | assumption | exact mem_mid' | exact mem_mid (by assumption))) ?_
  with_reducible refine ⟨_, rfl, ?_⟩
  refine do_setattr (cls03 hK) (by rw [hK]; rfl) (by (with_reducible repeat first | exact List.mem_cons_self | refine List.mem_cons_of_mem _ ?_ | assumption | exact mem_mid' | exact mem_mid (by assumption))) (by (with_reducible repeat first | exact List.mem_cons_self | refine List.mem_cons_of_mem _ ?_ | assumption | exact mem_mid' | exact mem_mid (by assumption))) (by (with_reducible repeat first | exact Put.here | exact Put.new | apply Put.there)) (by ((first | (dsimp only [List.map_cons, List.map_nil]; decide +kernel) | (simp only [List.map_cons, List.map_nil]; decide +kernel)))) (by simp) (by (with_reducible repeat first | assumption | exact Upd.here | exact Upd.mid | apply Upd.there)) ?_
  refine SXs_cons ?_
  refine SX_AssignAttr ?_
  refine SE_Name ?_ (by decide +kernel)
  refine SN_loc rfl rfl (by (with_reducible repeat first | exact List.mem_cons_self | refine List.mem_cons_of_mem _ ?_ | assumption | exact mem_mid' | exact mem_mid (by assumption))) (by with_reducible rfl) (by (with_reducible repeat first | exact List.mem_cons_self | refine List.mem_cons_of_mem _ ?_ | assumption | exact mem_mid' | exact mem_mid (by assumption))) ?_
  refine SE_Name ?_ (by decide +kernel)
  refine SN_loc rfl rfl (by (with_reducible repeat first | exact List.mem_cons_self | refine List.mem_cons_of_mem _ ?_ | assumption | exact mem_mid' | exact mem_mid (by assumption))) (by with_reducible rfl) (by (with_reducible repeat first | exact List.mem_cons_self | refine List.mem_cons_of_mem _ ?_ | assumption | exact mem_mid' | exact mem_mid (by assumption))) ?_
  with_reducible refine ⟨_, rfl, ?_⟩
  refine do_setattr (cls03 hK) (by rw [hK]; rfl) (by (with_reducible repeat first | exact List.mem_cons_self | refine List.mem_cons_of_mem _ ?_ | assumption | exact mem_mid' | exact mem_mid (by assumption))) (by (with_reducible repeat first | exact List.mem_cons_self | refine List.mem_cons_of_mem _ ?_ | assumption | exact mem_mid' | exact mem_mid (by assumption))) (by (with_reducible repeat first | exact Put.here | exact Put.new | apply Put.there)) (by ((first | (dsimp only [List.map_cons, List.map_nil]; decide +kernel) | (simp only [List.map_cons, List.map_nil]; decide +kernel)))) (by simp) (by (with_reducible repeat first | assumption | exact Upd.here | exact Upd.mid | apply Upd.there)) ?_
  refine SXs_nil ?_
  exact ⟨_, .drop .refl, rfl, rfl⟩
theorem do_sheet2 (hK : K03 W) (hh : A.handled = none) (hd : A.depth + 1 < recursionLimit) {m : Int} {Q : V → Own → Prop} (h : ∀ x dx, Q (.ref x) ((x, .obj (instObj 113 dx)) :: (dx, .att (attC m)) :: own)) :
    SL W A RV (fun vs => call (.ref 113) vs) [.int 8, .int m] own Q :=
  do_make (cls03 hK) (by rw [hK]; rfl) (by rw [hK]; rfl) fun A' e1 e2 e3 x dx => (c_init2 hK (e1.trans hh) (by (first | decide | exact Nat.le_trans (by assumption) (by decide) | lia | omega))).mono (by rintro r o ⟨rfl, rfl⟩; exact ⟨rfl, h x dx⟩)
set_option maxHeartbeats 8000000 in
theorem c_law (hK : K03 W) (hh : A.handled = none) (hd : A.depth < 320) (hu : A.units < 100) (hfr0 : A.frames = some []) (htab : (126, Ob.prop (TabP lamPos lamQ)) ∈ own) (ns : List Int) (hn : ns.length ≤ 63) :
    SLC W A (.ref 129) [.lst (ns.map .int)] own (fun r o => r = .bool true ∧ o = own) := by
  have hT := (congrArg txtO (K_of (a := 129) hK rfl)).trans (show _ = some (_, _, _, _) from rfl)
  refine' do_callE [Str.ofString "script"] [(Str.ofString "script", .lst (ns.map .int))] [(Str.ofString "sizes", 6, none), (Str.ofString "asked", 5, none), (Str.ofString "word", 4, none), (Str.ofString "number", 3, none), (Str.ofString "sides", 2, none), (Str.ofString "flag", 1, none)] ?ho ?hcd (by have : recursionLimit = 1000 := rfl; omega) ?hb ?hcl ?ndc ?hkind ?hbind ?hh4 ?c1 ?c2 ?c3
  case ho => exact K_of hK rfl
  case hcd => rw [hK]; rfl
  case hb => intro s vs _ hl; obtain ⟨_, rfl⟩ := len_1 hl; exact BindsTo.of_eq rfl
  case hcl => intro L; rfl
  case ndc => (first | dsimp only [List.map_cons, List.map_nil] | simp only [List.map_cons, List.map_nil]); decide +kernel
  case hkind => (first | dsimp only [List.map_cons, List.map_nil] | simp only [List.map_cons, List.map_nil]); decide +kernel
  case hbind =>
    intro fz vs L r
    cases r with | cons r1 r => cases r; exact ⟨⟨⟨_, rfl, r1⟩, trivial⟩, rfl, rfl, rfl, rfl, rfl, rfl, trivial⟩
  case c1 => rfl
  case c2 => rfl
  case c3 => rfl
  intro L
  dsimp only [lawS, nthS, fdB, fdS, clB, PySem.Challenge.pw_dm0066_03]
  (first | dsimp only [List.map_cons, List.map_nil, List.cons_append, List.nil_append] | simp only [List.map_cons, List.map_nil, List.cons_append, List.nil_append])
  refine @deeper_gen2 W A _ _ _ _ _ _ hh hfr0 ?_
  intro A' hh' hd' hu' hfr'
  have hrec : recursionLimit = 1000 := rfl
  have hcl : cLine = 9900 := rfl
  refine SXs_cons ?_
  refine SX_Assign ?_
  refine SE_Dic4 l03_2 l03_3 l03_4 l03_5 (by decide) fun SZ hs => ?_
  refine SS_cell rfl rfl rfl (by (with_reducible repeat first | assumption | exact Upd.here | exact Upd.mid | apply Upd.there)) ?_
  refine SXs_cons ?_
  refine SX_Assign ?_
  refine SE_List (by ((rw [sizeLine_eq]; simp))) ?_
  refine SEs_nil ?_
  refine ⟨by ((rw [sizeLine_eq]; simp)), fun D => ?_⟩
  refine SS_loc rfl rfl (by (with_reducible repeat first | exact List.mem_cons_self | refine List.mem_cons_of_mem _ ?_ | assumption | exact mem_mid' | exact mem_mid (by assumption))) (by with_reducible rfl) (by (with_reducible repeat first | exact Put.here | exact Put.new | apply Put.there)) (by ((first | (dsimp only [List.map_cons, List.map_nil]; decide +kernel) | (simp only [List.map_cons, List.map_nil]; decide +kernel)))) (by (with_reducible repeat first | assumption | exact Upd.here | exact Upd.mid | apply Upd.there)) ?_
  refine SXs_cons ?_
  refine SG.perm3 (own' := (D, Ob.list []) :: (L, Ob.ns [(Str.ofString "script", .lst (ns.map .int)), (Str.ofString "rows", .ref D)]) :: (SZ, Ob.prop (DicP W.prog W.w szF)) :: (L + 6, Ob.cell (some (.ref SZ))) :: (L + 5, Ob.cell none) :: (L + 4, Ob.cell none) :: (L + 3, Ob.cell none) :: (L + 2, Ob.cell none) :: (L + 1, Ob.cell none) :: own) (by (with_reducible repeat first | exact List.Perm.refl _ | refine (Take.perm (by (with_reducible repeat first | exact Take.here | apply Take.there))).trans (List.Perm.cons _ ?_))) ?_
  refine loop_rows hK hT hh' hn fun o wk => ?_
  refine SG.wk wk ?_
  clear wk
  obtain ⟨rs, hrs⟩ : ∃ rs, rs = rowsAt 0 (ns ++ [7, 44, 21, 16, 75, 52, 13]) := ⟨_, rfl⟩
  have hrl : rs.length ≤ 72 := by rw [hrs, rowsAt_len, List.length_append]; (first | dsimp only [List.length_cons, List.length_nil] | simp only [List.length_cons, List.length_nil]); (first | decide | exact Nat.le_trans (by assumption) (by decide) | lia | omega)
  have hrb : ∀ r ∈ rs, RB3 r := by rw [hrs]; exact rowsAt_b 0 _
  rw [← hrs]
  clear hrs
  refine SG_frz (D := D) (ds := rs.map rD) (by (with_reducible repeat first | exact Take.here | apply Take.there)) (AllDat.map _) (by (with_reducible repeat first | exact NF.nil | apply NF.cons VF.at_ | apply NF.cons VF.same | apply OF.ns | apply OF.cell VF.at_ | apply OF.cell VF.same | apply OF.list | exact LF.nil | apply LF.cons VF.at_ | apply LF.cons VF.same | exact LF.refl | apply OF.same | exact OF.refl)) ?_
  refine SXs_cons ?_
  refine SX_Assign ?_
  refine SE_Call ?_
  refine SE_Name ?_ (by decide +kernel)
  refine SN_global rfl rfl rfl (nsIn_of (by assumption) rfl) ?_
  with_reducible refine ⟨_, rfl, ?_⟩
  refine SEs_cons ?_
  refine SE_int ?_
  refine SEs_cons ?_
  refine SE_int ?_
  refine SEs_nil ?_
  refine ⟨kp_K (by rw [hK]; rfl), do_sheet2 hK hh' (by (first | decide | exact Nat.le_trans (by assumption) (by decide) | lia | omega)) fun x dx => ?_⟩
  refine SS_loc rfl rfl (by (with_reducible repeat first | exact List.mem_cons_self | refine List.mem_cons_of_mem _ ?_ | assumption | exact mem_mid' | exact mem_mid (by assumption))) (by with_reducible rfl) (by (with_reducible repeat first | exact Put.here | exact Put.new | apply Put.there)) (by ((first | (dsimp only [List.map_cons, List.map_nil]; decide +kernel) | (simp only [List.map_cons, List.map_nil]; decide +kernel)))) (by (with_reducible repeat first | assumption | exact Upd.here | exact Upd.mid | apply Upd.there)) ?_
  refine SXs_cons ?_
  refine SX_Assign ?_
  refine SE_List (by ((rw [sizeLine_eq]; simp))) ?_
  refine SEs_nil ?_
  refine ⟨by ((rw [sizeLine_eq]; simp)), fun AL => ?_⟩
  refine SS_cell rfl rfl rfl (by (with_reducible repeat first | assumption | exact Upd.here | exact Upd.mid | apply Upd.there)) ?_
  refine SXs_cons ?_
  refine SX_AssignAttr ?_
  refine SE_lam03 hK hT (by (with_reducible repeat first | exact List.mem_cons_self | refine List.mem_cons_of_mem _ ?_ | assumption | exact mem_mid' | exact mem_mid (by assumption))) fun f => ?_
  refine SE_Name ?_ (by decide +kernel)
  refine SN_loc rfl rfl (by (with_reducible repeat first | exact List.mem_cons_self | refine List.mem_cons_of_mem _ ?_ | assumption | exact mem_mid' | exact mem_mid (by assumption))) (by with_reducible rfl) (by (with_reducible repeat first | exact List.mem_cons_self | refine List.mem_cons_of_mem _ ?_ | assumption | exact mem_mid' | exact mem_mid (by assumption))) ?_
  with_reducible refine ⟨_, rfl, ?_⟩
  refine do_setattr (cls03 hK) (by rw [hK]; rfl) (by (with_reducible repeat first | exact List.mem_cons_self | refine List.mem_cons_of_mem _ ?_ | assumption | exact mem_mid' | exact mem_mid (by assumption))) (by (with_reducible repeat first | exact List.mem_cons_self | refine List.mem_cons_of_mem _ ?_ | assumption | exact mem_mid' | exact mem_mid (by assumption))) (by (with_reducible repeat first | exact Put.here | exact Put.new | apply Put.there)) (by ((first | (dsimp only [List.map_cons, List.map_nil]; decide +kernel) | (simp only [List.map_cons, List.map_nil]; decide +kernel)))) (by simp) (by (with_reducible repeat first | assumption | exact Upd.here | exact Upd.mid | apply Upd.there)) ?_
  refine SXs_cons ?_
  refine SX_Assign ?_
  refine SE_Call ?_
  refine SE_Name ?_ (by decide +kernel)
  refine SN_builtin rfl rfl rfl rfl (nsIn_of (by assumption) rfl) rfl (by decide +kernel) ?_
  with_reducible refine ⟨_, rfl, ?_⟩
  refine SEs_cons ?_
  refine SE_Name ?_ (by decide +kernel)
  refine SN_loc rfl rfl (by (with_reducible repeat first | exact List.mem_cons_self | refine List.mem_cons_of_mem _ ?_ | assumption | exact mem_mid' | exact mem_mid (by assumption))) (by with_reducible rfl) (by (with_reducible repeat first | exact List.mem_cons_self | refine List.mem_cons_of_mem _ ?_ | assumption | exact mem_mid' | exact mem_mid (by assumption))) ?_
  refine SEs_nil ?_
  with_reducible refine ⟨kp_builtin, ?_⟩
  refine call_iter fun src => ?_
  refine SS_loc rfl rfl (by (with_reducible repeat first | exact List.mem_cons_self | refine List.mem_cons_of_mem _ ?_ | assumption | exact mem_mid' | exact mem_mid (by assumption))) (by with_reducible rfl) (by (with_reducible repeat first | exact Put.here | exact Put.new | apply Put.there)) (by ((first | (dsimp only [List.map_cons, List.map_nil]; decide +kernel) | (simp only [List.map_cons, List.map_nil]; decide +kernel)))) (by (with_reducible repeat first | assumption | exact Upd.here | exact Upd.mid | apply Upd.there)) ?_
  refine SXs_cons ?_
  refine SX_Assign ?_
  refine SE_Meth ?_
  refine SE_Name ?_ (by decide +kernel)
  refine SN_loc rfl rfl (by (with_reducible repeat first | exact List.mem_cons_self | refine List.mem_cons_of_mem _ ?_ | assumption | exact mem_mid' | exact mem_mid (by assumption))) (by with_reducible rfl) (by (with_reducible repeat first | exact List.mem_cons_self | refine List.mem_cons_of_mem _ ?_ | assumption | exact mem_mid' | exact mem_mid (by assumption))) ?_
  refine mth_inst (cls03 hK) (by (with_reducible repeat first | exact List.mem_cons_self | refine List.mem_cons_of_mem _ ?_ | assumption | exact mem_mid' | exact mem_mid (by assumption))) (by (with_reducible repeat first | exact List.mem_cons_self | refine List.mem_cons_of_mem _ ?_ | assumption | exact mem_mid' | exact mem_mid (by assumption))) (by rw [hK]; rfl) (by rw [hK]; rfl) (by ((first | (dsimp only [List.map_cons, List.map_nil]; decide +kernel) | (simp only [List.map_cons, List.map_nil]; decide +kernel)))) ?_
  refine SEs_cons ?_
  refine SE_Name ?_ (by decide +kernel)
  refine SN_loc rfl rfl (by (with_reducible repeat first | exact List.mem_cons_self | refine List.mem_cons_of_mem _ ?_ | assumption | exact mem_mid' | exact mem_mid (by assumption))) (by with_reducible rfl) (by (with_reducible repeat first | exact List.mem_cons_self | refine List.mem_cons_of_mem _ ?_ | assumption | exact mem_mid' | exact mem_mid (by assumption))) ?_
  refine SEs_nil ?_
  refine ⟨kp_K (by rw [hK]; rfl), SLC.call (c_wrap3 hK (by (first | decide | exact Nat.le_trans (by assumption) (by decide) | lia | omega)) fun Lg ga g => ?_)⟩
  refine SS_loc (L := L) rfl rfl (by (with_reducible repeat first | exact List.mem_cons_self | refine List.mem_cons_of_mem _ ?_ | assumption | exact mem_mid' | exact mem_mid (by assumption))) rfl (by (with_reducible repeat first | exact Put.here | exact Put.new | apply Put.there)) (by ((first | (dsimp only [List.map_cons, List.map_nil]; decide +kernel) | (simp only [List.map_cons, List.map_nil]; decide +kernel)))) (by (with_reducible repeat first | assumption | exact Upd.here | exact Upd.mid | apply Upd.there)) ?_
  refine SXs_cons ?_
  refine SX_Assign ?_
  refine SE_List (by ((rw [sizeLine_eq]; simp))) ?_
  refine SEs_nil ?_
  refine ⟨by ((rw [sizeLine_eq]; simp)), fun AS => ?_⟩
  refine SS_loc (L := L) rfl rfl (by (with_reducible repeat first | exact List.mem_cons_self | refine List.mem_cons_of_mem _ ?_ | assumption | exact mem_mid' | exact mem_mid (by assumption))) rfl (by (with_reducible repeat first | exact Put.here | exact Put.new | apply Put.there)) (by ((first | (dsimp only [List.map_cons, List.map_nil]; decide +kernel) | (simp only [List.map_cons, List.map_nil]; decide +kernel)))) (by (with_reducible repeat first | assumption | exact Upd.here | exact Upd.mid | apply Upd.there)) ?_
  refine SXs_cons ?_
  refine SG.nd fun nd => ?_
  have n1 : src ≠ f := fun e => by subst e; simp at nd
  have n2 : src ≠ SZ := fun e => by subst e; simp at nd
  clear nd
  refine SG.perm3 (own' := stT (W := W) L (locB (.lst (ns.map .int)) (.lst (rs.map rD)) x src ga AS) none none none none AS [] SZ src rs AL [] x dx f ++ (ga, Ob.gen g (fun st => ∀ (dx f cA AL cS SZ : Addr) (n : Nat), GP3 W src x dx f cA AL cS SZ n [(Lg, Ob.ns (locF x src))] [] st)) :: ([(Lg, Ob.ns (locF x src))] ++ own)) (by simp only [stT, locB, obA, List.cons_append, List.nil_append, List.map_nil]; (with_reducible repeat first | exact List.Perm.refl _ | refine (Take.perm (by (with_reducible repeat first | exact Take.here | apply Take.there))).trans (List.Perm.cons _ ?_))) ?_
  refine loop_main hK hT hh' (by (first | decide | exact Nat.le_trans (by assumption) (by decide) | lia | omega)) (by (first | decide | exact Nat.le_trans (by assumption) (by decide) | lia | omega)) hfr' hrl hrb n1 n2 hs (fun st m h => h dx f (L + 5) AL (L + 6) SZ m) fun o ga g P go m sk asked c1 c2 c3 c4 hsk hoa hlen hP wk => ?_
  refine SG.wk wk (SXs_cons (end_main hK hT hh' (by (first | decide | exact Nat.le_trans (by assumption) (by decide) | lia | omega)) (by (first | decide | exact Nat.le_trans (by assumption) (by decide) | lia | omega)) hfr' hsk rfl hoa hlen n1 n2 hs hP fun o wk => ?_))
  exact ⟨own, wk, rfl, rfl⟩
--P03
theorem law_true {W : Wd} (hK : K03 W) (ns : List Int) (hn : ns.length ≤ 63) : SLC W callerA (.ref 129) [.lst (ns.map .int)] [(126, .prop (TabP lamPos lamQ))] (fun r o => r = .bool true ∧ (126, .prop (TabP lamPos lamQ)) ∈ o) :=
  (c_law hK rfl (by rw [depth_caller]; decide) (by rw [units_caller]; decide) rfl List.mem_cons_self ns hn).mono (by rintro r o ⟨rfl, rfl⟩; exact ⟨rfl, List.mem_cons_self⟩)
end
end Mine
open Mine in
set_option maxHeartbeats 8000000 in
theorem PySem.Challenge.cw_dm0066_03_holds : PySem.Challenge.rw_dm0066_03.Holds := by
  w_on
  refine startL fun said => ?_
  replace said : Mine.rwP.row.wellSaid = true := said
  show Mine.rwP.row.Holds
  o_head (kmHook Mine.K1 [3, 37, 43, 44, 66, 67, 73, 74, 112, 113, 123, 124, 128, 129] (fun _ => by kernel_rfl) [126])
  (case hw => w_witness2)
  intro w s₀ s₁ mg mb G Y fa o pm cd doc dV kV ho hd hcd hD hmg hg args vals as hpre hlay hrd hwl hlo
  have KX := km_in_of Y
  have hT8 := km_tabs_of Y
  refine Ground.open G ?_
  intro T B D TE TW
  clear ho hd hcd hD
  wrow_args hpre hlay hrd hwl hlo
  all_goals (
    first | refine callC_kw (enter_call ?_) | refine enter_call ?_ | refine callC_kw (enter_callW ?_) | refine enter_callW ?_ | w_how
    w_top on
    (rename Reads _ _ (PyData.list (List.map PyData.int _)) _ => r0)
    (rename ¬ ((_ : Int) < _) => hlen)
    refine codeAny_mono (Mine.join_lawT (c := 128) (P := 126) T KX (by kernel_rfl) (by kernel_rfl) (hT8 126 List.mem_cons_self) hmg hg rfl r0 fun W e1 e2 => Mine.law_true (show W.K = _ by rw [e2, e1]) _ (by (first | decide | exact Nat.le_trans (by assumption) (by decide) | lia | omega))) ?_
    rintro r s' ⟨rfl, k, e1, e2⟩
    refine ⟨.inl ⟨_, _, [], rfl, fun cls => ?_, ReadsW.bool true, ?_, fun _ => ⟨List.nodup_nil, fun a ha => (nomatch ha)⟩⟩, k, e1, e2⟩
    · rfl
    · exact postW_of rfl (w_eq_bool (w_res rfl) w_lit) rfl)
