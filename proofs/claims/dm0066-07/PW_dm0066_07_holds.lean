import PyProof.Rows.All
import Wide.All
import OpenK.AllK
import Wide.FinOn
import PySem.Challenge.RW_dm0066_07
open PySem PySem.W PyProof.Rows
set_option Elab.async false
set_option autoImplicit false
set_option linter.unusedVariables false
set_option linter.unusedSimpArgs false
set_option maxRecDepth 100000
namespace Mine
set_option maxHeartbeats 4000000
section
/-- all of h stands in h' -/
noncomputable def Keep (h h' : Heap) : Prop := ∀ b o, h.get? b = some o → h'.get? b = some o
theorem Keep.refl (h : Heap) : Keep h h := fun _ _ e => e
theorem Keep.trans {h h₁ h₂ : Heap} (x : Keep h h₁) (y : Keep h₁ h₂) : Keep h h₂ := fun b o e => y b o (x b o e)

/-- a value as the rules see it: plain frozen data, a range, or the value itself -/
inductive V where
  | dat (d : PyData)
  | val (v : Value)
  | rng (a b c : Int)

noncomputable abbrev V.none : V := .dat .none
noncomputable abbrev V.bool (b : Bool) : V := .dat (.bool b)
noncomputable abbrev V.int (i : Int) : V := .dat (.int i)
noncomputable abbrev V.str (s : Str) : V := .dat (.str s)
noncomputable abbrev V.lst (l : List PyData) : V := .dat (.list l)
noncomputable abbrev V.tup (l : List PyData) : V := .dat (.tuple l)
noncomputable abbrev V.ref (a : Addr) : V := .val (.ref a)

inductive RV (fz : Heap) : V → Value → Prop
  | dat {d : PyData} {v : Value} {as : List Addr} : Reads fz v d as → RV fz (.dat d) v
  | val (v : Value) : RV fz (.val v) v
  | rng {r : Addr} {a b c : Int} {t u v : Tok} : IsRange fz r a b c t u v → RV fz (.rng a b c) (.ref r)

theorem IsRange_keep {h h' : Heap} {r : Addr} {a b c : Int} {t u v : Tok} (x : IsRange h r a b c t u v) (k : Keep h h') : IsRange h' r a b c t u v := by
  exact k _ _ x
theorem RV.mono {fz fz' : Heap} {a : V} {v : Value} (x : RV fz a v) (k : Keep fz fz') : RV fz' a v := by
  cases x with
  | dat r => exact .dat (Reads.keeps k r)
  | val v => exact .val v
  | rng r => exact .rng (IsRange_keep r k)

inductive RVs (fz : Heap) : List V → List Value → Prop
  | nil : RVs fz [] []
  | cons {a : V} {v : Value} {l : List V} {vs : List Value} : RV fz a v → RVs fz l vs → RVs fz (a :: l) (v :: vs)
theorem RVs.mono {fz fz' : Heap} {l : List V} {vs : List Value} (x : RVs fz l vs) (k : Keep fz fz') : RVs fz' l vs := by
  induction x with
  | nil => exact .nil
  | cons h _ ih => exact .cons (h.mono k) ih
theorem RVs.length {fz : Heap} {l : List V} {vs : List Value} (x : RVs fz l vs) : l.length = vs.length := by
  induction x with
  | nil => rfl
  | cons _ _ ih => simp [ih]
theorem RVs.append {fz : Heap} {l l' : List V} {vs vs' : List Value} (x : RVs fz l vs) (y : RVs fz l' vs') : RVs fz (l ++ l') (vs ++ vs') := by
  induction x with
  | nil => exact y
  | cons h _ ih => exact .cons h ih
theorem RVs.get {fz : Heap} {l : List V} {vs : List Value} (x : RVs fz l vs) : ∀ {i : Nat} {a : V}, l[i]? = some a → ∃ v, vs[i]? = some v ∧ RV fz a v := by
  induction x with
  | nil => intro i a e; simp at e
  | cons h _ ih =>
    intro i a e
    cases i with
    | zero => simp at e; subst e; exact ⟨_, rfl, h⟩
    | succ i => simp at e; simpa using ih e
theorem RVs.of_reads {fz : Heap} {vs : List Value} {ds : List PyData} {as : List Addr} (x : ReadsAll fz vs ds as) : RVs fz (ds.map V.dat) vs := by
  induction ds generalizing vs as with
  | nil => cases x; exact .nil
  | cons d ds ih => cases x with | cons h t => exact .cons (.dat h) (ih t)
theorem RVs.reads {fz : Heap} : ∀ {ds : List PyData} {vs : List Value}, RVs fz (ds.map V.dat) vs → ∃ as, ReadsAll fz vs ds as
  | [], _, x => by cases x; exact ⟨_, .nil⟩
  | d :: ds, _, x => by
    cases x with
    | cons h t =>
      cases h with
      | dat r => obtain ⟨as, ht⟩ := RVs.reads t; exact ⟨_, .cons r ht⟩

/-- what a made object is -/
inductive Ob where
  | ns (loc : List (Str × V))
  | cell (v : Option V)
  | list (l : List V)
  | tup (l : List V)
  | it (l : List V)
  | att (loc : List (Str × V))
  | obj (o : Obj)
  | prop (P : Heap → Obj → Prop)
  | gen (g : Nat) (P : GenState → Prop)
/-- a generator's number -/
noncomputable def Ob.genOf : Ob → Option Nat
  | .gen g _ => some g
  | _ => none

noncomputable def listObj (vs : List Value) (n : Nat) : Obj := { cls := .type "list", data := .seq vs.toArray n }
noncomputable def tupObj (vs : List Value) (n : Nat) : Obj := { cls := .type "tuple", data := .seq vs.toArray n }

noncomputable def NsIs (fz : Heap) (loc : List (Str × V)) (o : Obj) : Prop :=
  ∃ es ep, o.data = .dict es ep ∧ StrKeys es ∧ ∀ p ∈ loc, ∃ v, nsFind es p.1 = some v ∧ RV fz p.2 v

/-- a made thing's own attributes, all of them -/
noncomputable def AttIs (fz : Heap) (loc : List (Str × V)) (o : Obj) : Prop :=
  ∃ es ep, o.data = .dict es ep ∧ StrKeys es ∧ es.size ≤ loc.length ∧ (∀ p ∈ loc, ∃ v, nsFind es p.1 = some v ∧ RV fz p.2 v) ∧ ∀ x, x ∉ loc.map (·.1) → nsFind es x = none

/-- an iterator that has just these still to give -/
inductive ItIs (fz : Heap) : List V → Obj → Prop
  | list {a : Addr} {vs : Array Value} {i : Nat} {l : List V} {o : Obj} : fz.IsList a vs → RVs fz l (vs.toList.drop i) → o.cls = .type "list_iterator" → o.data = .fields #[.ref a, .int i 0] → ItIs fz l o
  | tup {a : Addr} {vs : Array Value} {i : Nat} {l : List V} {o : Obj} : fz.IsTuple a vs → RVs fz l (vs.toList.drop i) → o.cls = .type "tuple_iterator" → o.data = .fields #[.ref a, .int i 0] → ItIs fz l o
  | range {x c : Int} {n : Nat} {l : List V} {o : Obj} : l = (List.range n).map (fun j : Nat => V.int (x + (j : Int) * c)) → o = { cls := .type "range_iterator", data := .fields #[rawInt x, rawInt n, rawInt c] } → ItIs fz l o
  | ascii {x : Str} {t : Tok} {i : Nat} {l : List V} {o : Obj} : l = (x.cps.toList.drop i).map (fun c => V.str ⟨#[c]⟩) → o.cls = .type "str_ascii_iterator" → o.data = .fields #[.str x t, .int i 0] → ItIs fz l o
  | wide {x : Str} {t : Tok} {i : Nat} {l : List V} {o : Obj} : l = (x.cps.toList.drop i).map (fun c => V.str ⟨#[c]⟩) → o.cls = .type "str_iterator" → o.data = .fields #[.str x t, .int i 0] → ItIs fz l o
  | over {o : Obj} {k : Value} : o.cls = .type "list_iterator" → o.data = .fields #[.none, k] → ItIs fz [] o
theorem ItIs.mono {fz fz' : Heap} {l : List V} {o : Obj} (x : ItIs fz l o) (k : Keep fz fz') : ItIs fz' l o := by
  cases x with
  | list h r c d => obtain ⟨ob, e, q⟩ := h; exact .list ⟨ob, k _ _ e, q⟩ (r.mono k) c d
  | tup h r c d => obtain ⟨ob, e, q⟩ := h; exact .tup ⟨ob, k _ _ e, q⟩ (r.mono k) c d
  | range e q => exact .range e q
  | ascii e c d => exact .ascii e c d
  | wide e c d => exact .wide e c d
  | over c d => exact .over c d

noncomputable def ObIs (fz : Heap) : Ob → Obj → Prop
  | .ns loc, o => NsIs fz loc o
  | .cell none, o => o.data = .cell none
  | .cell (some a), o => ∃ v, o.data = .cell (some v) ∧ RV fz a v
  | .list l, o => ∃ vs n, o = listObj vs n ∧ RVs fz l vs
  | .tup l, o => ∃ vs n, o = tupObj vs n ∧ RVs fz l vs
  | .it l, o => ItIs fz l o
  | .att loc, o => AttIs fz loc o
  | .obj o', o => o = o'
  | .prop P, o => ∃ fz₀, Keep fz₀ fz ∧ P fz₀ o
  | .gen g _, o => o.cls = .type "generator" ∧ (∃ nm qn, o.data = .fields #[.int g 0, nm, qn]) ∧ o.slots = #[]

theorem ObIs.mono {fz fz' : Heap} {ob : Ob} {o : Obj} (x : ObIs fz ob o) (k : Keep fz fz') : ObIs fz' ob o := by
  cases ob with
  | ns loc => obtain ⟨es, ep, h1, h2, h3⟩ := x; exact ⟨es, ep, h1, h2, fun p hp => let ⟨v, e, r⟩ := h3 p hp; ⟨v, e, r.mono k⟩⟩
  | cell v => cases v with
    | none => exact x
    | some a => obtain ⟨v, e, r⟩ := x; exact ⟨v, e, r.mono k⟩
  | list l => obtain ⟨vs, n, e, r⟩ := x; exact ⟨vs, n, e, r.mono k⟩
  | tup l => obtain ⟨vs, n, e, r⟩ := x; exact ⟨vs, n, e, r.mono k⟩
  | it l => exact ItIs.mono x k
  | att loc => obtain ⟨es, ep, h1, h2, hz, h3, h4⟩ := x; exact ⟨es, ep, h1, h2, hz, fun p hp => let ⟨v, e, r⟩ := h3 p hp; ⟨v, e, r.mono k⟩, h4⟩
  | obj o' => exact x
  | prop P => obtain ⟨fz₀, k₀, h⟩ := x; exact ⟨fz₀, k₀.trans k, h⟩
  | gen g P => exact x

noncomputable abbrev Own := List (Addr × Ob)

/-- what stays through the whole law -/
structure Wd where
  prog : Program
  w : World
  base : Heap
  os : OsState
  K : Frag
  p : Program
  loose : List Str
  mg : Str → Option Value
  mb : Str → Option Value
  kin : K.In base
  top : TopRead p loose mg mb base
  bm : ∃ bm ob, mg "__builtins__" = some (.ref bm) ∧ bm ≠ builtinsNs ∧ base.get? bm = some ob ∧ ob.cls = .type "module" ∧ ob.dict = some builtinsNs ∧ ob.data = .plain
  tk : Nat

/-- the generators are as told -/
structure GensIs (own : Own) (gs : Array GenState) : Prop where
  bare : AllBare gs
  st : ∀ p ∈ own, ∀ g P, p.2 = .gen g P → ∃ x, gs[g]? = some x ∧ P x
  nd : (own.filterMap fun p => p.2.genOf).Nodup
theorem GensIs.nil {gs : Array GenState} (h : AllBare gs) : GensIs [] gs := ⟨h, fun p hp => (nomatch hp), List.nodup_nil⟩
theorem GensIs.sub {own own' : Own} {gs : Array GenState} (x : GensIs own gs) (h : own'.Sublist own) : GensIs own' gs :=
  ⟨x.bare, fun p hp => x.st p (h.subset hp), x.nd.sublist (h.filterMap _)⟩
theorem GensIs.perm {own own' : Own} {gs : Array GenState} (x : GensIs own gs) (h : own.Perm own') : GensIs own' gs :=
  ⟨x.bare, fun p hp => x.st p (h.mem_iff.mpr hp), (h.filterMap _).nodup_iff.mp x.nd⟩
theorem GensIs.cons {own : Own} {gs : Array GenState} {a : Addr} {ob : Ob} (x : GensIs own gs) (h : ob.genOf = none) : GensIs ((a, ob) :: own) gs := by
  refine ⟨x.bare, fun p hp g P e => ?_, ?_⟩
  · rcases List.mem_cons.mp hp with rfl | hp
    · rw [show ob = .gen g P from e] at h; cases h
    · exact x.st p hp g P e
  · rw [List.filterMap_cons, show (a, ob).2.genOf = none from h]; exact x.nd

structure Hold (W : Wd) (fz : Heap) (own : Own) (s : Shared) : Prop where
  base : Keep W.base fz
  has : Keep fz s.heap
  obs : ∀ p ∈ own, ∃ o, s.heap.get? p.1 = some o ∧ ObIs fz p.2 o
  out : ∀ p ∈ own, fz.get? p.1 = none
  nd : (own.map (·.1)).Nodup
  gens : GensIs own s.gens
  os : s.os = W.os

variable {W : Wd}

theorem Hold.toks {fz : Heap} {own : Own} {s : Shared} (H : Hold W fz own s) (k : Nat) : Hold W fz own { s with toks := k } := ⟨H.base, H.has, H.obs, H.out, H.nd, H.gens, H.os⟩
theorem Hold.kin {fz : Heap} {own : Own} {s : Shared} (H : Hold W fz own s) : W.K.In s.heap := W.kin.keeps (H.base.trans H.has)
theorem Hold.keep {fz : Heap} {own : Own} {s : Shared} (H : Hold W fz own s) : Keep W.base s.heap := H.base.trans H.has
theorem Hold.get {fz : Heap} {own : Own} {s : Shared} (H : Hold W fz own s) {a : Addr} {ob : Ob} (h : (a, ob) ∈ own) : ∃ o, s.heap.get? a = some o ∧ ObIs fz ob o := H.obs _ h

theorem Hold.sub {fz : Heap} {own own' : Own} {s : Shared} (H : Hold W fz own s) (h : own'.Sublist own) : Hold W fz own' s :=
  ⟨H.base, H.has, fun p hp => H.obs p (h.subset hp), fun p hp => H.out p (h.subset hp), H.nd.sublist (h.map _), H.gens.sub h, H.os⟩
theorem Hold.tail {fz : Heap} {p : Addr × Ob} {own : Own} {s : Shared} (H : Hold W fz (p :: own) s) : Hold W fz own s := H.sub (List.sublist_cons_self _ _)
theorem Hold.perm {fz : Heap} {own own' : Own} {s : Shared} (H : Hold W fz own s) (h : own.Perm own') : Hold W fz own' s :=
  ⟨H.base, H.has, fun p hp => H.obs p (h.mem_iff.mpr hp), fun p hp => H.out p (h.mem_iff.mpr hp), (h.map _).nodup_iff.mp H.nd, H.gens.perm h, H.os⟩

/-- one entry is turned -/
inductive Upd (a : Addr) (ob ob' : Ob) : Own → Own → Prop
  | here {l : Own} : Upd a ob ob' ((a, ob) :: l) ((a, ob') :: l)
  | there {p : Addr × Ob} {l l' : Own} : Upd a ob ob' l l' → Upd a ob ob' (p :: l) (p :: l')
theorem Upd.mem {a : Addr} {ob ob' : Ob} {l l' : Own} (u : Upd a ob ob' l l') : (a, ob) ∈ l := by
  induction u with
  | here => exact List.mem_cons_self
  | there _ ih => exact List.mem_cons_of_mem _ ih
theorem Upd.keys {a : Addr} {ob ob' : Ob} {l l' : Own} (u : Upd a ob ob' l l') : l'.map (·.1) = l.map (·.1) := by
  induction u with
  | here => rfl
  | there _ ih => simp [ih]
theorem Upd.other {a : Addr} {ob ob' : Ob} {l l' : Own} (u : Upd a ob ob' l l') : ∀ p ∈ l', p = (a, ob') ∨ p ∈ l := by
  induction u with
  | here => intro p hp; rcases List.mem_cons.mp hp with h | h; exact .inl h; exact .inr (List.mem_cons_of_mem _ h)
  | there _ ih => intro p hp; rcases List.mem_cons.mp hp with h | h; exact .inr (h ▸ List.mem_cons_self); exact (ih p h).imp id (List.mem_cons_of_mem _)
theorem mem_unique {l : Own} (nd : (l.map (·.1)).Nodup) {p q : Addr × Ob} (hp : p ∈ l) (hq : q ∈ l) (e : p.1 = q.1) : p = q := by
  induction l with
  | nil => cases hp
  | cons x l ih =>
    rw [List.map_cons, List.nodup_cons] at nd
    rcases List.mem_cons.mp hp with h1 | h1 <;> rcases List.mem_cons.mp hq with h2 | h2
    · rw [h1, h2]
    · exact absurd (List.mem_map.mpr ⟨q, h2, by rw [← e, h1]⟩) nd.1
    · exact absurd (List.mem_map.mpr ⟨p, h1, by rw [e, h2]⟩) nd.1
    · exact ih nd.2 h1 h2
theorem Upd.other' {a : Addr} {ob ob' : Ob} {l l' : Own} (nd : (l.map (·.1)).Nodup) (u : Upd a ob ob' l l') : ∀ p ∈ l', p = (a, ob') ∨ (p ∈ l ∧ p.1 ≠ a) := by
  induction u with
  | here =>
    intro p hp
    rw [List.map_cons, List.nodup_cons] at nd
    rcases List.mem_cons.mp hp with h | h
    · exact .inl h
    · exact .inr ⟨List.mem_cons_of_mem _ h, fun e => nd.1 (List.mem_map.mpr ⟨p, h, e⟩)⟩
  | @there q l l' v ih =>
    intro p hp
    rw [List.map_cons, List.nodup_cons] at nd
    rcases List.mem_cons.mp hp with h | h
    · subst h
      exact .inr ⟨List.mem_cons_self, fun e => nd.1 (List.mem_map.mpr ⟨_, v.mem, e.symm⟩)⟩
    · exact (ih nd.2 p h).imp id fun x => ⟨List.mem_cons_of_mem _ x.1, x.2⟩

theorem GensIs.upd {own own' : Own} {gs : Array GenState} {a : Addr} {ob ob' : Ob} (x : GensIs own gs) (u : Upd a ob ob' own own') (h : ob'.genOf = none) : GensIs own' gs := by
  refine ⟨x.bare, fun p hp g P e => ?_, ?_⟩
  · rcases u.other p hp with rfl | hp
    · rw [show ob' = .gen g P from e] at h; cases h
    · exact x.st p hp g P e
  · have : (own'.filterMap fun p => p.2.genOf).Sublist (own.filterMap fun p => p.2.genOf) := by
      clear x
      induction u with
      | here =>
        rw [List.filterMap_cons, show (a, ob').2.genOf = none from h]
        exact (List.sublist_cons_self _ _).filterMap _
      | @there q l l' _ ih =>
        rw [List.filterMap_cons, List.filterMap_cons]
        cases q.2.genOf with
        | none => exact ih
        | some n => exact ih.cons_cons n
    exact x.nd.sublist this
theorem Hold.lt {fz : Heap} {own : Own} {s : Shared} (H : Hold W fz own s) {p : Addr × Ob} (h : p ∈ own) : p.1 < s.heap.objs.size := let ⟨_, e, _⟩ := H.obs p h; Heap.lt_size e

/-- an entry changes by a step that touches its object alone -/
theorem Hold.set {fz : Heap} {own own' : Own} {s : Shared} (H : Hold W fz own s) {a : Addr} {ob ob' : Ob} (u : Upd a ob ob' own own') {h' : Heap} {k : Nat} (hs : Heap.SameBut a s.heap h')
    {o : Obj} (ho : h'.get? a = some o) (hob : ObIs fz ob' o) (hg : ob'.genOf = none := by rfl) : Hold W fz own' { s with heap := h', toks := k } where
  base := H.base
  has := fun b o e => (hs.2 b (fun hb => by have := H.out _ u.mem; rw [hb] at e; exact absurd e (by rw [this]; exact fun x => nomatch x))).trans (H.has b o e)
  obs := fun p hp => by
    rcases u.other' H.nd p hp with rfl | ⟨h, hne⟩
    · exact ⟨o, ho, hob⟩
    · obtain ⟨o', e, r⟩ := H.obs p h
      exact ⟨o', (hs.2 p.1 hne).trans e, r⟩
  out := fun p hp => by
    rcases u.other' H.nd p hp with rfl | ⟨h, _⟩
    · exact H.out (a, ob) u.mem
    · exact H.out p h
  nd := by rw [u.keys]; exact H.nd
  gens := H.gens.upd u hg
  os := H.os

/-- a step that keeps all but what is not told -/
theorem Hold.grow {fz : Heap} {own : Own} {s : Shared} (H : Hold W fz own s) {h' : Heap} {k : Nat} (hk : Keep s.heap h') : Hold W fz own { s with heap := h', toks := k } where
  base := H.base
  has := H.has.trans hk
  obs := fun p hp => let ⟨o, e, r⟩ := H.obs p hp; ⟨o, hk _ _ e, r⟩
  out := H.out
  nd := H.nd
  gens := H.gens
  os := H.os

theorem get?_ge {h : Heap} {a : Addr} (x : h.objs.size ≤ a) : h.get? a = none := by
  cases e : h.get? a with
  | none => rfl
  | some o => exact absurd (Heap.lt_size e) (Nat.not_lt.mpr x)
theorem Keep.push (h : Heap) (o : Obj) : Keep h (h.push o) := fun _ _ e => Heap.get?_push_of_some o e

theorem base_le {h h' : Heap} (k : Keep h h') {a : Addr} (ha : h'.objs.size ≤ a) : h.get? a = none := by
  cases e : h.get? a with
  | none => rfl
  | some o => exact absurd (Heap.lt_size (k _ _ e)) (Nat.not_lt.mpr ha)

/-- a new object enters the list; the heap has grown -/
theorem Hold.new {fz : Heap} {own : Own} {s : Shared} (H : Hold W fz own s) {h' : Heap} {k : Nat} (hk : Keep s.heap h') {a : Addr} (ha : s.heap.get? a = none) {o : Obj} {ob : Ob}
    (ho : h'.get? a = some o) (hob : ObIs fz ob o) (hg : ob.genOf = none := by rfl) : Hold W fz ((a, ob) :: own) { s with heap := h', toks := k } where
  base := H.base
  has := H.has.trans hk
  obs := fun p hp => by
    rcases List.mem_cons.mp hp with rfl | hp
    · exact ⟨o, ho, hob⟩
    · obtain ⟨o', e, r⟩ := H.obs p hp
      exact ⟨o', hk _ _ e, r⟩
  out := fun p hp => by
    rcases List.mem_cons.mp hp with rfl | hp
    · cases e : fz.get? a with
      | none => rfl
      | some o' => exact absurd (H.has _ _ e) (by rw [ha]; exact fun x => nomatch x)
    · exact H.out p hp
  nd := by
    rw [List.map_cons, List.nodup_cons]
    refine ⟨fun hm => ?_, H.nd⟩
    obtain ⟨p, hp, e⟩ := List.mem_map.mp hm
    obtain ⟨o', e', _⟩ := H.obs p hp
    rw [e, ha] at e'
    cases e'
  gens := H.gens.cons hg
  os := H.os
end
section
/-- no way raises -/
noncomputable abbrev NoX : Value → Shared → Prop := fun _ _ => False

/-- what stands behind a step -/
inductive Post {α β : Type} (W : Wd) (R : Heap → β → α → Prop) (Q : β → Own → Prop) (fz : Heap) (a : α) (s' : Shared) : Prop
  | mk (fz' : Heap) (b : β) (own' : Own) (k : Keep fz fz') (H : Hold W fz' own' s') (r : R fz' b a) (q : Q b own') : Post W R Q fz a s'
noncomputable def At {α β : Type} (W : Wd) (A : Around) (R : Heap → β → α → Prop) (t : Sem α) (Q : β → Own → Prop) (fz : Heap) (s : Shared) : Prop :=
  wpAny (model W.prog W.w) A t (fun a s' => Post W R Q fz a s') NoX s

noncomputable def SG {α β : Type} (W : Wd) (A : Around) (R : Heap → β → α → Prop) (t : Sem α) (own : Own) (Q : β → Own → Prop) : Prop :=
  ∀ fz s, Hold W fz own s → W.tk ≤ s.toks → At W A R t Q fz s

/-- of one value, of two, of a list -/
noncomputable def S1 {α β : Type} (W : Wd) (A : Around) (R : Heap → β → α → Prop) (f : Value → Sem α) (a : V) (own : Own) (Q : β → Own → Prop) : Prop :=
  ∀ fz s v, Hold W fz own s → W.tk ≤ s.toks → RV fz a v → At W A R (f v) Q fz s
noncomputable def S2 {α β : Type} (W : Wd) (A : Around) (R : Heap → β → α → Prop) (f : Value → Value → Sem α) (a b : V) (own : Own) (Q : β → Own → Prop) : Prop :=
  ∀ fz s v u, Hold W fz own s → W.tk ≤ s.toks → RV fz a v → RV fz b u → At W A R (f v u) Q fz s
noncomputable def SL {α β : Type} (W : Wd) (A : Around) (R : Heap → β → α → Prop) (f : List Value → Sem α) (l : List V) (own : Own) (Q : β → Own → Prop) : Prop :=
  ∀ fz s vs, Hold W fz own s → W.tk ≤ s.toks → RVs fz l vs → At W A R (f vs) Q fz s

noncomputable abbrev RB : Heap → Bool → Bool → Prop := fun _ b a => a = b
noncomputable abbrev RU : Heap → Unit → Unit → Prop := fun _ _ _ => True

inductive Fl where
  | next | brk | cont
  | ret (v : V)
inductive RF (fz : Heap) : Fl → Flow → Prop
  | next : RF fz .next .next
  | brk : RF fz .brk .brk
  | cont : RF fz .cont .cont
  | ret {a : V} {v : Value} : RV fz a v → RF fz (.ret a) (.ret v)

variable {W : Wd} {A : Around} {env : Env} {own : Own}

theorem Post.weak {α β : Type} {R : Heap → β → α → Prop} {Q : β → Own → Prop} {fz fz' : Heap} {a : α} {s : Shared} (h : Post W R Q fz' a s) (k : Keep fz fz') : Post W R Q fz a s := by
  obtain ⟨fz₁, b, own', k', H, r, q⟩ := h
  exact ⟨fz₁, b, own', k.trans k', H, r, q⟩
theorem At.weak {α β : Type} {R : Heap → β → α → Prop} {t : Sem α} {Q : β → Own → Prop} {fz fz' : Heap} {s : Shared} (h : At W A R t Q fz' s) (k : Keep fz fz') : At W A R t Q fz s :=
  wpAny_mono h (fun _ _ ⟨fz₁, b, own', k', H, r, q⟩ => ⟨fz₁, b, own', k.trans k', H, r, q⟩) fun _ _ x => x
theorem At.mono {α β : Type} {R : Heap → β → α → Prop} {t : Sem α} {Q Q' : β → Own → Prop} {fz : Heap} {s : Shared} (h : At W A R t Q fz s) (q : ∀ b own', Q b own' → Q' b own') : At W A R t Q' fz s :=
  wpAny_mono h (fun _ _ ⟨fz₁, b, own', k', H, r, x⟩ => ⟨fz₁, b, own', k', H, r, q _ _ x⟩) fun _ _ x => x
theorem SG.mono {α β : Type} {R : Heap → β → α → Prop} {t : Sem α} {Q Q' : β → Own → Prop} (h : SG W A R t own Q) (q : ∀ b own', Q b own' → Q' b own') : SG W A R t own Q' :=
  fun fz s H ht => (h fz s H ht).mono q

/-- the one way to go on -/
theorem wp_then {α β : Type} {R : Heap → β → α → Prop} {t : Sem α} {Q : β → Own → Prop} {fz : Heap} {s : Shared} {P : α → Shared → Prop} (h : At W A R t Q fz s) (ht : W.tk ≤ s.toks)
    (q : ∀ fz' a b own' s', Keep fz fz' → Hold W fz' own' s' → W.tk ≤ s'.toks → R fz' b a → Q b own' → P a s') : wpAny (model W.prog W.w) A t P NoX s :=
  wpAny_mono (wpAny_toks_of ht h) (fun a s' ⟨t', ⟨fz', b, own', k, H, r, x⟩⟩ => q fz' a b own' s' k H t' r x) fun _ _ x => x.2

noncomputable abbrev SE (W : Wd) (A : Around) (env : Env) (e : Expr) (own : Own) (Q : V → Own → Prop) : Prop := SG W A RV (eval e env) own Q
noncomputable abbrev ST (W : Wd) (A : Around) (env : Env) (e : Expr) (own : Own) (Q : Bool → Own → Prop) : Prop := SG W A RB (isTrue e env (eval e env)) own Q
noncomputable abbrev SX (W : Wd) (A : Around) (env : Env) (st : Stmt) (own : Own) (Q : Fl → Own → Prop) : Prop := SG W A RF (exec st env) own Q
noncomputable abbrev SXs (W : Wd) (A : Around) (env : Env) (l : List Stmt) (own : Own) (Q : Fl → Own → Prop) : Prop := SG W A RF (execs l env) own Q
noncomputable abbrev SS (W : Wd) (A : Around) (env : Env) (x : Str) (a : V) (own : Own) (Q : Own → Prop) : Prop := S1 W A RU (storeName env x) a own (fun _ => Q)
noncomputable abbrev SA (W : Wd) (A : Around) (env : Env) (t : Expr) (a : V) (own : Own) (Q : Own → Prop) : Prop := S1 W A RU (assign t env) a own (fun _ => Q)

/-! ### constants, names -/
theorem SE_int {i : Int} {k : Nat} {pos : Pos} {Q : V → Own → Prop} (h : Q (.int i) own) : SE W A env (.Constant (.int i) k pos) own Q :=
  fun fz s H _ => wpAny_Constant_int ⟨fz, _, own, .refl _, H.toks _, .dat (.int _ _), h⟩
theorem SE_str {x : Str} {k : Nat} {pos : Pos} {Q : V → Own → Prop} (h : Q (.str x) own) : SE W A env (.Constant (.str x) k pos) own Q :=
  fun fz s H _ => wpAny_Constant_str ⟨fz, _, own, .refl _, H.toks _, .dat (.str _ _), h⟩
theorem SE_bool {b : Bool} {k : Nat} {pos : Pos} {Q : V → Own → Prop} (h : Q (.bool b) own) : SE W A env (.Constant (.bool b) k pos) own Q :=
  fun fz s H _ => wpAny_Constant_bool ⟨fz, _, own, .refl _, H, .dat (.bool _), h⟩
theorem ns_of {h : Heap} {a : Addr} {o : Obj} {fz : Heap} {loc : List (Str × V)} (ho : h.get? a = some o) (x : NsIs fz loc o) :
    ∃ m, h.Ns a m ∧ ∀ p ∈ loc, ∃ v, m p.1 = some v ∧ RV fz p.2 v := by
  obtain ⟨es, ep, h1, h2, h3⟩ := x
  exact ⟨_, ⟨o, es, ep, ho, h1, h2, fun _ => rfl⟩, h3⟩
theorem of_ns {h : Heap} {a : Addr} {m : Str → Option Value} {fz : Heap} {loc : List (Str × V)} (x : h.Ns a m) (r : ∀ p ∈ loc, ∃ v, m p.1 = some v ∧ RV fz p.2 v) :
    ∃ o, h.get? a = some o ∧ NsIs fz loc o := by
  obtain ⟨o, es, ep, ho, h1, h2, h3⟩ := x
  exact ⟨o, ho, es, ep, h1, h2, fun p hp => by obtain ⟨v, e, q⟩ := r p hp; exact ⟨v, (h3 _).trans e, q⟩⟩

theorem SN_local {x : Str} {loc : List (Str × V)} {a : V} {Q : V → Own → Prop} (hk : env.scope.kind = .function) (hl : env.kindOf x = some .local) (hm : (env.locals, Ob.ns loc) ∈ own) (hx : (x, a) ∈ loc)
    (h : Q a own) : SG W A RV (loadName env x) own Q := fun fz s H _ => by
  obtain ⟨o, ho, x1⟩ := H.get hm
  obtain ⟨m, hn, hv⟩ := ns_of ho x1
  obtain ⟨v, e, r⟩ := hv _ hx
  exact wpAny_loadName_local hk hl hn e ⟨fz, a, own, .refl _, H, r, h⟩
theorem SN_cell {x : Str} {c : Addr} {a : V} {Q : V → Own → Prop} (hk : env.scope.kind = .function) (hl : env.kindOf x = some .cell) (hc : env.cells.lookup x = some c) (hm : (c, Ob.cell (some a)) ∈ own)
    (h : Q a own) : SG W A RV (loadName env x) own Q := fun fz s H _ => by
  obtain ⟨o, ho, v, e, r⟩ := H.get hm
  exact wpAny_loadName_cell hk hl hc ⟨o, ho, e⟩ ⟨fz, a, own, .refl _, H, r, h⟩
theorem SN_free {x : Str} {c : Addr} {a : V} {Q : V → Own → Prop} (hk : env.scope.kind = .function) (hl : env.kindOf x = some .free) (hc : env.cells.lookup x = some c) (hm : (c, Ob.cell (some a)) ∈ own)
    (h : Q a own) (hn : (x == ("__classdict__" : Str)) = false := by decide) : SG W A RV (loadName env x) own Q := fun fz s H _ => by
  obtain ⟨o, ho, v, e, r⟩ := H.get hm
  exact wpAny_loadName_free hk hl hc ⟨o, ho, e⟩ ⟨fz, a, own, .refl _, H, r, h⟩ hn
theorem SN_global {x : Str} {v : Value} {Q : V → Own → Prop} (hk : env.scope.kind = .function) (hg : env.globals = mainGlobals) (hl : env.kindOf x = some .globalImplicit) (e : nsIn W.K mainGlobals x = some (some v))
    (h : Q (.val v) own) : SG W A RV (loadName env x) own Q := fun fz s H _ => by
  unfold loadName
  simp only [Env.blockKind, hk, hl, ScopeKind.isAnnotationScope, Bool.false_and, Bool.false_eq_true, if_false]
  exact Calls.loadGlobal_global (by rw [hg]; exact W.top.g.keeps H.keep) (mg_of W.kin W.top.g e) ⟨fz, _, own, .refl _, H, .val v, h⟩
theorem SN_builtin {x : Str} {v : Value} {Q : V → Own → Prop} (hk : env.scope.kind = .function) (hg : env.globals = mainGlobals) (hb : env.builtins = builtinsNs) (hl : env.kindOf x = some .globalImplicit) (e : nsIn W.K mainGlobals x = some none)
    (hv : bootBuiltins x = some v) (hn : x ≠ "__name__") (h : Q (.val v) own) : SG W A RV (loadName env x) own Q := fun fz s H _ => by
  unfold loadName
  simp only [Env.blockKind, hk, hl, ScopeKind.isAnnotationScope, Bool.false_and, Bool.false_eq_true, if_false]
  exact Calls.loadGlobal_builtin (by rw [hg]; exact W.top.g.keeps H.keep) (mg_none_of W.kin W.top.g e) (by rw [hb]; exact W.top.b.keeps H.keep) ((W.top.builtins x hn).trans hv) ⟨fz, _, own, .refl _, H, .val v, h⟩
theorem SE_Name {x : Str} {pos : Pos} {Q : V → Own → Prop} (h : SG W A RV (loadName env x) own Q) (hd : (x == ("__debug__" : Str)) = false := by decide) : SE W A env (.Name x pos) own Q :=
  fun fz s H ht => wpAny_Name (h fz s H ht) hd

/-! ### stores -/
inductive Put (x : Str) (a : V) : List (Str × V) → List (Str × V) → Prop
  | new : Put x a [] [(x, a)]
  | here {b : V} {l : List (Str × V)} : Put x a ((x, b) :: l) ((x, a) :: l)
  | there {p : Str × V} {l l' : List (Str × V)} : Put x a l l' → Put x a (p :: l) (p :: l')
theorem Put.other {x : Str} {a : V} {l l' : List (Str × V)} (u : Put x a l l') (nd : (l'.map (·.1)).Nodup) : ∀ p ∈ l', p = (x, a) ∨ (p ∈ l ∧ p.1 ≠ x) := by
  have hin : ∀ {l l' : List (Str × V)}, Put x a l l' → (x, a) ∈ l' := by
    intro l l' u
    induction u with
    | new => exact List.mem_cons_self
    | here => exact List.mem_cons_self
    | there _ ih => exact List.mem_cons_of_mem _ ih
  induction u with
  | new => intro p hp; exact .inl (by simpa using hp)
  | here =>
    intro p hp
    rw [List.map_cons, List.nodup_cons] at nd
    rcases List.mem_cons.mp hp with h | h
    · exact .inl h
    · exact .inr ⟨List.mem_cons_of_mem _ h, fun e => nd.1 (List.mem_map.mpr ⟨p, h, e⟩)⟩
  | @there q l l' v ih =>
    intro p hp
    rw [List.map_cons, List.nodup_cons] at nd
    rcases List.mem_cons.mp hp with h | h
    · subst h
      exact .inr ⟨List.mem_cons_self, fun e => nd.1 (List.mem_map.mpr ⟨_, hin v, e.symm⟩)⟩
    · exact (ih nd.2 p h).imp id fun x => ⟨List.mem_cons_of_mem _ x.1, x.2⟩

theorem SS_local {x : Str} {loc loc' : List (Str × V)} {a : V} {own' : Own} {Q : Own → Prop} (hk : env.scope.kind = .function) (hl : env.kindOf x = some .local) (hu : Put x a loc loc') (nd : ((loc'.map (·.1)).Nodup))
    (u : Upd env.locals (.ns loc) (.ns loc') own own') (h : Q own') : SS W A env x a own Q := fun fz s v H _ r => by
  obtain ⟨o, ho, x1⟩ := H.get u.mem
  obtain ⟨m, hn, hv⟩ := ns_of ho x1
  refine wpAny_storeName_local hl hn (fun h' hn' hs' => ?_) (by rw [hk]; rfl)
  obtain ⟨o', ho', hob⟩ := of_ns (fz := fz) (loc := loc') hn' (fun p hp => by
    rcases hu.other nd p hp with rfl | ⟨hp', hne⟩
    · exact ⟨v, by simp, r⟩
    · obtain ⟨u, e, r'⟩ := hv p hp'; exact ⟨u, by simp [hne, e], r'⟩)
  exact ⟨fz, (), own', .refl _, H.set u hs' ho' hob, trivial, h⟩
theorem SS_cell {x : Str} {c : Addr} {a : V} {a₀ : Option V} {own' : Own} {Q : Own → Prop} (hk : env.scope.kind = .function) (hl : env.kindOf x = some .cell) (hc : env.cells.lookup x = some c)
    (u : Upd c (.cell a₀) (.cell (some a)) own own') (h : Q own') : SS W A env x a own Q := fun fz s v H _ r => by
  obtain ⟨o, ho, x1⟩ := H.get u.mem
  have hcell : ∃ v₀, s.heap.IsCell c v₀ := by
    cases a₀ with
    | none => exact ⟨none, o, ho, x1⟩
    | some b => obtain ⟨w, e, _⟩ := x1; exact ⟨some w, o, ho, e⟩
  obtain ⟨v₀, hc0⟩ := hcell
  refine wpAny_storeName_cell hk hl hc hc0 fun h' ⟨o', ho', e'⟩ hs' => ?_
  exact ⟨fz, (), own', .refl _, H.set (k := s.toks) u hs' ho' ⟨v, e', r⟩, trivial, h⟩

theorem SS_loc {x : Str} {L : Addr} {loc loc' : List (Str × V)} {a : V} {own' : Own} {Q : Own → Prop} (hk : env.scope.kind = .function) (hl : env.kindOf x = some .local) (hm : (L, Ob.ns loc) ∈ own) (hL : env.locals = L) (hu : Put x a loc loc') (nd : ((loc'.map (·.1)).Nodup))
    (u : Upd L (.ns loc) (.ns loc') own own') (h : Q own') : SS W A env x a own Q := SS_local hk hl hu nd (by rw [hL]; exact u) h
theorem SN_loc {x : Str} {L : Addr} {loc : List (Str × V)} {a : V} {Q : V → Own → Prop} (hk : env.scope.kind = .function) (hl : env.kindOf x = some .local) (hm : (L, Ob.ns loc) ∈ own) (hL : env.locals = L) (hx : (x, a) ∈ loc)
    (h : Q a own) : SG W A RV (loadName env x) own Q := SN_local hk hl (by rw [hL]; exact hm) hx h
theorem SA_Name {x : Str} {pos : Pos} {a : V} {Q : Own → Prop} (h : SS W A env x a own Q) : SA W A env (.Name x pos) a own Q :=
  fun fz s v H ht r => wpAny_assign_Name (h fz s v H ht r)

/-! ### expressions: the nodes -/
theorem SE_BinOp {l r : Expr} {op : Operator} {pos : Pos} {Q : V → Own → Prop} (h : SE W A env l own fun a o1 => SE W A env r o1 fun b o2 => S2 W A RV (binaryOp op) a b o2 Q) :
    SE W A env (.BinOp l op r pos) own Q := fun fz s H ht => by
  refine wpAny_BinOp (wp_then (h fz s H ht) ht fun fz1 va a o1 s1 k1 H1 t1 r1 q1 => wp_then (q1 fz1 s1 H1 t1) t1 fun fz2 vb b o2 s2 k2 H2 t2 r2 q2 => ?_)
  exact (q2 fz2 s2 va vb H2 t2 (r1.mono k2) r2).weak (k1.trans k2)
theorem SE_UnaryOp {x : Expr} {op : UnaryOp} {pos : Pos} {Q : V → Own → Prop} (h : SE W A env x own fun a o1 => S1 W A RV (unaryOp op) a o1 Q) : SE W A env (.UnaryOp op x pos) own Q := fun fz s H ht =>
  wpAny_UnaryOp (wp_then (h fz s H ht) ht fun fz1 va a o1 s1 k1 H1 t1 r1 q1 => (q1 fz1 s1 va H1 t1 r1).weak k1)
theorem SE_IfExp {t b o : Expr} {pos : Pos} {Q : V → Own → Prop} (h : ST W A env t own fun c o1 => if c then SE W A env b o1 Q else SE W A env o o1 Q) : SE W A env (.IfExp t b o pos) own Q := fun fz s H ht => by
  refine wpAny_IfExp (wp_then (h fz s H ht) ht fun fz1 va a o1 s1 k1 H1 t1 r1 q1 => ?_)
  subst r1
  cases va
  · exact (q1 fz1 s1 H1 t1).weak k1
  · exact (q1 fz1 s1 H1 t1).weak k1
theorem SE_Subscript {o i : Expr} {pos : Pos} {Q : V → Own → Prop} (h : SE W A env o own fun a o1 => SE W A env i o1 fun b o2 => S2 W A RV (subscriptTail o i) a b o2 Q) :
    SE W A env (.Subscript o i pos) own Q := fun fz s H ht => by
  refine Subscript_ (wp_then (h fz s H ht) ht fun fz1 va a o1 s1 k1 H1 t1 r1 q1 => wp_then (q1 fz1 s1 H1 t1) t1 fun fz2 vb b o2 s2 k2 H2 t2 r2 q2 => ?_)
  exact (q2 fz2 s2 va vb H2 t2 (r1.mono k2) r2).weak (k1.trans k2)
theorem SE_Attribute {o : Expr} {n : Str} {pos : Pos} {Q : V → Own → Prop} (h : SE W A env o own fun a o1 => S1 W A RV (fun v => getAttr v n true) a o1 Q)
    (he : eval (.Attribute o n pos) env = (do
      let v ← eval o env
      standAt pos.atName
      let r ← holding [v] (getAttr v n true)
      letTemporaryGo o v r
      pure r) := by with_unfolding_all rfl) : SE W A env (.Attribute o n pos) own Q := fun fz s H ht =>
  Attribute_any_ (wp_then (h fz s H ht) ht fun fz1 va a o1 s1 k1 H1 t1 r1 q1 => (q1 fz1 s1 va H1 t1 r1).weak k1) he

/-! ### tests -/
theorem ST_Compare {l r : Expr} {op : CmpOp} {pos : Pos} {Q : Bool → Own → Prop} (h : SE W A env l own fun a o1 => SE W A env r o1 fun b o2 => S2 W A RV (compareOp op) a b o2 fun c o3 => S1 W A RB truthy c o3 Q)
    (hm : behindInMarks op r = false := by with_unfolding_all rfl) : ST W A env (.Compare l [op] [r] pos) own Q := fun fz s H ht => by
  refine wpAny_isTrue_Compare1 (wp_then (h fz s H ht) ht fun fz1 va a o1 s1 k1 H1 t1 r1 q1 => wp_then (q1 fz1 s1 H1 t1) t1 fun fz2 vb b o2 s2 k2 H2 t2 r2 q2 =>
    wp_then (q2 fz2 s2 va vb H2 t2 (r1.mono k2) r2) t2 fun fz3 vc c o3 s3 k3 H3 t3 r3 q3 => ?_) hm
  exact (q3 fz3 s3 vc H3 t3 r3).weak (k1.trans (k2.trans k3))
theorem ST_not {x : Expr} {pos : Pos} {Q : Bool → Own → Prop} (h : ST W A env x own fun c o1 => Q (!c) o1) : ST W A env (.UnaryOp .Not x pos) own Q := fun fz s H ht =>
  isTrue_not (wp_then (h fz s H ht) ht fun fz1 va a o1 s1 k1 H1 t1 r1 q1 => by subst r1; exact ⟨fz1, _, o1, k1, H1, rfl, q1⟩)
theorem SG_and_nil {pos : Pos} {whole : Sem Value} {Q : Bool → Own → Prop} (h : Q true own) : SG W A RB (isTrue (.BoolOp .And [] pos) env whole) own Q := fun fz s H _ =>
  isTrue_and_nil ⟨fz, _, own, .refl _, H, rfl, h⟩
theorem SG_or_nil {pos : Pos} {whole : Sem Value} {Q : Bool → Own → Prop} (h : Q false own) : SG W A RB (isTrue (.BoolOp .Or [] pos) env whole) own Q := fun fz s H _ =>
  isTrue_or_nil ⟨fz, _, own, .refl _, H, rfl, h⟩
theorem SG_and {x : Expr} {rest : List Expr} {pos : Pos} {whole : Sem Value} {Q : Bool → Own → Prop}
    (h : ST W A env x own fun c o1 => if c then SG W A RB (isTrue (.BoolOp .And rest pos) env whole) o1 Q else Q false o1) : SG W A RB (isTrue (.BoolOp .And (x :: rest) pos) env whole) own Q := fun fz s H ht => by
  refine isTrue_and (wp_then (h fz s H ht) ht fun fz1 va a o1 s1 k1 H1 t1 r1 q1 => ?_)
  subst r1
  cases va
  · exact ⟨fz1, _, o1, k1, H1, rfl, q1⟩
  · exact (q1 fz1 s1 H1 t1).weak k1
theorem SG_or {x : Expr} {rest : List Expr} {pos : Pos} {whole : Sem Value} {Q : Bool → Own → Prop}
    (h : ST W A env x own fun c o1 => if c then Q true o1 else SG W A RB (isTrue (.BoolOp .Or rest pos) env whole) o1 Q) : SG W A RB (isTrue (.BoolOp .Or (x :: rest) pos) env whole) own Q := fun fz s H ht => by
  refine isTrue_or (wp_then (h fz s H ht) ht fun fz1 va a o1 s1 k1 H1 t1 r1 q1 => ?_)
  subst r1
  cases va
  · exact (q1 fz1 s1 H1 t1).weak k1
  · exact ⟨fz1, _, o1, k1, H1, rfl, q1⟩
theorem ST_plain {e : Expr} {Q : Bool → Own → Prop} (h : SE W A env e own fun a o1 => S1 W A RB truthy a o1 Q)
    (he : isTrue e env (eval e env) = (do let v ← eval e env; standAt e.pos; holding [v] (truthy v)) := by rfl) : ST W A env e own Q := fun fz s H ht =>
  isTrue_plain (wp_then (h fz s H ht) ht fun fz1 va a o1 s1 k1 H1 t1 r1 q1 => (q1 fz1 s1 va H1 t1 r1).weak k1) he

/-! ### statements -/
theorem SXs_nil {Q : Fl → Own → Prop} (h : Q .next own) : SXs W A env [] own Q := fun fz s H _ => wpAny_execs_nil ⟨fz, _, own, .refl _, H, .next, h⟩
/-- on from a statement: only a plain end goes on -/
noncomputable abbrev onNext (P : Own → Prop) (Q : Fl → Own → Prop) : Fl → Own → Prop
  | .next, o => P o
  | f, o => Q f o
theorem SXs_cons {st : Stmt} {rest : List Stmt} {Q : Fl → Own → Prop} (h : SX W A env st own (onNext (fun o1 => SXs W A env rest o1 Q) Q)) : SXs W A env (st :: rest) own Q := fun fz s H ht => by
  refine wpAny_execs_cons (wp_then (h fz s H ht) ht fun fz1 va a o1 s1 k1 H1 t1 r1 q1 => ?_)
  cases r1 with
  | next => exact At.weak (q1 fz1 s1 H1 t1) k1
  | brk => exact ⟨fz1, _, o1, k1, H1, .brk, q1⟩
  | cont => exact ⟨fz1, _, o1, k1, H1, .cont, q1⟩
  | ret r => exact ⟨fz1, _, o1, k1, H1, .ret r, q1⟩
theorem SX_If {t : Expr} {b o : List Stmt} {pos : Pos} {Q : Fl → Own → Prop} (h : ST W A env t own fun c o1 => if c then SXs W A env b o1 Q else SXs W A env o o1 Q) : SX W A env (.If t b o pos) own Q := fun fz s H ht => by
  refine wpAny_If (wp_then (h fz s H ht) ht fun fz1 va a o1 s1 k1 H1 t1 r1 q1 => ?_)
  subst r1
  cases va
  · exact At.weak (q1 fz1 s1 H1 t1) k1
  · exact At.weak (q1 fz1 s1 H1 t1) k1
theorem SX_Return {e : Expr} {pos : Pos} {Q : Fl → Own → Prop} (h : SE W A env e own fun a o1 => Q (.ret a) o1) : SX W A env (.Return (some e) pos) own Q := fun fz s H ht =>
  wpAny_Return_some (wp_then (h fz s H ht) ht fun fz1 va a o1 s1 k1 H1 t1 r1 q1 => ⟨fz1, _, o1, k1, H1, .ret r1, q1⟩)
theorem SX_Return0 {pos : Pos} {Q : Fl → Own → Prop} (h : Q (.ret .none) own) : SX W A env (.Return none pos) own Q := fun fz s H _ =>
  wpAny_Return_none ⟨fz, _, own, .refl _, H, .ret (.dat .none), h⟩
theorem SX_Assign {x : Str} {p pos : Pos} {e : Expr} {Q : Fl → Own → Prop} (h : SE W A env e own fun a o1 => SS W A env x a o1 fun o2 => Q .next o2)
    (hs : swapsWith e (some (.Name x p)) pos.line env = pure false := by rfl) : SX W A env (.Assign [.Name x p] e pos) own Q := fun fz s H ht => by
  refine wpAny_Assign_Name (wp_then (h fz s H ht) ht fun fz1 va a o1 s1 k1 H1 t1 r1 q1 => wp_then (q1 fz1 s1 va H1 t1 r1) t1 fun fz2 _ _ o2 s2 k2 H2 t2 _ q2 => ?_) hs
  exact ⟨fz2, _, o2, k1.trans k2, H2, .next, q2⟩
theorem SX_Aug {x : Str} {p pos : Pos} {op : Operator} {e : Expr} {Q : Fl → Own → Prop}
    (h : SG W A RV (loadName env x) own fun a o1 => SE W A env e o1 fun b o2 => S2 W A RV (inplaceOp op) a b o2 fun c o3 => SS W A env x c o3 fun o4 => Q .next o4) : SX W A env (.AugAssign (.Name x p) op e pos) own Q := fun fz s H ht => by
  refine wpAny_AugAssign_Name (wp_then (h fz s H ht) ht fun fz1 va a o1 s1 k1 H1 t1 r1 q1 => wp_then (q1 fz1 s1 H1 t1) t1 fun fz2 vb b o2 s2 k2 H2 t2 r2 q2 =>
    wp_then (q2 fz2 s2 va vb H2 t2 (r1.mono k2) r2) t2 fun fz3 vc c o3 s3 k3 H3 t3 r3 q3 => wp_then (q3 fz3 s3 vc H3 t3 r3) t3 fun fz4 _ _ o4 s4 k4 H4 t4 _ q4 => ?_)
  exact ⟨fz4, _, o4, k1.trans (k2.trans (k3.trans k4)), H4, .next, q4⟩
theorem SX_Expr {e : Expr} {pos : Pos} {Q : Fl → Own → Prop} (h : SE W A env e own fun _ o1 => Q .next o1) (hi : interactive env = false := by rfl) (hs : swapsWith e none pos.line env = pure false := by rfl) :
    SX W A env (.Expr e pos) own Q := fun fz s H ht =>
  wpAny_Expr_any (wp_then (h fz s H ht) ht fun fz1 va a o1 s1 k1 H1 t1 r1 q1 => ⟨fz1, _, o1, k1, H1, .next, q1⟩) hi hs
end
section
variable {W : Wd} {A : Around} {env : Env} {own : Own}

/-! ### what a value is -/
theorem RV.int_inv {fz : Heap} {i : Int} {v : Value} (x : RV fz (.int i) v) : ∃ t, v = .int i t := by cases x with | dat r => cases r; exact ⟨_, rfl⟩
theorem RV.str_inv {fz : Heap} {x : Str} {v : Value} (h : RV fz (.str x) v) : ∃ t, v = .str x t := by cases h with | dat r => cases r; exact ⟨_, rfl⟩
theorem RV.bool_inv {fz : Heap} {b : Bool} {v : Value} (x : RV fz (.bool b) v) : v = .bool b := by cases x with | dat r => cases r; rfl
theorem RV.none_inv {fz : Heap} {v : Value} (x : RV fz .none v) : v = .none := by cases x with | dat r => cases r; rfl
theorem RV.val_inv {fz : Heap} {u v : Value} (x : RV fz (.val u) v) : v = u := by cases x; rfl
theorem RV.lst_inv {fz : Heap} {l : List PyData} {v : Value} (x : RV fz (.lst l) v) : ∃ a vs, v = .ref a ∧ fz.IsList a vs ∧ RVs fz (l.map V.dat) vs.toList := by
  cases x with
  | dat r => cases r with | @list a o vs n xs as ho hc hd hr => exact ⟨a, vs, rfl, ⟨o, ho, hc, n, hd⟩, .of_reads hr⟩
theorem RV.tup_inv {fz : Heap} {l : List PyData} {v : Value} (x : RV fz (.tup l) v) : ∃ a vs, v = .ref a ∧ fz.IsTuple a vs ∧ RVs fz (l.map V.dat) vs.toList := by
  cases x with
  | dat r => cases r with | @tuple a o vs n xs as ho hc hd hr => exact ⟨a, vs, rfl, ⟨o, ho, hc, n, hd⟩, .of_reads hr⟩
theorem IsList_keep {h h' : Heap} {a : Addr} {vs : Array Value} (x : h.IsList a vs) (k : Keep h h') : h'.IsList a vs := let ⟨o, ho, r⟩ := x; ⟨o, k _ _ ho, r⟩
theorem IsTuple_keep {h h' : Heap} {a : Addr} {vs : Array Value} (x : h.IsTuple a vs) (k : Keep h h') : h'.IsTuple a vs := let ⟨o, ho, r⟩ := x; ⟨o, k _ _ ho, r⟩

/-- an answer that is a token's matter alone -/
theorem at_tok {Q : V → Own → Prop} {fz : Heap} {s : Shared} {a : V} {v : Value} (H : Hold W fz own s) (k : Nat) (r : RV fz a v) (q : Q a own) :
    Post W RV Q fz v { s with toks := k } := ⟨fz, a, own, .refl _, H.toks k, r, q⟩

/-! ### ints -/
theorem op_add {a b : Int} {Q : V → Own → Prop} (h : Q (.int (a + b)) own) : S2 W A RV (binaryOp .Add) (.int a) (.int b) own Q := fun fz s v u H _ r1 r2 => by
  obtain ⟨t, rfl⟩ := r1.int_inv; obtain ⟨t', rfl⟩ := r2.int_inv
  exact P.add_int (at_tok H _ (.dat (.int _ _)) h)
theorem op_iadd {a b : Int} {Q : V → Own → Prop} (h : Q (.int (a + b)) own) : S2 W A RV (inplaceOp .Add) (.int a) (.int b) own Q := fun fz s v u H _ r1 r2 => by
  obtain ⟨t, rfl⟩ := r1.int_inv; obtain ⟨t', rfl⟩ := r2.int_inv
  exact P.iadd_int (at_tok H _ (.dat (.int _ _)) h)
theorem op_sub {a b : Int} {Q : V → Own → Prop} (h : Q (.int (a - b)) own) : S2 W A RV (binaryOp .Sub) (.int a) (.int b) own Q := fun fz s v u H _ r1 r2 => by
  obtain ⟨t, rfl⟩ := r1.int_inv; obtain ⟨t', rfl⟩ := r2.int_inv
  exact P.sub_int (at_tok H _ (.dat (.int _ _)) h)
theorem op_isub {a b : Int} {Q : V → Own → Prop} (h : Q (.int (a - b)) own) : S2 W A RV (inplaceOp .Sub) (.int a) (.int b) own Q := fun fz s v u H _ r1 r2 => by
  obtain ⟨t, rfl⟩ := r1.int_inv; obtain ⟨t', rfl⟩ := r2.int_inv
  exact P.isub_int (at_tok H _ (.dat (.int _ _)) h)
theorem op_mul {a b : Int} {Q : V → Own → Prop} (hm : IntMulOk a b) (h : Q (.int (a * b)) own) : S2 W A RV (binaryOp .Mult) (.int a) (.int b) own Q := fun fz s v u H _ r1 r2 => by
  obtain ⟨t, rfl⟩ := r1.int_inv; obtain ⟨t', rfl⟩ := r2.int_inv
  exact P.mul_int (at_tok H _ (.dat (.int _ _)) h) hm
theorem op_div {a b : Int} {Q : V → Own → Prop} (hb : 0 < b) (hz : b < 1073741824) (h : Q (.int (a / b)) own) : S2 W A RV (binaryOp .FloorDiv) (.int a) (.int b) own Q := fun fz s v u H _ r1 r2 => by
  obtain ⟨t, rfl⟩ := r1.int_inv; obtain ⟨t', rfl⟩ := r2.int_inv
  refine floordiv_int (by (first | decide | exact Nat.le_trans (by assumption) (by decide) | lia | omega)) (at_tok H _ ?_ h) (Or.inl (PyProof.noPylong_small (by (first | decide | exact Nat.le_trans (by assumption) (by decide) | lia | omega))))
  rw [Int.fdiv_eq_ediv_of_nonneg a (by (first | decide | exact Nat.le_trans (by assumption) (by decide) | lia | omega))]
  exact .dat (.int _ _)
theorem op_mod {a b : Int} {Q : V → Own → Prop} (hb : 0 < b) (h : Q (.int (a % b)) own) : S2 W A RV (binaryOp .Mod) (.int a) (.int b) own Q := fun fz s v u H _ r1 r2 => by
  obtain ⟨t, rfl⟩ := r1.int_inv; obtain ⟨t', rfl⟩ := r2.int_inv
  refine mod_int' (by (first | decide | exact Nat.le_trans (by assumption) (by decide) | lia | omega)) (at_tok H _ ?_ h)
  rw [Int.fmod_eq_emod_of_nonneg a (by (first | decide | exact Nat.le_trans (by assumption) (by decide) | lia | omega))]
  exact .dat (.int _ _)
theorem op_neg {a : Int} {Q : V → Own → Prop} (h : Q (.int (-a)) own) : S1 W A RV (unaryOp .USub) (.int a) own Q := fun fz s v H _ r1 => by
  obtain ⟨t, rfl⟩ := r1.int_inv
  exact P.neg_int (at_tok H _ (.dat (.int _ _)) h)
theorem cmp_eqI {a b : Int} {Q : V → Own → Prop} (h : Q (.bool (decide (a = b))) own) : S2 W A RV (compareOp .Eq) (.int a) (.int b) own Q := fun fz s v u H _ r1 r2 => by
  obtain ⟨t, rfl⟩ := r1.int_inv; obtain ⟨t', rfl⟩ := r2.int_inv
  exact P.eq_int (at_tok H _ (.dat (.bool _)) h)
theorem cmp_neI {a b : Int} {Q : V → Own → Prop} (h : Q (.bool (decide (a ≠ b))) own) : S2 W A RV (compareOp .NotEq) (.int a) (.int b) own Q := fun fz s v u H _ r1 r2 => by
  obtain ⟨t, rfl⟩ := r1.int_inv; obtain ⟨t', rfl⟩ := r2.int_inv
  refine P.ne_int ⟨fz, _, own, .refl _, H, ?_, h⟩
  have e : (a != b) = decide (a ≠ b) := by simp only [bne, ne_eq, decide_not]; rfl
  rw [e]; exact .dat (.bool _)
theorem cmp_lt {a b : Int} {Q : V → Own → Prop} (h : Q (.bool (decide (a < b))) own) : S2 W A RV (compareOp .Lt) (.int a) (.int b) own Q := fun fz s v u H _ r1 r2 => by
  obtain ⟨t, rfl⟩ := r1.int_inv; obtain ⟨t', rfl⟩ := r2.int_inv
  exact P.lt_int (at_tok H _ (.dat (.bool _)) h)
theorem cmp_le {a b : Int} {Q : V → Own → Prop} (h : Q (.bool (decide (a ≤ b))) own) : S2 W A RV (compareOp .LtE) (.int a) (.int b) own Q := fun fz s v u H _ r1 r2 => by
  obtain ⟨t, rfl⟩ := r1.int_inv; obtain ⟨t', rfl⟩ := r2.int_inv
  exact P.le_int (at_tok H _ (.dat (.bool _)) h)
theorem cmp_gt {a b : Int} {Q : V → Own → Prop} (h : Q (.bool (decide (b < a))) own) : S2 W A RV (compareOp .Gt) (.int a) (.int b) own Q := fun fz s v u H _ r1 r2 => by
  obtain ⟨t, rfl⟩ := r1.int_inv; obtain ⟨t', rfl⟩ := r2.int_inv
  exact P.gt_int (at_tok H _ (.dat (.bool _)) h)
/-! ### truth -/
theorem tr_bool {b : Bool} {Q : Bool → Own → Prop} (h : Q b own) : S1 W A RB truthy (.bool b) own Q := fun fz s v H _ r => by
  rw [r.bool_inv]; exact wpAny_truthy_bool ⟨fz, b, own, .refl _, H, rfl, h⟩
theorem tr_int {i : Int} {Q : Bool → Own → Prop} (h : Q (decide (i ≠ 0)) own) : S1 W A RB truthy (.int i) own Q := fun fz s v H _ r => by
  obtain ⟨t, rfl⟩ := r.int_inv
  exact P.truthy_int ⟨fz, _, own, .refl _, H, by simp only [RB, bne, ne_eq, decide_not]; rfl, h⟩
theorem tr_str {x : Str} {Q : Bool → Own → Prop} (hx : x.length ≤ sizeLine) (h : Q (decide (x.length ≠ 0)) own) : S1 W A RB truthy (.str x) own Q := fun fz s v H _ r => by
  obtain ⟨t, rfl⟩ := r.str_inv
  rw [sizeLine_eq] at hx
  refine P.truthy_str (by (first | decide | exact Nat.le_trans (by assumption) (by decide) | lia | omega)) ⟨fz, _, own, .refl _, H.toks _, ?_, h⟩
  show (((x.length : Int)) != 0) = decide (x.length ≠ 0)
  by_cases e : x.length = 0
  · rw [e]; rfl
  · have e' : (x.length : Int) ≠ 0 := by (first | decide | exact Nat.le_trans (by assumption) (by decide) | lia | omega)
    simp [e, e']
/-! ### texts -/
theorem op_cat {x y : Str} {Q : V → Own → Prop} (hz : x.length + y.length ≤ sizeLine) (h : Q (.str (x ++ y)) own) : S2 W A RV (binaryOp .Add) (.str x) (.str y) own Q := fun fz s v u H _ r1 r2 => by
  obtain ⟨t, rfl⟩ := r1.str_inv; obtain ⟨t', rfl⟩ := r2.str_inv
  exact SB.add (fun t' k => at_tok H _ (.dat (.str _ _)) h) hz
theorem cmp_eqS {x y : Str} {Q : V → Own → Prop} (h : Q (.bool (decide (x = y))) own) : S2 W A RV (compareOp .Eq) (.str x) (.str y) own Q := fun fz s v u H _ r1 r2 => by
  obtain ⟨t, rfl⟩ := r1.str_inv; obtain ⟨t', rfl⟩ := r2.str_inv
  refine PyProof.Rows.eq_str ⟨fz, _, own, .refl _, H, ?_, h⟩
  have e : (x == y) = decide (x = y) := rfl
  rw [e]; exact .dat (.bool _)
theorem cmp_neS {x y : Str} {Q : V → Own → Prop} (h : Q (.bool (decide (x ≠ y))) own) : S2 W A RV (compareOp .NotEq) (.str x) (.str y) own Q := fun fz s v u H _ r1 r2 => by
  obtain ⟨t, rfl⟩ := r1.str_inv; obtain ⟨t', rfl⟩ := r2.str_inv
  refine PyProof.Rows.ne_str ⟨fz, _, own, .refl _, H, ?_, h⟩
  have e : (x != y) = decide (x ≠ y) := by simp only [bne, ne_eq, decide_not]; rfl
  rw [e]; exact .dat (.bool _)
theorem cmp_inS {x y : Str} {Q : V → Own → Prop} (h : Q (.bool (Txt.contains x y)) own) : S2 W A RV (compareOp .In) (.str y) (.str x) own Q := fun fz s v u H _ r1 r2 => by
  obtain ⟨t, rfl⟩ := r1.str_inv; obtain ⟨t', rfl⟩ := r2.str_inv
  exact SB.contains (at_tok H _ (.dat (.bool _)) h)

/-! ### data compared -/
theorem cmp_neD {a b : PyData} {Q : V → Own → Prop} (ha : SeqAt.shaped a = true) (hb : SeqAt.shaped b = true) (hu : A.units + 64 < cLine) (h : Q (.bool (!PyData.eqv a b)) own) :
    S2 W A RV (compareOp .NotEq) (.dat a) (.dat b) own Q := fun fz s v u H _ r1 r2 => by
  cases r1 with | dat r1 => cases r2 with | dat r2 =>
  exact SeqAt.compareNe_shaped (Reads.keeps H.has r1) (Reads.keeps H.has r2) ha hb hu (at_tok H _ (.dat (.bool _)) h)
end
section
variable {W : Wd} {A : Around} {env : Env} {own : Own}

/-! ### a heap with one object more -/
noncomputable def freedO : Obj := { cls := .none, data := .freed }
noncomputable def putH (h : Heap) (a : Addr) (o : Obj) : Heap := ⟨(h.objs ++ Array.replicate (a + 1 - h.objs.size) freedO).setIfInBounds a o, h.life⟩
theorem get?_of_objs {h : Heap} {b : Addr} : h.get? b = match h.objs[b]? with | some ⟨_, _, .freed, _⟩ => none | o => o := rfl
theorem putH_get {h : Heap} {a : Addr} {o : Obj} (ho : o.isFreed = false) (b : Addr) : (putH h a o).get? b = if b = a then some o else h.get? b := by
  have hsz : a < (h.objs ++ Array.replicate (a + 1 - h.objs.size) freedO).size := by
    have e : (h.objs ++ Array.replicate (a + 1 - h.objs.size) freedO).size = h.objs.size + (a + 1 - h.objs.size) := by rw [Array.size_append, Array.size_replicate]
    rw [e]; show a < h.objs.size + (a + 1 - h.objs.size); exact (by (first | decide | exact Nat.le_trans (by assumption) (by decide) | lia | omega) : ∀ x y : Nat, x < y + (x + 1 - y)) a h.objs.size
  have hne : ∀ b, b ≠ a → (putH h a o).objs[b]? = (h.objs ++ Array.replicate (a + 1 - h.objs.size) freedO)[b]? := fun b hb => by
    unfold putH; exact Array.getElem?_setIfInBounds_ne (Ne.symm hb)
  by_cases hb : b = a
  · subst hb
    rw [if_pos rfl, get?_of_objs]
    have : (putH h b o).objs[b]? = some o := by unfold putH; exact Array.getElem?_setIfInBounds_self_of_lt hsz
    rw [this]
    obtain ⟨c, d, dt, sl⟩ := o
    cases dt <;> first | rfl | cases ho
  · rw [if_neg hb, get?_of_objs, hne b hb, get?_of_objs]
    by_cases hlt : b < h.objs.size
    · rw [Array.getElem?_append_left hlt]
    · have e1 : h.objs[b]? = none := Array.getElem?_eq_none (Nat.not_lt.mp hlt)
      rw [e1, Array.getElem?_append_right (Nat.not_lt.mp hlt), Array.getElem?_replicate]
      by_cases hc : b - h.objs.size < a + 1 - h.objs.size
      · rw [if_pos hc]; rfl
      · rw [if_neg hc]
theorem putH_keep {h : Heap} {a : Addr} {o : Obj} (ho : o.isFreed = false) (hn : h.get? a = none) : Keep h (putH h a o) := fun b x e => by
  rw [putH_get ho]
  by_cases hb : b = a
  · subst hb; rw [hn] at e; cases e
  · rw [if_neg hb]; exact e
theorem putH_at {h : Heap} {a : Addr} {o : Obj} (ho : o.isFreed = false) : (putH h a o).get? a = some o := by rw [putH_get ho, if_pos rfl]

/-- a new object is frozen at once -/
theorem Hold.frz {fz : Heap} {s : Shared} (H : Hold W fz own s) {h' : Heap} {k : Nat} {a : Addr} {o : Obj} (ho : o.isFreed = false) (hk : Keep s.heap h') (ha : s.heap.get? a = none) (hh : h'.get? a = some o) :
    Keep fz (putH fz a o) ∧ Hold W (putH fz a o) own { s with heap := h', toks := k } := by
  have hn : fz.get? a = none := by
    cases e : fz.get? a with
    | none => rfl
    | some x => exact absurd (H.has _ _ e) (by rw [ha]; exact fun y => nomatch y)
  have kk := putH_keep (o := o) ho hn
  refine ⟨kk, ⟨H.base.trans kk, fun b x e => ?_, fun p hp => ?_, fun p hp => ?_, H.nd, H.gens, H.os⟩⟩
  · rw [putH_get ho] at e
    by_cases hb : b = a
    · subst hb; rw [if_pos rfl] at e; cases e; exact hh
    · rw [if_neg hb] at e; exact hk _ _ (H.has _ _ e)
  · obtain ⟨x, e, r⟩ := H.obs p hp
    exact ⟨x, hk _ _ e, r.mono kk⟩
  · rw [putH_get ho]
    have : p.1 ≠ a := fun e => by obtain ⟨x, e', _⟩ := H.obs p hp; rw [e, ha] at e'; cases e'
    rw [if_neg this]; exact H.out p hp

/-- an owned object is frozen -/
theorem Hold.freeze {fz : Heap} {s : Shared} {a : Addr} {ob : Ob} (H : Hold W fz ((a, ob) :: own) s) : ∃ o, s.heap.get? a = some o ∧ ObIs fz ob o ∧ o.isFreed = false ∧ Keep fz (putH fz a o) ∧ Hold W (putH fz a o) own s := by
  obtain ⟨o, ho, r⟩ := H.obs _ List.mem_cons_self
  have hf : o.isFreed = false := by
    have e := ho
    rw [get?_of_objs] at e
    obtain ⟨c, d, dt, sl⟩ := o
    cases dt <;> first | rfl | (exfalso; revert e; cases hq : s.heap.objs[a]? with
      | none => intro e; cases e
      | some x => obtain ⟨c', d', dt', sl'⟩ := x; cases dt' <;> intro e <;> cases e)
  have hn := H.out _ List.mem_cons_self
  have kk := putH_keep (o := o) hf hn
  refine ⟨o, ho, r, hf, kk, ⟨H.base.trans kk, fun b x e => ?_, fun p hp => ?_, fun p hp => ?_, ?_, H.gens.sub (List.sublist_cons_self _ _), H.os⟩⟩
  · rw [putH_get hf] at e
    by_cases hb : b = a
    · subst hb; rw [if_pos rfl] at e; cases e; exact ho
    · rw [if_neg hb] at e; exact H.has _ _ e
  · obtain ⟨x, e, r⟩ := H.obs p (List.mem_cons_of_mem _ hp)
    exact ⟨x, e, r.mono kk⟩
  · rw [putH_get hf]
    have : p.1 ≠ a := fun e => by
      have nd := H.nd
      rw [List.map_cons, List.nodup_cons] at nd
      exact nd.1 (List.mem_map.mpr ⟨p, hp, e⟩)
    rw [if_neg this]; exact H.out p (List.mem_cons_of_mem _ hp)
  · have nd := H.nd
    rw [List.map_cons, List.nodup_cons] at nd
    exact nd.2

/-! ### all data -/
inductive AllDat : List V → List PyData → Prop
  | nil : AllDat [] []
  | cons {d : PyData} {l : List V} {ds : List PyData} : AllDat l ds → AllDat (.dat d :: l) (d :: ds)
theorem AllDat.eq {l : List V} {ds : List PyData} (x : AllDat l ds) : l = ds.map V.dat := by
  induction x with
  | nil => rfl
  | cons _ ih => rw [ih]; rfl
theorem AllDat.map (ds : List PyData) : AllDat (ds.map V.dat) ds := by
  induction ds with
  | nil => exact .nil
  | cons d ds ih => exact .cons ih
theorem AllDat.length {l : List V} {ds : List PyData} (x : AllDat l ds) : l.length = ds.length := by rw [x.eq, List.length_map]

theorem rv_list {fz : Heap} {a : Addr} {vs : List Value} {n : Nat} {ds : List PyData} (h : fz.get? a = some (listObj vs n)) (r : RVs fz (ds.map V.dat) vs) : RV fz (.lst ds) (.ref a) := by
  obtain ⟨as, ra⟩ := r.reads
  exact .dat (.list h rfl rfl (by simpa using ra))
theorem rv_tuple {fz : Heap} {a : Addr} {vs : List Value} {n : Nat} {ds : List PyData} (h : fz.get? a = some (tupObj vs n)) (r : RVs fz (ds.map V.dat) vs) : RV fz (.tup ds) (.ref a) := by
  obtain ⟨as, ra⟩ := r.reads
  exact .dat (.tuple h rfl rfl (by simpa using ra))

/-! ### displays -/
noncomputable abbrev SEs (W : Wd) (A : Around) (env : Env) (pos : Pos) (l : List Expr) (own : Own) (Q : List V → Own → Prop) : Prop := SG W A RVs (spliced (backTo pos (starEach l env))) own Q
theorem SEs_nil {pos : Pos} {Q : List V → Own → Prop} (h : Q [] own) : SEs W A env pos [] own Q := fun fz s H _ => Calls.spliced_nil ⟨fz, _, own, .refl _, H, .nil, h⟩
theorem SEs_cons {pos : Pos} {e : Expr} {rest : List Expr} {Q : List V → Own → Prop} (h : SE W A env e own fun a o1 => SEs W A env pos rest o1 fun l o2 => Q (a :: l) o2)
    (he : starEach (e :: rest) env = (false, eval e env) :: starEach rest env := by rfl) : SEs W A env pos (e :: rest) own Q := fun fz s H ht => by
  unfold At
  rw [he]
  show wpAny _ _ (spliced ((false, eval e env) :: backTo pos (starEach rest env))) _ _ _
  refine Calls.spliced_cons (wp_then (h fz s H ht) ht fun fz1 va a o1 s1 k1 H1 t1 r1 q1 => wp_then (q1 fz1 s1 H1 t1) t1 fun fz2 vl l o2 s2 k2 H2 t2 r2 q2 => ?_)
  exact ⟨fz2, _, o2, k1.trans k2, H2, .cons (r1.mono k2) r2, q2⟩

/-- a list that may be turned -/
theorem SE_List {elts : List Expr} {pos : Pos} {Q : V → Own → Prop} (hz : elts.length ≤ sizeLine) (h : SEs W A env pos elts own fun l o1 => l.length ≤ sizeLine ∧ ∀ a, Q (.ref a) ((a, .list l) :: o1)) : SE W A env (.List elts pos) own Q := fun fz s H ht => by
  refine List_ (wp_then (h fz s H ht) ht fun fz1 vs l o1 s1 k1 H1 t1 r1 q1 => ?_)
  refine wpAny_newObj_type ?_ (by show vs.toArray.size ≤ sizeLine; rw [List.size_toArray, ← r1.length]; exact q1.1)
  exact ⟨fz1, _, _, k1, H1.new (ob := .list l) (k := s1.toks) (Keep.push _ _) (get?_ge (Nat.le_refl _)) (Heap.get?_push_size _ rfl) ⟨vs, 0, rfl, r1⟩, .val _, q1.2 _⟩
/-- a list that stays as it is -/
theorem SE_ListF {elts : List Expr} {pos : Pos} {Q : V → Own → Prop} (h : SEs W A env pos elts own fun l o1 => ∃ ds, AllDat l ds ∧ ds.length ≤ sizeLine ∧ Q (.lst ds) o1) : SE W A env (.List elts pos) own Q := fun fz s H ht => by
  refine List_ (wp_then (h fz s H ht) ht fun fz1 vs l o1 s1 k1 H1 t1 r1 q1 => ?_)
  obtain ⟨ds, ad, hz, q⟩ := q1
  refine wpAny_newObj_type ?_ (by show vs.toArray.size ≤ sizeLine; rw [List.size_toArray, ← r1.length, ad.length]; exact hz)
  obtain ⟨kk, H'⟩ := H1.frz (k := s1.toks) (o := listObj vs 0) rfl (Keep.push _ _) (get?_ge (Nat.le_refl _)) (Heap.get?_push_size _ rfl)
  exact ⟨_, _, o1, k1.trans kk, H', rv_list (putH_at rfl) (by rw [← ad.eq]; exact r1.mono kk), q⟩
theorem SE_TupleF {elts : List Expr} {k : Nat} {pos : Pos} {Q : V → Own → Prop} (h : SEs W A env pos elts own fun l o1 => ∃ ds, AllDat l ds ∧ ds.length ≤ sizeLine ∧ Q (.tup ds) o1) : SE W A env (.Tuple elts k pos) own Q := fun fz s H ht => by
  refine Tuple_ (wp_then (h fz s H ht) ht fun fz1 vs l o1 s1 k1 H1 t1 r1 q1 => ?_)
  obtain ⟨ds, ad, hz, q⟩ := q1
  refine wpAny_newObj_type ?_ (by show vs.toArray.size ≤ sizeLine; rw [List.size_toArray, ← r1.length, ad.length]; exact hz)
  obtain ⟨kk, H'⟩ := H1.frz (k := s1.toks) (o := tupObj vs 0) rfl (Keep.push _ _) (get?_ge (Nat.le_refl _)) (Heap.get?_push_size _ rfl)
  exact ⟨_, _, o1, k1.trans kk, H', rv_tuple (putH_at rfl) (by rw [← ad.eq]; exact r1.mono kk), q⟩
/-- a tuple that holds made things -/
theorem SE_Tuple {elts : List Expr} {k : Nat} {pos : Pos} {Q : V → Own → Prop} (h : SEs W A env pos elts own fun l o1 => l.length ≤ sizeLine ∧ ∀ a, Q (.ref a) ((a, .tup l) :: o1)) : SE W A env (.Tuple elts k pos) own Q := fun fz s H ht => by
  refine Tuple_ (wp_then (h fz s H ht) ht fun fz1 vs l o1 s1 k1 H1 t1 r1 q1 => ?_)
  refine wpAny_newObj_type ?_ (by show vs.toArray.size ≤ sizeLine; rw [List.size_toArray, ← r1.length]; exact q1.1)
  exact ⟨fz1, _, _, k1, H1.new (ob := .tup l) (k := s1.toks) (Keep.push _ _) (get?_ge (Nat.le_refl _)) (Heap.get?_push_size _ rfl) ⟨vs, 0, rfl, r1⟩, .val _, q1.2 _⟩

/-! ### items -/
theorem rvs_dat_get {fz : Heap} {ds : List PyData} {vs : List Value} (r : RVs fz (ds.map V.dat) vs) {i : Nat} {d : PyData} (h : ds[i]? = some d) : ∃ v, vs[i]? = some v ∧ RV fz (.dat d) v :=
  r.get (by rw [List.getElem?_map, h]; rfl)

/-- the place of an index -/
noncomputable def place (k : Int) (n : Nat) : Nat := if k < 0 then (k + n).toNat else k.toNat
theorem sub_lst {o i : Expr} {l : List PyData} {k : Int} {d : PyData} {Q : V → Own → Prop} (hlo : -(l.length : Int) ≤ k) (hhi : k < (l.length : Int)) (hz : l.length ≤ sizeLine) (hx : l[place k l.length]? = some d) (h : Q (.dat d) own)
    (hs : ∀ v u, subscripted i false v u = operate [v, u] (getItem v u) := by intro _ _; with_unfolding_all rfl) : S2 W A RV (subscriptTail o i) (.lst l) (.int k) own Q := fun fz s v u H _ r1 r2 => by
  obtain ⟨t, rfl⟩ := r2.int_inv
  obtain ⟨a, vs, rfl, hl, rs⟩ := r1.lst_inv
  obtain ⟨x, e, r⟩ := rvs_dat_get rs hx
  have hlen := rs.length
  rw [List.length_map] at hlen
  have hsz : vs.toList.length = vs.size := Array.length_toList
  rw [sizeLine_eq] at hz
  have hl' := IsList_keep hl H.has
  unfold place at e
  rw [hlen, hsz] at e
  by_cases hk : k < 0
  · rw [if_pos hk] at e
    exact tail_any hl'.typeIs slot_list_getitem.lookup (wpAny_getItem_list_neg hl' hk (by (first | decide | exact Nat.le_trans (by assumption) (by decide) | lia | omega)) (by (first | decide | exact Nat.le_trans (by assumption) (by decide) | lia | omega)) (by rw [← Array.getElem?_toList]; exact e) ⟨fz, _, own, .refl _, H, r, h⟩) (hs _ _)
  · rw [if_neg hk] at e
    exact tail_any hl'.typeIs slot_list_getitem.lookup (wpAny_getItem_list hl' (by (first | decide | exact Nat.le_trans (by assumption) (by decide) | lia | omega)) (by (first | decide | exact Nat.le_trans (by assumption) (by decide) | lia | omega)) (by rw [← Array.getElem?_toList]; exact e) ⟨fz, _, own, .refl _, H, r, h⟩) (hs _ _)
theorem sub_own {o i : Expr} {a : Addr} {l : List V} {k : Int} {d : V} {Q : V → Own → Prop} (hm : (a, Ob.list l) ∈ own) (hlo : -(l.length : Int) ≤ k) (hhi : k < (l.length : Int)) (hz : l.length ≤ sizeLine) (hx : l[place k l.length]? = some d) (h : Q d own)
    (hs : ∀ v u, subscripted i false v u = operate [v, u] (getItem v u) := by intro _ _; with_unfolding_all rfl) : S2 W A RV (subscriptTail o i) (.ref a) (.int k) own Q := fun fz s v u H _ r1 r2 => by
  obtain ⟨t, rfl⟩ := r2.int_inv
  cases r1.val_inv
  obtain ⟨ob, ho, vs, n, rfl, rs⟩ := H.get hm
  obtain ⟨x, e, r⟩ := rs.get hx
  have hlen := rs.length
  rw [sizeLine_eq] at hz
  have hl' : s.heap.IsList a vs.toArray := ⟨_, ho, rfl, n, rfl⟩
  unfold place at e
  rw [hlen] at e
  by_cases hk : k < 0
  · rw [if_pos hk] at e
    exact tail_any hl'.typeIs slot_list_getitem.lookup (wpAny_getItem_list_neg hl' hk (by simp only [List.size_toArray]; (first | decide | exact Nat.le_trans (by assumption) (by decide) | lia | omega)) (by (first | decide | exact Nat.le_trans (by assumption) (by decide) | lia | omega)) (by simpa using e) ⟨fz, _, own, .refl _, H, r, h⟩) (hs _ _)
  · rw [if_neg hk] at e
    exact tail_any hl'.typeIs slot_list_getitem.lookup (wpAny_getItem_list hl' (by (first | decide | exact Nat.le_trans (by assumption) (by decide) | lia | omega)) (by (first | decide | exact Nat.le_trans (by assumption) (by decide) | lia | omega)) (by simpa using e) ⟨fz, _, own, .refl _, H, r, h⟩) (hs _ _)
theorem seqIndex_place {k : Int} {n : Nat} (hlo : -(n : Int) ≤ k) (hhi : k < (n : Int)) : seqIndex? k n = some (place k n) := by
  unfold seqIndex? place
  by_cases hk : k < 0
  · have h1 : (0 : Int) ≤ k + n := by (first | decide | exact Nat.le_trans (by assumption) (by decide) | lia | omega)
    have h2 : k + n < (n : Int) := by (first | decide | exact Nat.le_trans (by assumption) (by decide) | lia | omega)
    simp [hk, h1, h2]
  · have h1 : (0 : Int) ≤ k := by (first | decide | exact Nat.le_trans (by assumption) (by decide) | lia | omega)
    simp [hk, h1, hhi]
theorem sub_tup {o i : Expr} {l : List PyData} {k : Int} {d : PyData} {Q : V → Own → Prop} (hlo : -(l.length : Int) ≤ k) (hhi : k < (l.length : Int)) (hz : l.length ≤ sizeLine) (hx : l[place k l.length]? = some d) (h : Q (.dat d) own)
    (hs : ∀ v u, subscripted i false v u = operate [v, u] (getItem v u) := by intro _ _; with_unfolding_all rfl) : S2 W A RV (subscriptTail o i) (.tup l) (.int k) own Q := fun fz s v u H _ r1 r2 => by
  obtain ⟨t, rfl⟩ := r2.int_inv
  obtain ⟨a, vs, rfl, hl, rs⟩ := r1.tup_inv
  obtain ⟨x, e, r⟩ := rvs_dat_get rs hx
  have hlen := rs.length
  rw [List.length_map] at hlen
  have hsz : vs.toList.length = vs.size := Array.length_toList
  rw [sizeLine_eq] at hz
  have hl' := IsTuple_keep hl H.has
  exact tail_any hl'.typeIs slot_tuple_getitem.lookup (getItem_tuple hl' (by (first | decide | exact Nat.le_trans (by assumption) (by decide) | lia | omega)) (by (first | decide | exact Nat.le_trans (by assumption) (by decide) | lia | omega)) (by rw [show vs.size = l.length by (first | decide | exact Nat.le_trans (by assumption) (by decide) | lia | omega)]; exact seqIndex_place hlo hhi) (by rw [← Array.getElem?_toList]; exact e) ⟨fz, _, own, .refl _, H, r, h⟩) (hs _ _)
theorem sub_str {o i : Expr} {x : Str} {k : Int} {c : Nat} {Q : V → Own → Prop} (hlo : -(x.length : Int) ≤ k) (hhi : k < (x.length : Int)) (hz : x.length ≤ sizeLine) (hx : x.cps[place k x.length]? = some c) (h : Q (.str ⟨#[c]⟩) own)
    (hs : ∀ v u, subscripted i false v u = operate [v, u] (getItem v u) := by intro _ _; with_unfolding_all rfl) : S2 W A RV (subscriptTail o i) (.str x) (.int k) own Q := fun fz s v u H _ r1 r2 => by
  obtain ⟨t, rfl⟩ := r2.int_inv
  obtain ⟨t', rfl⟩ := r1.str_inv
  rw [sizeLine_eq] at hz
  have hc : Txt.charAt x k = some c := by unfold Txt.charAt; rw [seqIndex_place hlo hhi]; exact hx
  refine tail_any (typeIs_str s x t') F.slot_str_getitem.lookup (SB.getItem ?_ (by rw [hc]; rfl) ?_) (hs _ _)
  · unfold fitsSsize; simp; (first | decide | exact Nat.le_trans (by assumption) (by decide) | lia | omega)
  · have e : Txt.item x k = ⟨#[c]⟩ := by unfold Txt.item; rw [hc]; rfl
    rw [e]; exact at_tok H _ (.dat (.str _ _)) h

/-! ### appending -/
theorem do_append {a : Addr} {l : List V} {x : V} {own' : Own} {Q : V → Own → Prop} (u : Upd a (.list l) (.list (l ++ [x])) own own') (hz : l.length ≤ sizeLine) (h : Q .none own') :
    S1 W A RV (fun v => call (.builtin "list.append") [.ref a, v]) x own Q := fun fz s v H _ r => by
  obtain ⟨ob, ho, vs, n, rfl, rs⟩ := H.get u.mem
  refine wpAny_list_append_plain (l := a) (items := vs.toArray) ⟨n, ho⟩ (fun h' ⟨n', hl'⟩ hs' => ?_) (hsz := by rw [List.size_toArray, ← rs.length]; exact hz)
  exact ⟨fz, _, own', .refl _, H.set (k := s.toks) u hs' hl' ⟨vs ++ [v], n', by simp [listObj], rs.append (.cons r .nil)⟩, .dat .none, h⟩
end
section
variable {W : Wd} {A : Around} {env : Env} {own : Own}

/-! ### forgetting -/
inductive ObW : Ob → Ob → Prop
  | refl {o : Ob} : ObW o o
  | ns {l l' : List (Str × V)} : l'.Sublist l → ObW (.ns l) (.ns l')
inductive Wk : Own → Own → Prop
  | nil {l : Own} : Wk l []
  | refl {l : Own} : Wk l l
  | keep {a : Addr} {ob ob' : Ob} {l l' : Own} : ObW ob ob' → Wk l l' → Wk ((a, ob) :: l) ((a, ob') :: l')
  | drop {p : Addr × Ob} {l l' : Own} : Wk l l' → Wk (p :: l) l'
theorem ObW.is {fz : Heap} {ob ob' : Ob} {o : Obj} (x : ObW ob ob') (h : ObIs fz ob o) : ObIs fz ob' o := by
  cases x with
  | refl => exact h
  | ns k => obtain ⟨es, ep, h1, h2, h3⟩ := h; exact ⟨es, ep, h1, h2, fun p hp => h3 p (k.subset hp)⟩
theorem Wk.gens {own own' : Own} (x : Wk own own') {gs : Array GenState} (G : GensIs own gs) : GensIs own' gs := by
  have key : ∀ {own own' : Own}, Wk own own' → (∀ p' ∈ own', ∀ g P, p'.2 = .gen g P → p' ∈ own) ∧ (own'.filterMap fun p => p.2.genOf).Sublist (own.filterMap fun p => p.2.genOf) := by
    intro own own' x
    induction x with
    | nil => exact ⟨fun p hp => (nomatch hp), List.nil_sublist _⟩
    | refl => exact ⟨fun p hp _ _ _ => hp, List.Sublist.refl _⟩
    | @keep a ob ob' l l' h _ ih =>
      refine ⟨fun p hp g P e => ?_, ?_⟩
      · rcases List.mem_cons.mp hp with rfl | hp
        · cases h with
          | refl => exact List.mem_cons_self
          | ns _ => cases e
        · exact List.mem_cons_of_mem _ (ih.1 p hp g P e)
      · have : ob'.genOf = ob.genOf := by cases h <;> rfl
        rw [List.filterMap_cons, List.filterMap_cons, show (a, ob').2.genOf = ob.genOf from this, show (a, ob).2.genOf = ob.genOf from rfl]
        cases ob.genOf with
        | none => exact ih.2
        | some n => exact ih.2.cons_cons n
    | @drop p l l' _ ih =>
      exact ⟨fun p hp g P e => List.mem_cons_of_mem _ (ih.1 p hp g P e), ih.2.trans ((List.sublist_cons_self _ _).filterMap _)⟩
  obtain ⟨k1, k2⟩ := key x
  exact ⟨G.bare, fun p hp g P e => G.st p (k1 p hp g P e) g P e, G.nd.sublist k2⟩
theorem Wk.hold {fz : Heap} {own own' : Own} (x : Wk own own') : ∀ {s : Shared}, Hold W fz own s → Hold W fz own' s := by
  have key : ∀ {own own' : Own}, Wk own own' → (∀ p' ∈ own', ∃ p ∈ own, p.1 = p'.1 ∧ ObW p.2 p'.2) ∧ (own'.map (·.1)).Sublist (own.map (·.1)) := by
    intro own own' x
    induction x with
    | nil => exact ⟨fun p hp => (nomatch hp), List.nil_sublist _⟩
    | refl => exact ⟨fun p hp => ⟨p, hp, rfl, .refl⟩, List.Sublist.refl _⟩
    | @keep a ob ob' l l' h _ ih =>
      refine ⟨fun p hp => ?_, by simpa using ih.2⟩
      rcases List.mem_cons.mp hp with rfl | hp
      · exact ⟨(a, ob), List.mem_cons_self, rfl, h⟩
      · obtain ⟨q, hq, r⟩ := ih.1 p hp; exact ⟨q, List.mem_cons_of_mem _ hq, r⟩
    | @drop p l l' _ ih =>
      refine ⟨fun p hp => ?_, ?_⟩
      · obtain ⟨q, hq, r⟩ := ih.1 p hp; exact ⟨q, List.mem_cons_of_mem _ hq, r⟩
      · exact ih.2.trans (by simp)
  intro s H
  obtain ⟨k1, k2⟩ := key x
  refine ⟨H.base, H.has, fun p hp => ?_, fun p hp => ?_, H.nd.sublist k2, x.gens H.gens, H.os⟩
  · obtain ⟨q, hq, e, w⟩ := k1 p hp
    obtain ⟨o, ho, r⟩ := H.obs q hq
    exact ⟨o, e ▸ ho, w.is r⟩
  · obtain ⟨q, hq, e, w⟩ := k1 p hp
    exact e ▸ H.out q hq
theorem Wk.trans {a b : Own} (x : Wk a b) : ∀ {c : Own}, Wk b c → Wk a c := by
  induction x with
  | nil => intro c y; cases y <;> exact .nil
  | refl => intro c y; exact y
  | keep h _ ih =>
    intro c y
    cases y with
    | nil => exact .nil
    | refl => exact .keep h (ih .refl)
    | keep h' y' =>
      refine .keep ?_ (ih y')
      cases h with
      | refl => exact h'
      | ns k => cases h' with
        | refl => exact .ns k
        | ns k' => exact .ns (k'.trans k)
    | drop y' => exact .drop (ih y')
  | drop _ ih => intro c y; exact .drop (ih y)

theorem SG.wk {α β : Type} {R : Heap → β → α → Prop} {t : Sem α} {own own' : Own} {Q : β → Own → Prop} (k : Wk own own') (h : SG W A R t own' Q) : SG W A R t own Q :=
  fun fz s H ht => h fz s (k.hold H) ht

/-! ### calls of the text's own -/
noncomputable abbrev retTo (Q : V → Own → Prop) : Fl → Own → Prop := fun fl o => ∃ own', Wk o own' ∧ Q (match fl with | .ret v => v | _ => .none) own'

theorem zip_lookup {fz : Heap} : ∀ {names : List Str} {l : List V} {vs : List Value}, RVs fz l vs → names.Nodup → ∀ p ∈ names.zip l, ∃ v, (names.zip vs).lookup p.1 = some v ∧ RV fz p.2 v
  | [], _, _, _, _, p, hp => by simp at hp
  | n :: r, _, _, .nil, _, p, hp => by simp at hp
  | n :: r, _, _, .cons (a := a) (v := v) (l := l) (vs := vs) h t, nd, p, hp => by
    rw [List.nodup_cons] at nd
    rw [List.zip_cons_cons, List.mem_cons] at hp
    rcases hp with rfl | hp
    · exact ⟨v, by simp, h⟩
    · obtain ⟨u, e, q⟩ := zip_lookup t nd.2 p hp
      refine ⟨u, ?_, q⟩
      rw [List.zip_cons_cons, List.lookup_cons]
      have hne : p.1 ≠ n := fun e => nd.1 (e ▸ (List.of_mem_zip (show (p.1, p.2) ∈ r.zip l from hp)).1)
      have : (p.1 == n) = false := by simpa using hne
      rw [this]; exact e
theorem lookup_reverse {l : List (Str × Value)} (nd : (l.map (·.1)).Nodup) (x : Str) : l.reverse.lookup x = l.lookup x := by
  induction l with
  | nil => rfl
  | cons p l ih =>
    rw [List.map_cons, List.nodup_cons] at nd
    rw [List.reverse_cons, List.lookup_append, ih nd.2, List.lookup_cons]
    cases e : x == p.1 with
    | true =>
      have : l.lookup x = none := by
        rw [List.lookup_eq_none_iff]
        intro q hq
        have : x ≠ q.1 := fun e' => nd.1 (List.mem_map.mpr ⟨q, hq, by rw [← e', eq_of_beq e]⟩)
        simpa using this
      rw [this]
      obtain ⟨p1, p2⟩ := p
      have e' : (x == p1) = true := e
      simp [List.lookup_cons, e']
    | false =>
      obtain ⟨p1, p2⟩ := p
      have e' : (x == p1) = false := e
      simp [List.lookup_cons, e']

theorem zip_fst {α β : Type} : ∀ {a : List α} {b : List β}, ((a.zip b).map (·.1)).Sublist a
  | [], _ => by simp
  | _ :: _, [] => by simp
  | x :: a, y :: b => by simpa using zip_fst

/-- a call's own code -/
noncomputable def SLC (W : Wd) (A : Around) (f : Value) (args : List V) (own : Own) (Q : V → Own → Prop) : Prop :=
  ∀ fz s vs, Hold W fz own s → W.tk ≤ s.toks → RVs fz args vs → codeAny (model W.prog W.w) A (.call f ⟨vs, []⟩)
    (fun r s' => match r with | .ok (.ret v) => Post W RV Q fz v s' | .ok _ => False | .error _ => False) s
theorem SLC.call {f : Value} {args : List V} {Q : V → Own → Prop} (h : SLC W A f args own Q) : SL W A RV (fun vs => call f vs) args own Q := fun fz s vs H ht rs =>
  wpAny_call (codeAny_mono (h fz s vs H ht rs) fun r s' x => by rcases r with e | (v | _ | _ | _) <;> first | exact x | exact x.elim)
theorem SLC.mono {f : Value} {args : List V} {Q Q' : V → Own → Prop} (h : SLC W A f args own Q) (q : ∀ b o, Q b o → Q' b o) : SLC W A f args own Q' := fun fz s vs H ht rs =>
  codeAny_mono (h fz s vs H ht rs) fun r s' x => by
    rcases r with e | (v | _ | _ | _) <;> first | exact x.elim | skip
    obtain ⟨fz', b, own', k, H', r, x⟩ := x
    exact ⟨fz', b, own', k, H', r, q _ _ x⟩

theorem do_callC {f : Addr} {args : List V} {Q : V → Own → Prop} {name qual : Str} {params : Arguments} {body : List Stmt} {scope : Scope} {dV kV doc pm cdv ct oc : Value} {an od : Option Addr} {osl : Array (Option Value)}
    (names : List Str) (ho : W.K.lookup f = some ⟨oc, od, .func (fnOf name qual params body scope dV kV doc pm an cdv ct), osl⟩) (hcd : codeIn W.K cdv qual = true) (hroom : A.depth < recursionLimit)
    (hb : ∀ s vs, W.K.In s.heap → vs.length = args.length → BindsTo s (fnOf name qual params body scope dV kV doc pm an cdv ct) ⟨vs, []⟩ (names.zip vs))
    (hloc : ∀ y ∈ names, scope.names.lookup y = some .local) (nd : names.Nodup)
    (h : ∀ L, SXs W (A.deeper (envX qual scope L f cdv [])) (envX qual scope L f cdv []) body ((L, .ns (names.zip args)) :: own) (retTo Q))
    (hco : scope.isCoroutine = false := by rfl) (hgen : scope.isGenerator = false := by rfl) (hk : scope.kind = .function := by rfl)
    (hcell : ∀ x ∈ scope.names, x.2 ≠ .cell := by decide) : SLC W A (.ref f) args own Q := fun fz s vs H ht rs => by
  have ndz : ((names.zip vs).map (·.1)).Nodup := nd.sublist zip_fst
  refine (codeAny_call_def (fd := fnOf name qual params body scope dV kV doc pm an cdv ct) (body := body) (binds := names.zip vs) hroom (H.kin _ _ ho) rfl (W.top.nolimit.keeps H.keep) (codeRec_of H.kin hcd) rfl
    (hb s vs H.kin rs.length.symm) hcell (fun x hx => hloc _ (List.of_mem_zip (show (x.1, x.2) ∈ names.zip vs from hx)).1) (fun h₁ hns hk₁ => ?_) hco hgen hk)
  obtain ⟨o, ho', hob⟩ := of_ns (fz := fz) (loc := names.zip args) hns (fun p hp => by
    obtain ⟨v, e, r⟩ := zip_lookup rs nd p hp
    exact ⟨v, by rw [lookup_reverse ndz]; exact e, r⟩)
  have H₁ : Hold W fz ((s.heap.objs.size, .ns (names.zip args)) :: own) { s with heap := h₁, toks := s.toks + (names.zip vs).length } := H.new hk₁ (get?_ge (Nat.le_refl _)) ho' hob
  refine wpAny_mono (h s.heap.objs.size fz _ H₁ (Nat.le_trans ht (Nat.le_add_right _ _))) (fun fl s' x => ?_) fun _ _ x => x.elim
  obtain ⟨fz', b, own', k, H', r, own'', wk, q⟩ := x
  refine ⟨fz', _, own'', k, wk.hold H', ?_, q⟩
  cases r with
  | next => exact .dat .none
  | brk => exact .dat .none
  | cont => exact .dat .none
  | ret r => exact r

/-! ### iterators -/
theorem rvs_drop {fz : Heap} {x : V} {l : List V} {vs : List Value} {i : Nat} (r : RVs fz (x :: l) (vs.drop i)) : ∃ v, vs[i]? = some v ∧ RV fz x v ∧ RVs fz l (vs.drop (i + 1)) := by
  generalize e : vs.drop i = ws at r
  cases r with
  | cons h t =>
    refine ⟨_, by rw [← List.head?_drop, e]; rfl, h, ?_⟩
    rw [← List.tail_drop, e]; exact t
theorem rvs_drop_nil {fz : Heap} {vs : List Value} {i : Nat} (r : RVs fz [] (vs.drop i)) : vs[i]? = none := by
  generalize e : vs.drop i = ws at r
  cases r
  rw [← List.head?_drop, e]; rfl

theorem it_list {l : List PyData} {Q : V → Own → Prop} (h : ∀ a, Q (.ref a) ((a, .it (l.map V.dat)) :: own)) : S1 W A RV pyIter (.lst l) own Q := fun fz s v H _ r => by
  obtain ⟨a, vs, rfl, hl, rs⟩ := r.lst_inv
  refine wpAny_pyIter_list (IsList_keep hl H.has) ?_
  exact ⟨fz, _, _, .refl _, H.new (ob := .it (l.map V.dat)) (k := s.toks) (Keep.push _ _) (get?_ge (Nat.le_refl _)) (Heap.get?_push_size _ rfl) (.list hl (by simpa using rs) rfl rfl), .val _, h _⟩
theorem it_str {x : Str} {Q : V → Own → Prop} (h : ∀ a, Q (.ref a) ((a, .it (x.cps.toList.map fun c => V.str ⟨#[c]⟩)) :: own)) : S1 W A RV pyIter (.str x) own Q := fun fz s v H _ r => by
  obtain ⟨t, rfl⟩ := r.str_inv
  cases ha : x.cps.all (· < 128)
  · refine wpAny_pyIter_wide ha ?_
    exact ⟨fz, _, _, .refl _, H.new (ob := .it (x.cps.toList.map fun c => V.str ⟨#[c]⟩)) (k := s.toks) (Keep.push _ _) (get?_ge (Nat.le_refl _)) (Heap.get?_push_size _ rfl) (.wide rfl rfl rfl), .val _, h _⟩
  · refine wpAny_pyIter_ascii ha ?_
    exact ⟨fz, _, _, .refl _, H.new (ob := .it (x.cps.toList.map fun c => V.str ⟨#[c]⟩)) (k := s.toks) (Keep.push _ _) (get?_ge (Nat.le_refl _)) (Heap.get?_push_size _ rfl) (.ascii rfl rfl rfl), .val _, h _⟩
theorem it_range {a b c : Int} {n : Nat} {Q : V → Own → Prop} (hs : Builtin.Range.small a b c = true) (hn : Builtin.Range.rangeSize a b c = (n : Int)) (h : ∀ i, Q (.ref i) ((i, .it ((List.range n).map fun j : Nat => V.int (a + (j : Int) * c))) :: own)) :
    S1 W A RV pyIter (.rng a b c) own Q := fun fz s v H _ r => by
  cases r with
  | rng r =>
  refine wpAny_pyIter_range (IsRange_keep r H.has) hs ?_
  rw [hn]
  exact ⟨fz, _, _, .refl _, H.new (ob := .it ((List.range n).map fun j : Nat => V.int (a + (j : Int) * c))) (k := s.toks) (Keep.push _ _) (get?_ge (Nat.le_refl _)) (Heap.get?_push_size _ rfl) (.range rfl rfl), .val _, h _⟩

/-- one more is drawn -/
theorem next_some {a : Addr} {x : V} {l : List V} {fz : Heap} {s : Shared} {own' : Own} {P : Option Value → Shared → Prop} (H : Hold W fz own s) (u : Upd a (.it (x :: l)) (.it l) own own')
    (q : ∀ v s', Hold W fz own' s' → s.toks ≤ s'.toks → RV fz x v → P (some v) s') : wpAny (model W.prog W.w) A (pyNext (.ref a)) P NoX s := by
  obtain ⟨o, ho, hob⟩ := H.get u.mem
  cases hob with
  | @list b vs i _ _ hl rs hc hd =>
    obtain ⟨v, e, rx, rl⟩ := rvs_drop rs
    refine wpAny_pyNext_list_item (l := b) (i := i) ⟨o, ho, hc, hd⟩ (IsList_keep hl H.has) (by rw [← Array.getElem?_toList]; exact e) fun h' ⟨o', ho', hc', hd'⟩ hs' => ?_
    exact q v _ (H.set (k := s.toks) u hs' ho' (.list hl rl hc' (by exact hd'))) (Nat.le_refl _) rx
  | @tup b vs i _ _ hl rs hc hd =>
    obtain ⟨v, e, rx, rl⟩ := rvs_drop rs
    refine wpAny_pyNext_tuple_item (t := b) (i := i) ⟨o, ho, hc, hd⟩ (IsTuple_keep hl H.has) (by rw [← Array.getElem?_toList]; exact e) fun h' ⟨o', ho', hc', hd'⟩ hs' => ?_
    exact q v _ (H.set (k := s.toks) u hs' ho' (.tup hl rl hc' (by exact hd'))) (Nat.le_refl _) rx
  | @range y c n _ _ hl e =>
    subst e
    cases n with
    | zero => cases hl
    | succ n =>
      rw [List.range_succ_eq_map, List.map_cons, List.map_map] at hl
      injection hl with e1 e2
      refine wpAny_pyNext_range_item (x := y) (left := ((n + 1 : Nat) : Int)) (step := c) (by exact ho) (by (first | decide | exact Nat.le_trans (by assumption) (by decide) | lia | omega)) fun h' hit hs' => ?_
      refine q _ _ (H.set (k := s.toks + 1) u hs' (by exact hit) (.range (x := y + c) (n := n) (c := c) ?_ ?_)) (Nat.le_succ _) ?_
      · rw [e2]; apply List.map_congr_left; intro j _
        have : y + ((Nat.succ j : Nat) : Int) * c = y + c + (j : Int) * c := by
          rw [Nat.succ_eq_add_one]; push_cast; rw [Int.add_mul, Int.one_mul]; (first | decide | exact Nat.le_trans (by assumption) (by decide) | lia | omega)
        show V.int (y + ((Nat.succ j : Nat) : Int) * c) = _
        rw [this]
      · have : (((n + 1 : Nat) : Int) - 1) = (n : Int) := by push_cast; (first | decide | exact Nat.le_trans (by assumption) (by decide) | lia | omega)
        rw [this]
      · rw [e1]; simp; exact .dat (.int _ _)
  | @ascii y t i _ _ hl hc hd =>
    have e : y.cps[i]? = (y.cps.toList.drop i).head? := by rw [List.head?_drop, Array.getElem?_toList]
    have tl : y.cps.toList.drop (i + 1) = (y.cps.toList.drop i).tail := (List.tail_drop ..).symm
    cases hq : y.cps.toList.drop i with
    | nil => rw [hq] at hl; cases hl
    | cons c r =>
      rw [hq] at hl e tl
      injection hl with e1 e2
      refine wpAny_pyNext_ascii_item (x := y) (t := t) (i := i) (c := c) ⟨o, ho, hc, hd⟩ e fun h' ⟨o', ho', hc', hd'⟩ hs' => ?_
      exact q _ _ (H.set (k := s.toks + 1) u hs' ho' (.ascii (by rw [tl]; exact e2) hc' (by exact hd'))) (Nat.le_succ _) (by rw [e1]; exact .dat (.str _ _))
  | @wide y t i _ _ hl hc hd =>
    have e : y.cps[i]? = (y.cps.toList.drop i).head? := by rw [List.head?_drop, Array.getElem?_toList]
    have tl : y.cps.toList.drop (i + 1) = (y.cps.toList.drop i).tail := (List.tail_drop ..).symm
    cases hq : y.cps.toList.drop i with
    | nil => rw [hq] at hl; cases hl
    | cons c r =>
      rw [hq] at hl e tl
      injection hl with e1 e2
      refine wpAny_pyNext_wide_item (x := y) (t := t) (i := i) (c := c) ⟨o, ho, hc, hd⟩ e fun h' ⟨o', ho', hc', hd'⟩ hs' => ?_
      exact q _ _ (H.set (k := s.toks + 1) u hs' ho' (.wide (by rw [tl]; exact e2) hc' (by exact hd'))) (Nat.le_succ _) (by rw [e1]; exact .dat (.str _ _))

theorem Hold.extBut {fz : Heap} {s : Shared} {a : Addr} {ob : Ob} (H : Hold W fz ((a, ob) :: own) s) {h' : Heap} {k : Nat} (he : Heap.ExtBut a s.heap h') : Hold W fz own { s with heap := h', toks := k } where
  base := H.base
  has := fun b o e => he b o (fun hb => by have := H.out _ List.mem_cons_self; rw [hb] at e; exact absurd e (by rw [this]; exact fun x => nomatch x)) (H.has b o e)
  obs := fun p hp => by
    obtain ⟨o, e, r⟩ := H.obs p (List.mem_cons_of_mem _ hp)
    have nd := H.nd
    rw [List.map_cons, List.nodup_cons] at nd
    exact ⟨o, he _ _ (fun hb => nd.1 (List.mem_map.mpr ⟨p, hp, hb⟩)) e, r⟩
  out := fun p hp => H.out p (List.mem_cons_of_mem _ hp)
  nd := by have nd := H.nd; rw [List.map_cons, List.nodup_cons] at nd; exact nd.2
  gens := H.gens.sub (List.sublist_cons_self _ _)
  os := H.os

theorem next_over {prog : Program} {w : World} {E : Value → Shared → Prop} {s : Shared} {it : Addr} {o : Obj} {k : Value} {Q : Option Value → Shared → Prop} (hh : A.handled = none)
    (ho : s.heap.get? it = some o) (hc : o.cls = .type "list_iterator") (hd : o.data = .fields #[.none, k])
    (hQ : ∀ h', Keep s.heap h' → Q none { s with heap := h' }) : wpAny (model prog w) A (pyNext (.ref it)) Q E s := by
  have hT : s.TypeIs (.ref it) "list_iterator" := ⟨o, ho, hc⟩
  unfold pyNext
  refine wpAny_bind (wpAny_attempt (wpAny_callSpecial?_slot (name := Str.ofString "__next__") hT slot_listiter_next
    (wpAny_call_entry slot_listiter_next hT entry_listiter_next ?_ (args_listiter_next _))))
  show wpAny _ _ (field (.ref it) 0 >>= _) _ _ s
  refine wpAny_bind (wpAny_field ho hd (x := .none) rfl ?_)
  show wpAny _ _ (if (Value.none == Value.none) = true then _ else _) _ _ s
  rw [if_pos (show ((Value.none == Value.none) = true) from rfl)]
  refine wpAny_bind (wpAny_rule ?_)
  refine wpAny_bind ?_
  show wpAny _ _ (newExc (.type "StopIteration") [] >>= _) _ _ _
  refine wpAny_bind ?_
  simp only [newExc, newTuple]
  refine wpAny_bind (wpAny_newObj_type ?_ (by size_fits))
  refine wpAny_bind (m := firstArgMember _ _) (wpAny_of_eq (a := Value.none) (by first | rfl | (simp only [firstArgMember]; rfl)) ?_)
  refine wpAny_newObj_type ?_ (by size_fits)
  simp only [raiseNew]
  refine wpAny_bind (wpAny_handled ?_)
  rw [show A.in1.handled = none from hh]
  refine wpAny_bind (wpAny_pure (wpAny_throw ?_))
  refine wpAny_bind (wpAny_isInstance (T := "StopIteration") (b := true) ⟨_, Heap.get?_push_size _ rfl, rfl⟩ isSubtype_stop ?_)
  exact wpAny_pure (hQ _ ((Keep.push _ _).trans (Keep.push _ _)))

theorem next_none {a : Addr} {fz : Heap} {s : Shared} {P : Option Value → Shared → Prop} (hh : A.handled = none) (H : Hold W fz ((a, .it []) :: own) s)
    (q : ∀ s', Hold W fz own s' → s.toks ≤ s'.toks → P none s') : wpAny (model W.prog W.w) A (pyNext (.ref a)) P NoX s := by
  obtain ⟨o, ho, hob⟩ := H.get List.mem_cons_self
  cases hob with
  | @list b vs i _ _ hl rs hc hd =>
    refine wpAny_pyNext_list_end hh (l := b) (i := i) ⟨o, ho, hc, hd⟩ (IsList_keep hl H.has) (by rw [← Array.getElem?_toList]; exact rvs_drop_nil rs) fun h' he => ?_
    exact q _ (H.extBut (k := s.toks) he) (Nat.le_refl _)
  | @tup b vs i _ _ hl rs hc hd =>
    refine wpAny_pyNext_tuple_end hh (t := b) (i := i) ⟨o, ho, hc, hd⟩ (IsTuple_keep hl H.has) (by rw [← Array.getElem?_toList]; exact rvs_drop_nil rs) fun h' he => ?_
    exact q _ (H.extBut (k := s.toks) he) (Nat.le_refl _)
  | @range y c n _ _ hl e =>
    subst e
    cases n with
    | zero =>
      refine wpAny_pyNext_range_end hh (x := y) (left := ((0 : Nat) : Int)) (step := c) (by exact ho) (by (first | decide | exact Nat.le_trans (by assumption) (by decide) | lia | omega)) fun h' he => ?_
      exact q _ (H.extBut (k := s.toks) he) (Nat.le_refl _)
    | succ n => rw [List.range_succ_eq_map, List.map_cons] at hl; cases hl
  | @ascii y t i _ _ hl hc hd =>
    have e : y.cps[i]? = none := by
      have : y.cps.toList.drop i = [] := by simpa using hl.symm
      rw [← Array.getElem?_toList, ← List.head?_drop, this]; rfl
    refine wpAny_pyNext_ascii_end hh (x := y) (t := t) (i := i) ⟨o, ho, hc, hd⟩ e fun h' he => ?_
    exact q _ (H.extBut (k := s.toks) he) (Nat.le_refl _)
  | @wide y t i _ _ hl hc hd =>
    have e : y.cps[i]? = none := by
      have : y.cps.toList.drop i = [] := by simpa using hl.symm
      rw [← Array.getElem?_toList, ← List.head?_drop, this]; rfl
    refine wpAny_pyNext_wide_end hh (x := y) (t := t) (i := i) ⟨o, ho, hc, hd⟩ e fun h' he => ?_
    exact q _ (H.extBut (k := s.toks) he) (Nat.le_refl _)
  | over hc hd => exact next_over hh ho hc hd fun h' hk => q _ (H.tail.grow (k := s.toks) hk) (Nat.le_refl _)

/-! ### targets -/
theorem it_cls {fz : Heap} {l : List V} {o : Obj} (x : ItIs fz l o) : ∃ n, o.cls = .type n ∧ ["enumerate", "zip", "dict_itemiterator", "dict_reverseitemiterator", "odict_iterator", "itertools.zip_longest", "itertools.pairwise"].contains n = false := by
  cases x with
  | list _ _ c _ => exact ⟨_, c, by decide⟩
  | tup _ _ c _ => exact ⟨_, c, by decide⟩
  | range _ e => subst e; exact ⟨_, rfl, by decide⟩
  | ascii _ c _ => exact ⟨_, c, by decide⟩
  | wide _ c _ => exact ⟨_, c, by decide⟩
  | over c _ => exact ⟨_, c, by decide⟩
theorem let_go {prog : Program} {w : World} {E : Value → Shared → Prop} {s : Shared} {fz : Heap} {l : List V} {o : Obj} {it : Addr} {v : Value} {target : Expr} {Q : Unit → Shared → Prop} (ho : s.heap.get? it = some o) (x : ItIs fz l o) (h : Q () s) :
    wpAny (model prog w) A (letOwnedTupleGo target (.ref it) v) Q E s := by
  obtain ⟨n, hc, hn⟩ := it_cls x
  unfold letOwnedTupleGo
  have key : wpAny (model prog w) A (do
      let (.ref r, .ref a) := ((Value.ref it), v) | return
      let o ← load r
      match o.cls, o.data with
      | .type n, .fields vs =>
        if ["enumerate", "zip", "dict_itemiterator", "dict_reverseitemiterator", "odict_iterator", "itertools.zip_longest", "itertools.pairwise"].contains n && vs[0]? == some (rawInt a) then
          rule "for.unpacks-the-owned-tuple"
          updateField r 0 .none
      | _, _ => pure ()) Q E s := by
    cases v with
    | ref a =>
      show wpAny _ _ (load it >>= _) _ _ _
      refine wpAny_bind (wpAny_load ho ?_)
      obtain ⟨c, d, dt, sl⟩ := o
      cases hc
      cases dt <;> first
        | exact wpAny_pure h
        | (dsimp only; rw [hn, Bool.false_and, if_neg Bool.false_ne_true]; exact wpAny_pure h)
    | _ => exact wpAny_pure h
  cases target <;> first | exact key | exact wpAny_pure h

/-! ### loops -/
noncomputable abbrev turnEnd (it : Addr) (r : List V) (I : List V → Own → Prop) (Q : Fl → Own → Prop) : Fl → Own → Prop
  | .next, o | .cont, o => ∃ o', Wk o ((it, .it r) :: o') ∧ I r o'
  | .brk, o => Q .next o
  | .ret v, o => Q (.ret v) o

theorem for_core {target : Expr} {body : List Stmt} {Q : Fl → Own → Prop} {it : Addr} (hh : A.handled = none) (I : List V → Own → Prop)
    (turn : ∀ x r o, I (x :: r) o → SA W A env target x ((it, .it r) :: o) fun o' => SXs W A env body o' (turnEnd it r I Q)) (last : ∀ o, I [] o → Q .next o) :
    ∀ (l : List V) (own : Own) (fz : Heap) (s : Shared), Hold W fz ((it, .it l) :: own) s → W.tk ≤ s.toks → I l own →
      codeAny (model W.prog W.w) A (.forLoop target (.ref it) body [] env) (fun r s' => match r with | .ok f => Post W RF Q fz f s' | .error _ => False) s := by
  intro l own fz s H ht hI
  refine codeAny_loop' rfl (fun n s' => ∃ fz' l own, l.length = n ∧ Keep fz fz' ∧ Hold W fz' ((it, .it l) :: own) s' ∧ W.tk ≤ s'.toks ∧ I l own) (fun n s' hJ => ?_) l.length ⟨fz, l, own, rfl, .refl _, H, ht, hI⟩
  obtain ⟨fz₁, l₁, own₁, rfl, k₁, H₁, t₁, I₁⟩ := hJ
  show wpAny _ _ ((forTurn target (.ref it) body [] env).onRaise (fun x => do noteFrame x env; theTreesLotGoes x)) _ _ s'
  refine wpAny_onRaise (wpAny_mono (E := NoX) ?_ (fun _ _ q => q) fun _ _ x => x.elim)
  simp only [forTurn]
  refine wpAny_bind (wpAny_standAt (wpAny_bind (wpAny_onRaise (wpAny_mono (E := NoX) (Q := fun r s₁ => match r with
    | none => ∃ o, I [] o ∧ Hold W fz₁ o s₁ ∧ W.tk ≤ s₁.toks
    | some v => ∃ x r o, l₁ = x :: r ∧ I (x :: r) o ∧ Hold W fz₁ ((it, .it r) :: o) s₁ ∧ W.tk ≤ s₁.toks ∧ RV fz₁ x v) ?_ (fun r s₁ h₁ => ?_) fun _ _ x => x.elim))))
  · cases l₁ with
    | nil => exact next_none hh H₁ fun s'' H'' t'' => ⟨own₁, I₁, H'', Nat.le_trans t₁ t''⟩
    | cons x r => exact next_some H₁ .here fun v s'' H'' t'' rx => ⟨x, r, own₁, rfl, I₁, H'', Nat.le_trans t₁ t'', rx⟩
  · cases r with
    | none =>
      obtain ⟨o, Io, Ho, to⟩ := h₁
      refine wpAny_pure (.inr ⟨rfl, codeAny_block (wpAny_execs_nil ?_)⟩)
      exact ⟨fz₁, .next, o, k₁, Ho, .next, last o Io⟩
    | some v =>
      obtain ⟨x, r, o, rfl, Io, Ho, to, rx⟩ := h₁
      obtain ⟨ob, hob, hit⟩ := Ho.get List.mem_cons_self
      refine wpAny_bind (let_go hob hit ?_)
      refine wpAny_bind (wp_then (turn x r o Io fz₁ _ v Ho to rx) to fun fz₂ _ _ o₂ s₂ k₂ H₂ t₂ _ q₂ => wpAny_bind (wp_then (q₂ fz₂ s₂ H₂ t₂) t₂ fun fz₃ f b o₃ s₃ k₃ H₃ t₃ r₃ q₃ => ?_))
      cases r₃ with
      | next =>
        obtain ⟨o', wk, I'⟩ := q₃
        exact wpAny_pure (.inl ⟨rfl, r.length, by simp, fz₃, r, o', rfl, k₁.trans (k₂.trans k₃), wk.hold H₃, t₃, I'⟩)
      | cont =>
        obtain ⟨o', wk, I'⟩ := q₃
        exact wpAny_pure (.inl ⟨rfl, r.length, by simp, fz₃, r, o', rfl, k₁.trans (k₂.trans k₃), wk.hold H₃, t₃, I'⟩)
      | brk => exact wpAny_pure ⟨fz₃, _, o₃, k₁.trans (k₂.trans k₃), H₃, .next, q₃⟩
      | ret rv => exact wpAny_pure ⟨fz₃, _, o₃, k₁.trans (k₂.trans k₃), H₃, .ret rv, q₃⟩

/-- what a for wants of its iterator -/
noncomputable abbrev Fors (W : Wd) (A : Around) (env : Env) (target : Expr) (body : List Stmt) (Q : Fl → Own → Prop) (b : V) (o : Own) : Prop :=
  ∃ it l o', b = .ref it ∧ o = (it, .it l) :: o' ∧ ∃ I : List V → Own → Prop, I l o' ∧ (∀ x r o, I (x :: r) o → SA W A env target x ((it, .it r) :: o) fun o' => SXs W A env body o' (turnEnd it r I Q)) ∧ (∀ o, I [] o → Q .next o)
theorem SX_For {target iter : Expr} {body : List Stmt} {pos : Pos} {Q : Fl → Own → Prop} (hh : A.handled = none) (h : SE W A env iter own fun a o1 => S1 W A RV pyIter a o1 (Fors W A env target body Q))
    (hs : ∀ x, foldedSetIterable iter env x = pure x := by intro _; rfl) : SX W A env (.For target iter body [] pos) own Q := fun fz s H ht => by
  refine wpAny_For (wp_then (h fz s H ht) ht fun fz1 va a o1 s1 k1 H1 t1 r1 q1 => wp_then (q1 fz1 s1 va H1 t1 r1) t1 fun fz2 vb b o2 s2 k2 H2 t2 r2 q2 => ?_) hs
  obtain ⟨it, l, o', rfl, rfl, I, Il, turn, last⟩ := q2
  cases r2.val_inv
  refine codeAny_mono (for_core hh I turn last l o' fz2 s2 H2 t2 Il) fun r s' x => ?_
  cases r with
  | ok f => exact Post.weak x (k1.trans k2)
  | error e => exact x.elim

theorem SX_While {test : Expr} {body : List Stmt} {pos : Pos} {Q : Fl → Own → Prop} (J : Nat → Own → Prop) (n : Nat) (h0 : J n own)
    (turn : ∀ n o, J n o → ST W A env test o fun b o1 => if b then SXs W A env body o1 (fun fl o2 => match fl with
      | .next | .cont => ∃ o' m, Wk o2 o' ∧ m < n ∧ J m o'
      | .brk => Q .next o2
      | .ret v => Q (.ret v) o2) else Q .next o1) : SX W A env (.While test body [] pos) own Q := fun fz s H ht => by
  refine wpAny_While (codeAny_mono (codeAny_whileLoop (R := fun r s' => match r with | .ok f => Post W RF Q fz f s' | .error _ => False)
    (fun n s' => ∃ fz' own, Keep fz fz' ∧ Hold W fz' own s' ∧ W.tk ≤ s'.toks ∧ J n own) (fun n s' hJ => ?_) n ⟨fz, own, .refl _, H, ht, h0⟩) fun r s' x => ?_)
  · obtain ⟨fz₁, own₁, k₁, H₁, t₁, J₁⟩ := hJ
    refine wpAny_mono (E := NoX) (wp_then (turn n own₁ J₁ fz₁ s' H₁ t₁) t₁ fun fz2 va b o2 s2 k2 H2 t2 r2 q2 => ?_) (fun _ _ x => x) fun _ _ x => x.elim
    subst r2
    cases va
    · exact wpAny_execs_nil ⟨fz2, .next, o2, k₁.trans k2, H2, .next, q2⟩
    · refine wpAny_mono (E := NoX) (wp_then (q2 fz2 s2 H2 t2) t2 fun fz₃ f b o₃ s₃ k₃ H₃ t₃ r₃ q₃ => ?_) (fun _ _ x => x) fun _ _ x => x.elim
      cases r₃ with
      | next => obtain ⟨o', m, wk, hm, J'⟩ := q₃; exact ⟨m, hm, fz₃, o', k₁.trans (k2.trans k₃), wk.hold H₃, t₃, J'⟩
      | cont => obtain ⟨o', m, wk, hm, J'⟩ := q₃; exact ⟨m, hm, fz₃, o', k₁.trans (k2.trans k₃), wk.hold H₃, t₃, J'⟩
      | brk => exact ⟨fz₃, .next, o₃, k₁.trans (k2.trans k₃), H₃, .next, q₃⟩
      | ret rv => exact ⟨fz₃, _, o₃, k₁.trans (k2.trans k₃), H₃, .ret rv, q₃⟩
  · cases r with
    | ok f => exact x
    | error e => exact x.elim

/-! ### unpacking -/
noncomputable def SAs (W : Wd) (A : Around) (env : Env) (ts : List Expr) (l : List V) (own : Own) (Q : Own → Prop) : Prop :=
  SL W A RU (fun vs => assignInOrder ((assignEach ts env).map (·.2)) vs) l own fun _ => Q
theorem SAs_nil {Q : Own → Prop} (h : Q own) : SAs W A env [] [] own Q := fun fz s vs H ht r => by
  cases r
  exact wpAny_pure ⟨fz, (), own, .refl _, H, trivial, h⟩
theorem SAs_cons {t : Expr} {ts : List Expr} {x : V} {l : List V} {Q : Own → Prop} (h : SA W A env t x own fun o1 => SAs W A env ts l o1 Q)
    (he : assignEach (t :: ts) env = (false, assign t env) :: assignEach ts env := by rfl) : SAs W A env (t :: ts) (x :: l) own Q := fun fz s vs H ht r => by
  cases r with
  | cons r rs =>
  unfold At
  rw [he]
  show wpAny _ _ (holding _ (assign t env _) >>= fun _ => assignInOrder ((assignEach ts env).map (·.2)) _) _ _ _
  refine wpAny_bind (wpAny_holding (wp_then (h fz s _ H ht r) ht fun fz1 _ _ o1 s1 k1 H1 t1 _ q1 => ?_))
  exact (q1 fz1 s1 _ H1 t1 (rs.mono k1)).weak k1
theorem SA_Tuple {ts : List Expr} {x1 : Nat} {pos : Pos} {l : List PyData} {Q : Own → Prop} (hh : A.handled = none) (hn : (assignEach ts env).length = l.length) (h : SAs W A env ts (l.map V.dat) own Q)
    (hstar : (assignEach ts env).findIdx? (·.1) = none := by rfl) : SA W A env (.Tuple ts x1 pos) (.tup l) own Q := fun fz s v H ht r => by
  obtain ⟨a, vs, rfl, hl, rs⟩ := r.tup_inv
  have hlen := rs.length
  rw [List.length_map] at hlen
  have hsz : vs.toList.length = vs.size := Array.length_toList
  refine wpAny_assign_Tuple hh (IsTuple_keep hl H.has) (by (first | decide | exact Nat.le_trans (by assumption) (by decide) | lia | omega)) hstar fun h' he => ?_
  exact h fz _ _ (H.grow (k := s.toks) fun b o e => he b o (Nat.ne_of_lt (Heap.lt_size e)) e) ht rs
theorem SX_AssignT {elts : List Expr} {k : Nat} {tpos pos : Pos} {value : Expr} {Q : Fl → Own → Prop} (h : SE W A env value own fun a o1 => SA W A env (.Tuple elts k tpos) a o1 fun o2 => Q .next o2)
    (hs : swapsWithSole [.Tuple elts k tpos] value pos.line env = pure false := by rfl)
    (hw : swappedStores [.Tuple elts k tpos] value env = pure none := by rfl) : SX W A env (.Assign [.Tuple elts k tpos] value pos) own Q := fun fz s H ht => by
  refine Assign_Tuple (wp_then (h fz s H ht) ht fun fz1 va a o1 s1 k1 H1 t1 r1 q1 => wp_then (q1 fz1 s1 va H1 t1 r1) t1 fun fz2 _ _ o2 s2 k2 H2 t2 _ q2 => ?_) hs hw
  exact ⟨fz2, _, o2, k1.trans k2, H2, .next, q2⟩
end
section
variable {W : Wd} {A : Around} {env : Env} {own : Own}

theorem it_self {fz : Heap} {s : Shared} {it : Addr} {l : List V} {Q : Value → Shared → Prop} {E : Value → Shared → Prop} (H : Hold W fz own s) (hm : (it, Ob.it l) ∈ own) (h : Q (.ref it) s) :
    wpAny (model W.prog W.w) A (pyIter (.ref it)) Q E s := by
  obtain ⟨o, ho, hob⟩ := H.get hm
  cases hob with
  | list _ _ hc hd => exact wpAny_pyIter_listiter ⟨o, ho, hc, hd⟩ h
  | tup _ _ hc hd => exact wpAny_pyIter_tupleiter ⟨o, ho, hc, hd⟩ h
  | range _ e => subst e; exact wpAny_pyIter_rangeiter (by exact ho) h
  | ascii _ hc hd => exact wpAny_pyIter_striter_ascii ⟨o, ho, hc, hd⟩ h
  | wide _ hc hd => exact wpAny_pyIter_striter_wide ⟨o, ho, hc, hd⟩ h
  | over hc hd =>
    have hT : s.TypeIs (.ref it) "list_iterator" := ⟨o, ho, hc⟩
    refine wpAny_pyIter_slot hT slot_listiter_iter (wpAny_call_entry slot_listiter_iter hT entry_listiter_iter ?_ (args_listiter_iter _))
    show wpAny _ _ (ret (.ref it)) _ _ s
    exact wpAny_pure ⟨_, rfl, "list_iterator", _, hT, slot_listiter_next.lookup, h⟩
/-! ### comprehensions -/
noncomputable def testsSem (ifs : List Expr) (cenv : Env) : Sem Bool := forIn ifs true fun c r => if r = true then do let ok ← isTrue c cenv (eval c cenv); pure (ForInStep.yield ok) else pure (ForInStep.yield r)
noncomputable abbrev STs (W : Wd) (A : Around) (cenv : Env) (ifs : List Expr) (own : Own) (Q : Bool → Own → Prop) : Prop := SG W A RB (testsSem ifs cenv) own Q
theorem STs_nil {Q : Bool → Own → Prop} (h : Q true own) : STs W A env [] own Q := fun fz s H ht => wpAny_tests_nil ⟨fz, _, own, .refl _, H, rfl, h⟩
/-- one clause's turns -/
noncomputable def turnSem (e : Expr) (d : Nat) (p : Pos) (target : Expr) (ifs : List Expr) (inner : Sem Unit) (it acc : Value) (cenv : Env) : Sem Fin := do
  standAt p
  match ← pyNext it with
  | none => pure (.done .next)
  | some v =>
    letOwnedTupleGo target it v
    assign target cenv v
    let ok ← testsSem ifs cenv
    if ok then
      inner
    again (.compLoop e d it acc cenv)

theorem comp_core {e : Expr} {d : Nat} {p : Pos} {target : Expr} {ifs : List Expr} {inner : Sem Unit} {acc : Value} {cenv : Env} {it : Addr} (hh : A.handled = none)
    (heq : compTurn e d (.ref it) acc cenv = turnSem e d p target ifs inner (.ref it) acc cenv)
    (hden : denote table (.compLoop e d (.ref it) acc cenv) = (compTurn e d (.ref it) acc cenv).onRaise (fun x => do noteFrame x cenv; theTreesLotGoes x))
    (hu : A.under (.compLoop e d (.ref it) acc cenv) = A) (I : List V → Own → Prop)
    (turn : ∀ x r o, I (x :: r) o → SA W A cenv target x ((it, .it r) :: o) fun o1 => STs W A cenv ifs o1 fun ok o2 =>
      if ok then SG W A RU inner o2 (fun _ o3 => ∃ o', Wk o3 ((it, .it r) :: o') ∧ I r o') else ∃ o', Wk o2 ((it, .it r) :: o') ∧ I r o') :
    ∀ (l : List V) (own : Own) (fz : Heap) (s : Shared), Hold W fz ((it, .it l) :: own) s → W.tk ≤ s.toks → I l own →
      codeAny (model W.prog W.w) A (.compLoop e d (.ref it) acc cenv) (fun r s' => match r with | .ok _ => ∃ fz' own', Keep fz fz' ∧ Hold W fz' own' s' ∧ W.tk ≤ s'.toks ∧ I [] own' | .error _ => False) s := by
  intro l own fz s H ht hI
  refine codeAny_loop' rfl (fun n s' => ∃ fz' l own, l.length = n ∧ Keep fz fz' ∧ Hold W fz' ((it, .it l) :: own) s' ∧ W.tk ≤ s'.toks ∧ I l own) (fun n s' hJ => ?_) l.length ⟨fz, l, own, rfl, .refl _, H, ht, hI⟩
  obtain ⟨fz₁, l₁, own₁, rfl, k₁, H₁, t₁, I₁⟩ := hJ
  rw [hu]
  show wpAny _ _ (denote table (.compLoop e d (.ref it) acc cenv)) _ _ s'
  rw [hden]
  refine wpAny_onRaise (wpAny_mono (E := NoX) ?_ (fun _ _ q => q) fun _ _ x => x.elim)
  rw [heq]
  unfold turnSem
  refine wpAny_bind (wpAny_standAt (wpAny_bind (wpAny_mono (E := NoX) (Q := fun r s₁ => match r with
    | none => ∃ o, I [] o ∧ Hold W fz₁ o s₁ ∧ W.tk ≤ s₁.toks
    | some v => ∃ x r o, l₁ = x :: r ∧ I (x :: r) o ∧ Hold W fz₁ ((it, .it r) :: o) s₁ ∧ W.tk ≤ s₁.toks ∧ RV fz₁ x v) ?_ (fun r s₁ h₁ => ?_) fun _ _ x => x.elim)))
  · cases l₁ with
    | nil => exact next_none hh H₁ fun s'' H'' t'' => ⟨own₁, I₁, H'', Nat.le_trans t₁ t''⟩
    | cons x r => exact next_some H₁ .here fun v s'' H'' t'' rx => ⟨x, r, own₁, rfl, I₁, H'', Nat.le_trans t₁ t'', rx⟩
  · cases r with
    | none =>
      obtain ⟨o, Io, Ho, to⟩ := h₁
      exact wpAny_pure ⟨fz₁, o, k₁, Ho, to, Io⟩
    | some v =>
      obtain ⟨x, r, o, rfl, Io, Ho, to, rx⟩ := h₁
      obtain ⟨ob, hob, hit⟩ := Ho.get List.mem_cons_self
      refine wpAny_bind (let_go hob hit ?_)
      refine wpAny_bind (wp_then (turn x r o Io fz₁ _ v Ho to rx) to fun fz₂ _ _ o₂ s₂ k₂ H₂ t₂ _ q₂ => wpAny_bind (wp_then (q₂ fz₂ s₂ H₂ t₂) t₂ fun fz₃ ok b o₃ s₃ k₃ H₃ t₃ r₃ q₃ => ?_))
      subst r₃
      cases ok with
      | false =>
        obtain ⟨o', wk, I'⟩ := q₃
        exact wpAny_pure (.inl ⟨rfl, r.length, by simp, fz₃, r, o', rfl, k₁.trans (k₂.trans k₃), wk.hold H₃, t₃, I'⟩)
      | true =>
        refine wpAny_bind (wp_then (q₃ fz₃ s₃ H₃ t₃) t₃ fun fz₄ _ _ o₄ s₄ k₄ H₄ t₄ _ q₄ => ?_)
        obtain ⟨o', wk, I'⟩ := q₄
        exact wpAny_pure (.inl ⟨rfl, r.length, by simp, fz₄, r, o', rfl, k₁.trans (k₂.trans (k₃.trans k₄)), wk.hold H₄, t₄, I'⟩)

noncomputable def emitSem (elt : Expr) (acc : Value) (cenv : Env) : Sem Unit := do let _ ← call (.builtin "list.append") [acc, ← eval elt cenv]
theorem turn_one (elt target iter : Expr) (ifs : List Expr) (scope : Scope) (pos : Pos) (it acc : Value) (cenv : Env) :
    compTurn (.ListComp elt [⟨target, iter, ifs, 0⟩] scope pos) 0 it acc cenv = turnSem (.ListComp elt [⟨target, iter, ifs, 0⟩] scope pos) 0 iter.pos target ifs (emitSem elt acc cenv) it acc cenv := by rfl
theorem emit_list {elt : Expr} {D : Addr} {Q : Own → Prop} (h : SE W A env elt own fun a o1 => ∃ o1' ys o2, Wk o1 o1' ∧ Upd D (.list ys) (.list (ys ++ [a])) o1' o2 ∧ ys.length ≤ sizeLine ∧ Q o2) : SG W A RU (emitSem elt (.ref D) env) own fun _ => Q := fun fz s H ht => by
  unfold emitSem
  refine wpAny_bind (wp_then (h fz s H ht) ht fun fz1 va a o1 s1 k1 H1 t1 r1 q1 => ?_)
  obtain ⟨o1', ys, o2, wk, u, hz, q⟩ := q1
  refine wpAny_bind (wp_then (do_append (Q := fun _ => Q) u hz q fz1 s1 va (wk.hold H1) t1 r1) t1 fun fz2 _ _ o3 s2 k2 H2 t2 _ q2 => wpAny_pure ⟨fz2, (), o3, k1.trans k2, H2, trivial, q2⟩)

theorem compStart_any {e : Expr} {d : Nat} {g : Comprehension} {it : Addr} {l : List V} {acc : Value} {cenv : Env} {fz : Heap} {s : Shared} {R : Result → Shared → Prop} (H : Hold W fz own s) (hm : (it, Ob.it l) ∈ own)
    (hg : (clausesOf e)[d]? = some g) (ha : (g.is_async != 0) = false)
    (hden : denote table (.compStart e d (.ref it) acc cenv) = (compStart e d (.ref it) acc cenv).onRaise (fun x => do noteFrame x cenv; standAt theWindowsPlace))
    (h : codeAny (model W.prog W.w) A (.compLoop e d (.ref it) acc cenv) R s) : codeAny (model W.prog W.w) A (.compStart e d (.ref it) acc cenv) R s := by
  refine codeAny_of_tree ?_
  show wpAny _ _ (denote table (.compStart e d (.ref it) acc cenv)) _ _ s
  rw [hden]
  refine wpAny_onRaise (wpAny_mono (E := NoX) ?_ (fun _ _ q => q) fun _ _ x => x.elim)
  unfold compStart
  rw [hg]
  simp only [Option.elim, ha, Bool.false_eq_true, if_false]
  refine wpAny_bind (wpAny_askSetting (wpAny_ite ?_))
  split
  · first
      | exact wpAny_bind (wpAny_pure (wpAny_pure (And.intro rfl h)))
      | exact wpAny_pure (And.intro rfl h)
  · exact wpAny_bind (wpAny_rule (wpAny_bind (wpAny_standAt (wpAny_bind (it_self H hm (wpAny_pure (And.intro rfl h)))))))

/-- a clause's loop -/
noncomputable def CL (W : Wd) (A : Around) (e : Expr) (d : Nat) (D : Addr) (cenv : Env) (it : Addr) (l : List V) (own : Own) (Q : Own → Prop) : Prop :=
  ∀ fz s, Hold W fz ((it, .it l) :: own) s → W.tk ≤ s.toks → codeAny (model W.prog W.w) A (.compLoop e d (.ref it) (.ref D) cenv)
    (fun r s' => match r with | .ok _ => ∃ fz' own', Keep fz fz' ∧ Hold W fz' own' s' ∧ W.tk ≤ s'.toks ∧ Q own' | .error _ => False) s
/-- one turn of a clause -/
noncomputable abbrev CT (W : Wd) (A : Around) (cenv : Env) (target : Expr) (ifs : List Expr) (inner : Sem Unit) (it : Addr) (I : List V → Own → Prop) : Prop :=
  ∀ x r o, I (x :: r) o → SA W A cenv target x ((it, .it r) :: o) fun o1 => STs W A cenv ifs o1 fun ok o2 =>
      if ok then SG W A RU inner o2 (fun _ o3 => ∃ o', Wk o3 ((it, .it r) :: o') ∧ I r o') else ∃ o', Wk o2 ((it, .it r) :: o') ∧ I r o'

theorem CL_one {elt target iter : Expr} {ifs : List Expr} {scope : Scope} {pos : Pos} {D : Addr} {cenv : Env} {it : Addr} {l : List V} {Q : Own → Prop} (hh : A.handled = none) (I : List V → Own → Prop) (h0 : I l own)
    (turn : CT W A cenv target ifs (emitSem elt (.ref D) cenv) it I) (last : ∀ o, I [] o → Q o) : CL W A (.ListComp elt [⟨target, iter, ifs, 0⟩] scope pos) 0 D cenv it l own Q := fun fz s H ht => by
  refine codeAny_mono (comp_core hh (turn_one elt target iter ifs scope pos (.ref it) (.ref D) cenv) rfl (Around.under_of_weight rfl) I turn l own fz s H ht h0) fun r s' x => ?_
  cases r with
  | ok f => obtain ⟨fz', own', k, H', t', i⟩ := x; exact ⟨fz', own', k, H', t', last _ i⟩
  | error e => exact x.elim
/-- a comprehension's own frame -/
noncomputable abbrev cEnv (scope : Scope) (cl : List (Str × Addr)) (C : Addr) (env : Env) : Env :=
  { scope := relabel scope env, locals := C, globals := env.globals, cells := cl, qual := env.qual, func := none, code := env.code, frame := env.frame, builtins := env.builtins }
/-- what a list comprehension wants of its source -/
noncomputable abbrev Comps (W : Wd) (A : Around) (env : Env) (e : Expr) (scope : Scope) (cl : List (Str × Addr)) (Fin : Addr → Addr → Own → Prop) (b : V) (o : Own) : Prop :=
  ∃ it l o3, b = .ref it ∧ o = (it, .it l) :: o3 ∧ ∀ C D, CL W A e 0 D (cEnv scope cl C env) it l ((C, .ns []) :: (D, .list []) :: o3) (Fin C D)

theorem comp_made {e : Expr} {scope : Scope} {cl : List (Str × Addr)} {Fin : Addr → Addr → Own → Prop} {b : V} {g : Comprehension} {gs : List Comprehension} {elt : Expr} {pos : Pos} {fz : Heap} {s : Shared} {RR : Value → Addr → Result → Shared → Prop} {vb : Value}
    (he : e = .ListComp elt (g :: gs) scope pos) (ha : (g.is_async != 0) = false) (hcell : ∀ y ∈ scope.names, y.2 ≠ .cell) (hkind : scope.kind = .function)
    (H : Hold W fz own s) (ht : W.tk ≤ s.toks) (r : RV fz b vb) (q : Comps W A env e scope cl Fin b own)
    (hR : ∀ C D fz' o s', Keep fz fz' → Hold W fz' o s' → W.tk ≤ s'.toks → Fin C D o → RR (.ref D) C (.ok .next) s') (hok : ∀ acc C f s', RR acc C (.ok .next) s' → RR acc C (.ok f) s') :
    wpAny (model W.prog W.w) A (newList []) (fun acc s₃ => wpAny (model W.prog W.w) A (newFunctionEnv scope env.globals cl [] env.qual none .none (some env)) (fun cenv s₄ =>
      codeAny (model W.prog W.w) A (.compStart e 0 vb acc { cenv with scope := relabel scope env }) (RR acc cenv.locals) s₄) NoX s₃) NoX s := by
  obtain ⟨it, l, o3, rfl, rfl, core⟩ := q
  cases r.val_inv
  subst he
  refine wpAny_newObj_type (wpAny_newFunctionEnv hcell (by intro y hy; simp at hy) (fun h₁ hns₁ hsb₁ => ?_) hkind)
  dsimp only at hns₁ hsb₁ ⊢
  have H₁ : Hold W fz ((s.heap.objs.size, .list []) :: (it, .it l) :: o3) { s with heap := s.heap.push (listObj [] 0), toks := s.toks } := H.new (Keep.push _ _) (get?_ge (Nat.le_refl _)) (Heap.get?_push_size _ rfl) ⟨[], 0, rfl, .nil⟩
  obtain ⟨o, ho, hob⟩ := of_ns (fz := fz) (loc := []) hns₁ (fun p hp => (nomatch hp))
  have hk₁ : Keep (s.heap.push (listObj [] 0)) h₁ := fun b o e => hsb₁.extBut b o (Nat.ne_of_lt (Heap.lt_size e)) (Heap.get?_push_of_some _ e)
  have H₂ : Hold W fz (((s.heap.push (listObj [] 0)).objs.size, .ns []) :: (s.heap.objs.size, .list []) :: (it, .it l) :: o3) { s with heap := h₁, toks := s.toks } :=
    H₁.new (k := s.toks) hk₁ (get?_ge (Nat.le_refl _)) ho hob
  have H₃ := H₂.perm (own' := (it, .it l) :: ((s.heap.push (listObj [] 0)).objs.size, .ns []) :: (s.heap.objs.size, .list []) :: o3)
    ((List.Perm.cons _ (List.Perm.swap ..)).trans (List.Perm.swap ..))
  refine compStart_any (H₃ : Hold W fz _ { s with heap := h₁, toks := s.toks + ([] : List (Str × Value)).length }) List.mem_cons_self rfl ha rfl ?_
  refine codeAny_mono (core (s.heap.push (listObj [] 0)).objs.size s.heap.objs.size fz _ H₃ ht) fun r s' x => ?_
  cases r with
  | ok f => obtain ⟨fz', own', k, H', t', i⟩ := x; exact hok _ _ _ _ (hR _ _ fz' own' s' k H' t' i)
  | error e => exact x.elim

theorem Hold.sameBut {fz : Heap} {s : Shared} {a : Addr} {ob : Ob} (H : Hold W fz ((a, ob) :: own) s) {h' : Heap} (hs : Heap.SameBut a s.heap h') : Hold W fz own { s with heap := h' } := H.extBut (k := s.toks) hs.extBut

theorem SX_AssignComp {y : Str} {py spos : Pos} {elt target iter : Expr} {ifs : List Expr} {gs : List Comprehension} {scope : Scope} {pos : Pos} {cl : List (Str × Addr)} {Q : Fl → Own → Prop}
    (hclos : closureFor scope env = pure cl) (hcell : ∀ y ∈ scope.names, y.2 ≠ .cell) (hkind : scope.kind = .function) (hnames : ∀ y ∈ scope.names, y.2 = .local → scope.names.lookup y.1 = some .local)
    (hsw : swapsWith (.ListComp elt (⟨target, iter, ifs, 0⟩ :: gs) scope pos) (some (.Name y py)) spos.line env = pure true)
    (h : SE W A env iter own fun a o1 => S1 W A RV pyIter a o1 (Comps W A env (.ListComp elt (⟨target, iter, ifs, 0⟩ :: gs) scope pos) scope cl fun C D o =>
      ∃ ys o4, Wk o ((C, .ns []) :: (D, .list ys) :: o4) ∧ ∀ fz s, Hold W fz ((C, .ns []) :: (D, .list ys) :: o4) s → W.tk ≤ s.toks →
        wpAny (model W.prog W.w) A (assign (.Name y py) env (.ref D)) (fun _ s' => ∃ fz' o5, Keep fz fz' ∧ Hold W fz' ((C, .ns []) :: o5) s' ∧ Q .next o5) NoX s))
    (hs : ∀ x, foldedSetIterable iter env x = pure x := by intro _; rfl) : SX W A env (.Assign [.Name y py] (.ListComp elt (⟨target, iter, ifs, 0⟩ :: gs) scope pos) spos) own Q := fun fz s H ht => by
  unfold At
  rw [exec_Assign_Name_used _ _ _ _ hsw]
  refine wpAny_bind (wpAny_standAt (wpAny_bind ?_))
  show wpAny _ A (do let _ ← comprehension (.ListComp elt (⟨target, iter, ifs, 0⟩ :: gs) scope pos) scope env _ (newList []) false (eval iter env) (some (assign (.Name y py) env))) _ _ s
  refine wpAny_bind (wpAny_mono (E := NoX) (wpAny_comprehension_free (use := some (assign (.Name y py) env)) (Q := fun _ s' => ∃ fz' own', Keep fz fz' ∧ Hold W fz' own' s' ∧ Q .next own') rfl hs hclos hkind hnames
    (wp_then (h fz s H ht) ht fun fz1 va a o1 s1 k1 H1 t1 r1 q1 => wp_then (q1 fz1 s1 va H1 t1 r1) t1 fun fz2 vb b o2 s2 k2 H2 t2 r2 q2 => ?_))
    (fun _ s' hq => wpAny_pure (wpAny_pure (by obtain ⟨fz', o', k, H', q⟩ := hq; exact ⟨fz', .next, o', k, H', .next, q⟩))) fun _ _ e => e)
  refine comp_made (RR := fun acc C => compPost (model W.prog W.w) A NoX (some (assign (.Name y py) env)) _ acc C) rfl rfl hcell hkind H2 t2 r2 q2 (fun C D fz3 o s3 k3 H3 t3 fin => ?_) fun acc C f s' x => x
  obtain ⟨ys, o4, wk, q⟩ := fin
  have H4 := wk.hold H3
  refine wpAny_mono (q fz3 s3 H4 t3) (fun _ s4 x => ?_) fun _ _ e => e
  obtain ⟨fz4, o5, k4, H5, q5⟩ := x
  obtain ⟨oC, hoC, hns⟩ := H5.get List.mem_cons_self
  obtain ⟨m, hm, _⟩ := ns_of hoC hns
  exact ⟨m, hm, fun h' hs' => ⟨fz4, _, k1.trans (k2.trans (k3.trans k4)), H5.sameBut hs', q5⟩⟩

theorem S1.mono {α β : Type} {R : Heap → β → α → Prop} {f : Value → Sem α} {a : V} {Q Q' : β → Own → Prop} (h : S1 W A R f a own Q) (q : ∀ b own', Q b own' → Q' b own') : S1 W A R f a own Q' :=
  fun fz s v H ht r => (h fz s v H ht r).mono q
/-! ### the plain use: a list of data out of a list -/
theorem Hold.freezeList {fz : Heap} {s : Shared} {D : Addr} {ys : List V} {ds : List PyData} (H : Hold W fz ((D, .list ys) :: own) s) (had : AllDat ys ds) : ∃ fz', Keep fz fz' ∧ Hold W fz' own s ∧ RV fz' (.lst ds) (.ref D) := by
  obtain ⟨o, ho, r, hf, kk, H'⟩ := H.freeze
  obtain ⟨vs, n, rfl, rs⟩ := r
  exact ⟨_, kk, H', rv_list (putH_at hf) (by rw [← had.eq]; exact rs.mono kk)⟩
theorem AllDat.append {l l' : List V} {ds ds' : List PyData} (x : AllDat l ds) (y : AllDat l' ds') : AllDat (l ++ l') (ds ++ ds') := by
  induction x with
  | nil => exact y
  | cons _ ih => exact .cons ih

/-- a turn that makes one datum, or none -/
noncomputable abbrev MapTurn {α : Type} (W : Wd) (A : Around) (cenv : Env) (target elt : Expr) (ifs : List Expr) (g : α → V) (p : α → Bool) (out : α → PyData) (xs : List α) (o3 : Own) (C D : Addr) : Prop :=
  ∀ it x r ys, x ∈ xs → SA W A cenv target (g x) ((it, .it r) :: (C, .ns []) :: (D, .list ys) :: o3) fun o1 => STs W A cenv ifs o1 fun ok o2 =>
    ok = p x ∧ if p x then SE W A cenv elt o2 (fun a o4 => a = .dat (out x) ∧ Wk o4 ((it, .it r) :: (C, .ns []) :: (D, .list ys) :: o3)) else Wk o2 ((it, .it r) :: (C, .ns []) :: (D, .list ys) :: o3)

theorem CL_map {α : Type} {elt target iter : Expr} {ifs : List Expr} {scope : Scope} {pos : Pos} {C D : Addr} {cenv : Env} {it : Addr} {g : α → V} {p : α → Bool} {out : α → PyData} {xs : List α} {o3 : Own} {Q : Own → Prop} (hh : A.handled = none)
    (hz : xs.length ≤ sizeLine) (turn : MapTurn W A cenv target elt ifs g p out xs o3 C D) (last : Q ((C, .ns []) :: (D, .list (((xs.filter p).map out).map V.dat)) :: o3)) :
    CL W A (.ListComp elt [⟨target, iter, ifs, 0⟩] scope pos) 0 D cenv it (xs.map g) ((C, .ns []) :: (D, .list []) :: o3) Q := by
  refine CL_one hh (fun l o => ∃ pre post, xs = pre ++ post ∧ l = post.map g ∧ o = (C, .ns []) :: (D, .list (((pre.filter p).map out).map V.dat)) :: o3) ⟨[], xs, rfl, rfl, rfl⟩ ?_ ?_
  · rintro x r o ⟨pre, post, e, hl, rfl⟩
    cases post with
    | nil => cases hl
    | cons z post =>
      injection hl with e1 e2
      subst e1 e2
      refine S1.mono (turn it z (post.map g) _ (by rw [e]; simp)) ?_
      intro _ o1 h1
      refine SG.mono h1 ?_
      intro ok o2 ⟨hok, h2⟩
      subst hok
      have hlen : ((pre.filter p).map out).length ≤ sizeLine := by
        have := List.length_filter_le p pre
        have : pre.length ≤ xs.length := by rw [e]; simp
        rw [List.length_map]; (first | decide | exact Nat.le_trans (by assumption) (by decide) | lia | omega)
      cases hp : p z with
      | false =>
        rw [hp] at h2
        exact ⟨_, h2, pre ++ [z], post, by simp [e], rfl, by simp [List.filter_append, hp]⟩
      | true =>
        rw [hp] at h2
        refine emit_list (SG.mono h2 ?_)
        rintro a o4 ⟨rfl, wk⟩
        refine ⟨_, _, _, wk, .there (.there .here), by rw [List.length_map]; exact hlen, _, .refl, pre ++ [z], post, by simp [e], rfl, ?_⟩
        simp [List.filter_append, hp]
  · rintro o ⟨pre, post, e, hl, rfl⟩
    cases post with
    | nil => rw [List.append_nil] at e; subst e; exact last
    | cons z post => cases hl

/-- the same, held by a name; the list may be turned later -/
theorem SX_AssignCompMap {α : Type} {y : Str} {py spos : Pos} {elt target iter : Expr} {ifs : List Expr} {scope : Scope} {pos : Pos} {cl : List (Str × Addr)} {Q : Fl → Own → Prop}
    (hh : A.handled = none) (hclos : closureFor scope env = pure cl) (hcell : ∀ y ∈ scope.names, y.2 ≠ .cell) (hkind : scope.kind = .function) (hnames : ∀ y ∈ scope.names, y.2 = .local → scope.names.lookup y.1 = some .local)
    (hsw : swapsWith (.ListComp elt [⟨target, iter, ifs, 0⟩] scope pos) (some (.Name y py)) spos.line env = pure true)
    (h : SE W A env iter own fun a o1 => S1 W A RV pyIter a o1 fun b o2 => ∃ it l o3, b = .ref it ∧ o2 = (it, .it l) :: o3 ∧ ∃ (g : α → V) (p : α → Bool) (out : α → PyData) (xs : List α), l = xs.map g ∧ xs.length ≤ sizeLine ∧
      (∀ C D, MapTurn W A (cEnv scope cl C env) target elt ifs g p out xs o3 C D) ∧ ∀ C, SS W A env y (.lst ((xs.filter p).map out)) ((C, .ns []) :: o3) (fun o5 => ∃ o6, Wk o5 ((C, .ns []) :: o6) ∧ Q .next o6))
    (hs : ∀ x, foldedSetIterable iter env x = pure x := by intro _; rfl) : SX W A env (.Assign [.Name y py] (.ListComp elt [⟨target, iter, ifs, 0⟩] scope pos) spos) own Q := by
  refine SX_AssignComp hclos hcell hkind hnames hsw (SG.mono h fun a o1 h1 => S1.mono h1 fun b o2 h2 => ?_) hs
  obtain ⟨it, l, o3, rfl, rfl, g, p, out, xs, rfl, hz, turn, q⟩ := h2
  refine ⟨it, _, o3, rfl, rfl, fun C D => CL_map hh hz (turn C D) ⟨_, _, .refl, fun fz s H ht => ?_⟩⟩
  obtain ⟨fz', k, H', r⟩ := (H.perm (List.Perm.swap ..)).freezeList (AllDat.map _)
  refine wpAny_assign_Name (wp_then (q C fz' s _ H' ht r) ht fun fz1 _ _ o5 s1 k1 H1 t1 _ q1 => ?_)
  obtain ⟨o6, wk, q6⟩ := q1
  exact ⟨fz1, o6, k.trans k1, wk.hold H1, q6⟩
end
section
variable {W : Wd} {A : Around} {env : Env} {own : Own}

/-! ### calls: the glue -/
noncomputable def KpO (W : Wd) (own : Own) (f : Value) : Prop := ∀ fz s, Hold W fz own s → ∃ k, (k = Keeper.frame ∨ k = Keeper.machine ∨ k = Keeper.boundFrame) ∧ Looks (model W.prog W.w) s.heap (keeperOf f) k
theorem kp_builtin {id : String} : KpO W own (.builtin id) := fun fz s H => ⟨.machine, .inr (.inl rfl), Looks.of_pure rfl⟩
theorem kp_type {T : String} : KpO W own (.type T) := fun fz s H => ⟨.machine, .inr (.inl rfl), Looks.of_pure rfl⟩
theorem kp_K {f : Value} (h : keepIn W.K f = true) : KpO W own f := fun fz s H => keeps_K h s.heap H.kin
theorem callWith_any {pos : Pos} {f : Value} {first : List V} {firstV : List Value} {args : List Expr} {fz : Heap} {s : Shared} {Q : V → Own → Prop} (H : Hold W fz own s) (ht : W.tk ≤ s.toks) (rf : RVs fz first firstV)
    (hp : (backTo pos (starEach args env)).any (·.1) = false) (h : SEs W A env pos args own fun l o2 => KpO W o2 f ∧ SL W A RV (fun vs => call f vs) (first ++ l) o2 Q) :
    At W A RV (callWith pos f firstV (backTo pos (starEach args env)) []) Q fz s := by
  have key : wpAny (model W.prog W.w) A (evalArgs f true (backTo pos (starEach args env)) []) (fun a s₁ => (∃ k, (k = Keeper.frame ∨ k = Keeper.machine ∨ k = Keeper.boundFrame) ∧ Looks (model W.prog W.w) s₁.heap (keeperOf f) k) ∧
      wpAny (model W.prog W.w) A (call f (firstV ++ a.pos) a.kw) (fun a s' => Post W RV Q fz a s') NoX s₁) NoX s := by
    have h1 : wpAny (model W.prog W.w) A (spliced (backTo pos (starEach args env))) (fun vs s₁ => (∃ k, (k = Keeper.frame ∨ k = Keeper.machine ∨ k = Keeper.boundFrame) ∧ Looks (model W.prog W.w) s₁.heap (keeperOf f) k) ∧
      wpAny (model W.prog W.w) A (call f (firstV ++ vs) []) (fun a s' => Post W RV Q fz a s') NoX s₁) NoX s := by
      refine wp_then (h fz s H ht) ht fun fz1 vs l o1 s1 k1 H1 t1 r1 q1 => ⟨q1.1 fz1 s1 H1, ?_⟩
      exact (q1.2 fz1 s1 _ H1 t1 ((rf.mono k1).append r1)).weak k1
    generalize backTo pos (starEach args env) = trees at hp h1 ⊢
    cases trees with
    | nil =>
      unfold evalArgs
      show wpAny _ _ (spliced [] >>= _) _ _ _
      refine wpAny_bind (wpAny_mono h1 (fun vs s' h' => wpAny_bind (wpAny_pure ?_)) fun _ _ x => x)
      refine wpAny_holding ?_
      exact wpAny_bind (wpAny_pure (wpAny_bind (wpAny_pure (wpAny_pure h'))))
    | cons t rest =>
      obtain ⟨b, t⟩ := t
      cases b with
      | false => exact Calls.evalArgs_plain h1
      | true => simp at hp
  exact callWith_of (P := fun h => ∃ k, (k = Keeper.frame ∨ k = Keeper.machine ∨ k = Keeper.boundFrame) ∧ Looks (model W.prog W.w) h (keeperOf f) k) (by simpa using hp) (fun h x => x) key

theorem SE_Call {func : Expr} {args : List Expr} {pos : Pos} {Q : V → Own → Prop}
    (h : SE W A env func own fun fv o1 => ∃ f, fv = .val f ∧ SEs W A env pos args o1 fun l o2 => KpO W o2 f ∧ SL W A RV (fun vs => call f vs) l o2 Q)
    (he : eval (.Call func args [] pos) env = (do callWith pos (← eval func env) [] (backTo pos (starEach args env)) (backToKw pos (keywordEach [] env))) := by rfl)
    (hp : (backTo pos (starEach args env)).any (·.1) = false := by rfl) : SE W A env (.Call func args [] pos) own Q := fun fz s H ht => by
  refine Call_ (wp_then (h fz s H ht) ht fun fz1 va a o1 s1 k1 H1 t1 r1 q1 => ?_) he
  obtain ⟨f, rfl, q⟩ := q1
  cases r1.val_inv
  exact (callWith_any (first := []) H1 t1 .nil hp q).weak k1

noncomputable abbrev RM : Heap → (Value × List V) → (Value × List Value) → Prop := fun fz b a => a.1 = b.1 ∧ RVs fz b.2 a.2
noncomputable abbrev SMth (W : Wd) (A : Around) (name : Str) (pl : Sem Bool) (a : V) (own : Own) (Q : Value × List V → Own → Prop) : Prop := S1 W A RM (fun v => getMethod v name pl) a own Q
theorem SE_Meth {o : Expr} {name : Str} {apos pos : Pos} {args : List Expr} {pl : Sem Bool} {Q : V → Own → Prop}
    (h : SE W A env o own fun a o1 => SMth W A name pl a o1 fun fx o2 => SEs W A env pos args o2 fun l o3 => KpO W o3 fx.1 ∧ SL W A RV (fun vs => call fx.1 vs) (fx.2 ++ l) o3 Q)
    (he : eval (.Call (.Attribute o name apos) args [] pos) env = (do
      let ov ← eval o env
      standAt apos.atName
      let (f, first) ← holding [ov] (getMethod ov name pl)
      callWith pos f first (backTo pos (starEach args env)) []) := by rfl)
    (hp : (backTo pos (starEach args env)).any (·.1) = false := by rfl) : SE W A env (.Call (.Attribute o name apos) args [] pos) own Q := fun fz s H ht => by
  refine MethodCall_ (wp_then (h fz s H ht) ht fun fz1 va a o1 s1 k1 H1 t1 r1 q1 => wp_then (q1 fz1 s1 va H1 t1 r1) t1 fun fz2 vb b o2 s2 k2 H2 t2 r2 q2 => ?_) he
  obtain ⟨f, fs⟩ := vb
  obtain ⟨e1, e2⟩ := r2
  dsimp only at e1 e2 ⊢
  subst e1
  exact (callWith_any H2 t2 e2 hp q2).weak (k1.trans k2)

/-- a method of a text -/
theorem mth_str {x : Str} {name : Str} {id : String} {pl : Sem Bool} {Q : Value × List V → Own → Prop}
    (hg : ∀ (t : Tok) (s : Shared) (P : Value × List Value → Shared → Prop), P (.builtin id, [.str x t]) s → wpAny (model W.prog W.w) A (getMethod (.str x t) name pl) P NoX s)
    (h : Q (.builtin id, [.str x]) own) : SMth W A name pl (.str x) own Q := fun fz s v H ht r => by
  obtain ⟨t, rfl⟩ := r.str_inv
  exact hg t s _ ⟨fz, _, own, .refl _, H, ⟨rfl, .cons (.dat (.str _ _)) .nil⟩, h⟩
/-- a method of a list of one's own -/
theorem mth_list {D : Addr} {l : List V} {name : Str} {id : String} {pl : Sem Bool} {Q : Value × List V → Own → Prop} (hm : (D, Ob.list l) ∈ own) (slot : Slot "list" name id) (hty : typeOf (.builtin id) = pure (.type "method_descriptor"))
    (h : Q (.builtin id, [.ref D]) own) : SMth W A name pl (.ref D) own Q := fun fz s v H ht r => by
  cases r.val_inv
  obtain ⟨o, ho, vs, n, rfl, rs⟩ := H.get hm
  refine getMethod_builtin ⟨_, ho, rfl⟩ PySem.F.plainAttrs_list slot hty (fun a e => by cases e; exact ⟨_, ho, rfl⟩) ?_
  exact ⟨fz, _, own, .refl _, H, ⟨rfl, .cons (.val _) .nil⟩, h⟩

theorem SL1 {α β : Type} {R : Heap → β → α → Prop} {f : List Value → Sem α} {a : V} {Q : β → Own → Prop} (h : S1 W A R (fun v => f [v]) a own Q) : SL W A R f [a] own Q := fun fz s vs H ht r => by
  cases r with | cons r1 r => cases r; exact h fz s _ H ht r1
theorem SL2 {α β : Type} {R : Heap → β → α → Prop} {f : List Value → Sem α} {a b : V} {Q : β → Own → Prop} (h : S2 W A R (fun v u => f [v, u]) a b own Q) : SL W A R f [a, b] own Q := fun fz s vs H ht r => by
  cases r with | cons r1 r => cases r with | cons r2 r => cases r; exact h fz s _ _ H ht r1 r2

/-! ### built-ins -/
theorem call_append {a : Addr} {l : List V} {x : V} {own' : Own} {Q : V → Own → Prop} (u : Upd a (.list l) (.list (l ++ [x])) own own') (hz : l.length ≤ sizeLine) (h : Q .none own') :
    SL W A RV (fun vs => call (.builtin "list.append") vs) [.ref a, x] own Q := SL2 fun fz s v w H ht r1 r2 => by
  cases r1.val_inv
  exact do_append u hz h fz s w H ht r2
theorem call_len_lst {l : List PyData} {Q : V → Own → Prop} (hz : l.length ≤ sizeLine) (h : Q (.int l.length) own) : SL W A RV (fun vs => call (.builtin "len") vs) [.lst l] own Q := SL1 fun fz s v H ht r => by
  obtain ⟨a, vs, rfl, hl, rs⟩ := r.lst_inv
  have hlen := rs.length
  rw [List.length_map] at hlen
  have hsz : vs.toList.length = vs.size := Array.length_toList
  rw [sizeLine_eq] at hz
  refine Calls.call_len_list (IsList_keep hl H.has) (by (first | decide | exact Nat.le_trans (by assumption) (by decide) | lia | omega)) ?_
  rw [show vs.size = l.length by (first | decide | exact Nat.le_trans (by assumption) (by decide) | lia | omega)]
  exact at_tok H _ (.dat (.int _ _)) h
theorem call_len_str {x : Str} {Q : V → Own → Prop} (hz : x.length ≤ sizeLine) (h : Q (.int x.length) own) : SL W A RV (fun vs => call (.builtin "len") vs) [.str x] own Q := SL1 fun fz s v H ht r => by
  obtain ⟨t, rfl⟩ := r.str_inv
  rw [sizeLine_eq] at hz
  exact P.len_str (by (first | decide | exact Nat.le_trans (by assumption) (by decide) | lia | omega)) (at_tok H _ (.dat (.int _ _)) h)
theorem call_range1 {n : Int} {Q : V → Own → Prop} (h : Q (.rng 0 n 1) own) : SL W A RV (fun vs => call (.type "range") vs) [.int n] own Q := SL1 fun fz s v H ht r => by
  obtain ⟨t, rfl⟩ := r.int_inv
  refine call_range_1 ?_
  obtain ⟨kk, H'⟩ := H.frz (k := s.toks + 1 + 1) (o := { cls := .type "range", data := .fields #[.int 0 s.toks, .int n t, .int 1 (s.toks + 1)] }) rfl (Keep.push _ _) (get?_ge (Nat.le_refl _)) (Heap.get?_push_size _ rfl)
  exact ⟨_, _, own, kk, H', .rng (putH_at rfl), h⟩
theorem call_count {x y : Str} {Q : V → Own → Prop} (h : Q (.int (Txt.count x y)) own) : SL W A RV (fun vs => call (.builtin "str.count") vs) [.str x, .str y] own Q := SL2 fun fz s v u H ht r1 r2 => by
  obtain ⟨t, rfl⟩ := r1.str_inv; obtain ⟨t', rfl⟩ := r2.str_inv
  exact SC.count (at_tok H _ (.dat (.int _ _)) h)

/-! ### lists joined, repeated -/
theorem new_list {fz : Heap} {s : Shared} {vs : List Value} {ds : List PyData} {n : Nat} {Q : V → Own → Prop} (H : Hold W fz own s) (rs : RVs fz (ds.map V.dat) vs) (h : Q (.lst ds) own) :
    Post W RV Q fz (.ref s.heap.objs.size) { s with heap := s.heap.push { cls := .type "list", data := .seq vs.toArray n } } := by
  obtain ⟨kk, H'⟩ := H.frz (k := s.toks) (o := listObj vs n) rfl (Keep.push _ _) (get?_ge (Nat.le_refl _)) (Heap.get?_push_size _ rfl)
  exact ⟨_, _, own, kk, H', rv_list (putH_at rfl) (rs.mono kk), h⟩
theorem rvs_rep {fz : Heap} {l : List V} {vs : List Value} (r : RVs fz l vs) : ∀ n : Nat, RVs fz (List.replicate n l).flatten (List.replicate n vs).flatten
  | 0 => .nil
  | n + 1 => by rw [List.replicate_succ, List.replicate_succ, List.flatten_cons, List.flatten_cons]; exact r.append (rvs_rep r n)
/-! ### slices -/
noncomputable def cutL {α : Type} (l : List α) (lo hi : Option Int) : List α := (l.drop (lo.elim 0 (clipAt l.length))).take (hi.elim l.length (clipAt l.length) - lo.elim 0 (clipAt l.length))
noncomputable def cutS (x : Str) (lo hi : Option Int) : Str := ⟨(cutL x.cps.toList lo hi).toArray⟩
theorem cutL_map {α β : Type} (f : α → β) (l : List α) (lo hi : Option Int) : (cutL l lo hi).map f = cutL (l.map f) lo hi := by
  unfold cutL; rw [List.map_take, List.map_drop, List.length_map]
theorem rvs_cut {fz : Heap} {l : List V} {vs : List Value} (r : RVs fz l vs) (lo hi : Option Int) : RVs fz (cutL l lo hi) (cutL vs lo hi) := by
  have drop : ∀ {l : List V} {vs : List Value}, RVs fz l vs → ∀ n : Nat, RVs fz (l.drop n) (vs.drop n) := by
    intro l vs r
    induction r with
    | nil => intro n; cases n <;> exact .nil
    | cons h t ih => intro n; cases n with
      | zero => exact .cons h t
      | succ n => exact ih n
  have take : ∀ {l : List V} {vs : List Value}, RVs fz l vs → ∀ n : Nat, RVs fz (l.take n) (vs.take n) := by
    intro l vs r
    induction r with
    | nil => intro n; cases n <;> exact .nil
    | cons h t ih => intro n; cases n with
      | zero => exact .nil
      | succ n => exact .cons h (ih n)
  unfold cutL
  rw [r.length]
  exact take (drop r _) _
theorem strSlice_is (x : Str) (lo hi : Option Int) : Txt.slice x lo hi = cutS x lo hi := by
  have e : (Builtin.Str.strSliceIndices lo hi 1 x.length) = (List.range (hi.elim x.length (clipAt x.length) - lo.elim 0 (clipAt x.length))).map (lo.elim 0 (clipAt x.length) + ·) := by
    rw [← sliceRange_one]
    have b := sliceBounds_plain lo hi x.length
    have b1 := congrArg (·.1) b
    have b2 := congrArg (·.2.1) b
    dsimp only at b1 b2
    rw [← b1, ← b2]
    cases lo <;> cases hi <;> rfl
  have e2 : ((Builtin.Str.strSliceIndices lo hi 1 x.length).filterMap (x.cps[·]?)) = cutL x.cps.toList lo hi := by
    rw [e, pick_run]
    unfold cutL
    rw [Array.length_toList]; rfl
  unfold Txt.slice cutS
  rw [e2]
  split
  · rename_i h
    simp only [beq_self_eq_true, Bool.true_and, beq_iff_eq] at h
    have h3 : (cutL x.cps.toList lo hi).length = x.length := by
      rw [e, List.length_map, List.length_range] at h
      have h4 : x.cps.toList.length = x.length := Array.length_toList
      have hb : hi.elim x.length (clipAt x.length) ≤ x.length := by cases hi <;> simp only [Option.elim, clipAt] <;> (first | decide | exact Nat.le_trans (by assumption) (by decide) | lia | omega)
      unfold cutL
      rw [List.length_take, List.length_drop, h4]
      (first | decide | exact Nat.le_trans (by assumption) (by decide) | lia | omega)
    have h5 : cutL x.cps.toList lo hi = x.cps.toList := by
      have hs : (cutL x.cps.toList lo hi).Sublist x.cps.toList := by unfold cutL; exact (List.take_sublist _ _).trans (List.drop_sublist _ _)
      exact hs.eq_of_length (by rw [h3, Array.length_toList]; rfl)
    rw [h5]
  · rfl

noncomputable abbrev SPt (W : Wd) (A : Around) (env : Env) (p : Option Expr) (own : Own) (Q : Option Int → Own → Prop) : Prop := SG W A (fun _ k v => IsPart v k) (evalPart p env) own Q
theorem SPt_none {Q : Option Int → Own → Prop} (h : Q none own) : SPt W A env none own Q := fun fz s H ht => wpAny_pure ⟨fz, _, own, .refl _, H, .none, h⟩
theorem SPt_some {e : Expr} {Q : Option Int → Own → Prop} (h : SE W A env e own fun a o1 => ∃ i, a = .int i ∧ Q (some i) o1) : SPt W A env (some e) own Q := fun fz s H ht =>
  wp_then (h fz s H ht) ht fun fz1 va a o1 s1 k1 H1 t1 r1 q1 => by
    obtain ⟨i, rfl, q⟩ := q1
    obtain ⟨t, rfl⟩ := r1.int_inv
    exact ⟨fz1, _, o1, k1, H1, .int _ _, q⟩
theorem SE_SliceL {value : Expr} {lower upper : Option Expr} {p pos : Pos} {Q : V → Own → Prop}
    (h : SE W A env value own fun a o1 => SPt W A env lower o1 fun lo o2 => SPt W A env upper o2 fun hi o3 => ∃ l, a = .lst l ∧ l.length ≤ sizeLine ∧ Q (.lst (cutL l lo hi)) o3)
    (ht : ∀ o r, letTemporaryGo value o r = pure () := by intro _ _; rfl) : SE W A env (.Subscript value (.Slice lower upper none p) pos) own Q := fun fz s H tk => by
  refine wpAny_Subscript_list_slice (wp_then (h fz s H tk) tk fun fz1 va a o1 s1 k1 H1 t1 r1 q1 => wp_then (q1 fz1 s1 H1 t1) t1 fun fz2 vl lo o2 s2 k2 H2 t2 r2 q2 => wp_then (q2 fz2 s2 H2 t2) t2 fun fz3 vu hi o3 s3 k3 H3 t3 r3 q3 => ?_) ht
  obtain ⟨l, rfl, hz, q⟩ := q3
  obtain ⟨x, vs, rfl, hl, rs⟩ := (r1.mono (k2.trans k3)).lst_inv
  have h1 := rs.length
  rw [List.length_map] at h1
  have qs : vs.toList.length = vs.size := Array.length_toList
  refine ⟨x, vs, lo, hi, rfl, IsList_keep hl H3.has, by (first | decide | exact Nat.le_trans (by assumption) (by decide) | lia | omega), r2, r3, ?_⟩
  have e : slicePick vs lo hi none = (cutL vs.toList lo hi).toArray := by rw [slicePick_plain]; unfold cutL; rw [Array.length_toList]
  rw [e]
  have H4 := H3.grow (k := s3.toks) (Keep.push s3.heap { cls := .type "slice", data := .fields #[vl, vu, .none] })
  obtain ⟨fz', b, own', kk, H', r, qq⟩ := new_list (n := 0) (vs := cutL vs.toList lo hi) (ds := cutL l lo hi) H4 (by rw [cutL_map]; exact rvs_cut rs lo hi) q
  rw [show ({ s3 with heap := s3.heap.push { cls := .type "slice", data := .fields #[vl, vu, .none] }, toks := s3.toks } : Shared).heap.objs.size = s3.heap.objs.size + 1 from Heap.size_push ..] at r
  exact ⟨fz', b, own', k1.trans (k2.trans (k3.trans kk)), H', r, qq⟩
theorem part_value {v : Value} {k : Option Int} (h : IsPart v k) : ∃ l : Option (Int × Tok), v = partValue l ∧ l.map (·.1) = k := by
  cases h with
  | none => exact ⟨none, rfl, rfl⟩
  | int i t => exact ⟨some (i, t), rfl, rfl⟩
theorem SE_SliceS {value : Expr} {lower upper : Option Expr} {p pos : Pos} {Q : V → Own → Prop}
    (h : SE W A env value own fun a o1 => SPt W A env lower o1 fun lo o2 => SPt W A env upper o2 fun hi o3 => ∃ x, a = .str x ∧ x.length ≤ sizeLine ∧ Q (.str (cutS x lo hi)) o3)
    (ht : ∀ o r, letTemporaryGo value o r = pure () := by intro _ _; rfl) : SE W A env (.Subscript value (.Slice lower upper none p) pos) own Q := fun fz s H tk => by
  refine wpAny_Subscript_str_slice (wp_then (h fz s H tk) tk fun fz1 va a o1 s1 k1 H1 t1 r1 q1 => wp_then (q1 fz1 s1 H1 t1) t1 fun fz2 vl lo o2 s2 k2 H2 t2 r2 q2 => wp_then (q2 fz2 s2 H2 t2) t2 fun fz3 vu hi o3 s3 k3 H3 t3 r3 q3 => ?_) ht
  obtain ⟨x, rfl, hz, q⟩ := q3
  obtain ⟨t, rfl⟩ := r1.str_inv
  obtain ⟨pl, rfl, e1⟩ := part_value r2
  obtain ⟨pu, rfl, e2⟩ := part_value r3
  refine ⟨x, t, pl, pu, rfl, rfl, rfl, ?_⟩
  have hs := strSlice_is x lo hi
  have H4 := H3.grow (k := s3.toks) (Keep.push s3.heap { cls := .type "slice", data := .fields #[partValue pl, partValue pu, .none] })
  have key : ∀ (t' : Tok) (k : Nat), Post W RV Q fz (.str (Txt.slice x lo hi) t') { s3 with heap := s3.heap.push { cls := .type "slice", data := .fields #[partValue pl, partValue pu, .none] }, toks := k } := fun t' k =>
    ⟨fz3, _, o3, k1.trans (k2.trans k3), H4.toks k, by rw [hs]; exact .dat (.str _ _), q⟩
  unfold Txt.slice at key
  unfold sliceMade slicePicked
  rw [e1, e2]
  dsimp only [Option.map, Option.getD]
  split
  · rename_i hc
    rw [if_pos hc] at key
    exact key t _
  · rename_i hc
    rw [if_neg hc] at key
    refine ⟨?_, key _ _⟩
    have := Txt.slice_le x lo hi
    unfold Txt.slice at this
    rw [if_neg hc] at this
    exact Nat.le_trans this hz
end
section
variable {W : Wd} {A : Around} {env : Env} {own : Own}

/-! ### attributes of a made thing -/
theorem putNs {o : Obj} {es : Array DictEntry} {ep : Nat} {name : Str} {h : Int} {t : Tok} {v : Value} (hd : o.data = .dict es ep) (hk : StrKeys es) :
    ∃ es' ep', (o.putName name h (.str name t) v).data = .dict es' ep' ∧ StrKeys es' ∧ es'.size ≤ es.size + 1 ∧ (nsFind es name ≠ none → es'.size = es.size) ∧ ∀ x, nsFind es' x = if x = name then some v else nsFind es x := by
  obtain ⟨c, d, dt, sl⟩ := o
  subst hd
  cases hi : es.findIdx? (·.key.isStr name) with
  | some i =>
    refine ⟨es.modify i fun e => { e with val := v }, ep, by simp only [Obj.putName_eq, Obj.putNameByArray, hi], hk.modify _ _, by simp, fun _ => by simp, fun x => ?_⟩
    exact findBy_modify (fun n v => v.isStr n) Value.isStr_inj es name x v i hi
  | none =>
    refine ⟨es.push ⟨h, .str name t, v⟩, ep + 1, by simp only [Obj.putName_eq, Obj.putNameByArray, hi], hk.push _ _ _ _, by simp, fun hne => ?_, fun x => ?_⟩
    · exfalso; apply hne
      unfold nsFind findBy
      rw [Option.map_eq_none_iff, Array.find?_eq_none]
      intro e he
      rw [Array.findIdx?_eq_none_iff] at hi
      simpa using hi e he
    · exact findBy_push (fun n v => v.isStr n) es name x _ _ v (fun y => by
        show (name == y) = decide (y = name)
        by_cases h : y = name
        · subst h; simp
        · have : ¬ name = y := fun e => h e.symm
          simp [h, this]) hi

theorem Put.keys {x : Str} {a : V} {l l' : List (Str × V)} (u : Put x a l l') : (x ∈ l.map (·.1) ∧ l'.map (·.1) = l.map (·.1)) ∨ (l'.map (·.1) = l.map (·.1) ++ [x]) := by
  induction u with
  | new => exact .inr rfl
  | here => exact .inl ⟨by simp, by simp⟩
  | there _ ih =>
    rcases ih with ⟨h1, h2⟩ | h
    · exact .inl ⟨by simp only [List.map_cons, List.mem_cons]; exact .inr h1, by simp only [List.map_cons, h2]⟩
    · exact .inr (by simp only [List.map_cons, h, List.cons_append])
theorem att_put {fz : Heap} {loc loc' : List (Str × V)} {o : Obj} {x : Str} {a : V} {v : Value} {h : Int} {t : Tok} (H : AttIs fz loc o) (u : Put x a loc loc') (nd : (loc'.map (·.1)).Nodup) (r : RV fz a v) :
    AttIs fz loc' (o.putName x h (.str x t) v) := by
  obtain ⟨es, ep, hd, hk, hz, h1, h2⟩ := H
  obtain ⟨es', ep', hd', hk', hz', hz2, hf⟩ := putNs (name := x) (h := h) (t := t) (v := v) hd hk
  have kk := u.keys
  refine ⟨es', ep', hd', hk', ?_, fun p hp => ?_, fun y hy => ?_⟩
  · rcases kk with ⟨m, e⟩ | e
    · have : nsFind es x ≠ none := by
        obtain ⟨p, hp, e'⟩ := List.mem_map.mp m
        obtain ⟨w, e2, _⟩ := h1 p hp
        rw [← e', e2]; exact fun z => nomatch z
      rw [hz2 this]
      have := congrArg List.length e
      simp only [List.length_map] at this
      (first | decide | exact Nat.le_trans (by assumption) (by decide) | lia | omega)
    · have := congrArg List.length e
      simp only [List.length_map, List.length_append, List.length_cons, List.length_nil] at this
      (first | decide | exact Nat.le_trans (by assumption) (by decide) | lia | omega)
  · rcases u.other nd p hp with rfl | ⟨hp', hne⟩
    · exact ⟨v, by rw [hf, if_pos rfl], r⟩
    · obtain ⟨w, e, r'⟩ := h1 p hp'; exact ⟨w, by rw [hf, if_neg hne]; exact e, r'⟩
  · rw [hf]
    rcases kk with ⟨m, e⟩ | e
    · rw [e] at hy
      rw [if_neg (fun q : y = x => hy (q ▸ m))]; exact h2 y hy
    · rw [e, List.mem_append] at hy
      rw [if_neg (fun q => hy (.inr (by simp [q])))]; exact h2 y (fun q => hy (.inl q))

theorem lookIn_of {o : Obj} {es : Array DictEntry} {ep : Nat} {name : Str} (hd : o.data = .dict es ep) (hk : StrKeys es) : lookIn name o = some (nsFind es name) := by
  unfold lookIn
  rw [hd]
  dsimp only
  have e : nsFind es name = (es.toList.find? (·.key.isStr name)).map (·.val) := by unfold nsFind findBy; rw [Array.find?_toList]
  rw [e]
  cases q : es.toList.find? (·.key.isStr name) with
  | some en => rfl
  | none =>
    have : es.toList.any (·.refKey) = false := by
      rw [List.any_eq_false]; intro z hz; obtain ⟨n, t, h⟩ := hk z (by simpa using hz); simp [DictEntry.refKey, h]
    simp [this]

theorem inst_at {fz : Heap} {s : Shared} {x dx C : Addr} {loc : List (Str × V)} (H : Hold W fz own s) (h1 : (x, Ob.obj (instObj C dx)) ∈ own) (h2 : (dx, Ob.att loc) ∈ own) :
    ∃ od, s.heap.get? dx = some od ∧ AttIs fz loc od ∧ InstAt s.heap x (instObj C dx) C (some od) := by
  obtain ⟨o, ho, e⟩ := H.get h1
  have e' : o = instObj C dx := e
  subst e'
  obtain ⟨od, hd, a⟩ := H.get h2
  exact ⟨od, hd, a, ho, rfl, rfl, hd⟩

/-- what the text's class must be -/
structure ClsOk (K : Frag) (C : Addr) : Prop where
  makes : makesIn K C = true
  ga : findIn K (.ref C) "__getattribute__" = some (some (.builtin "object.__getattribute__"))
  gattr : findIn K (.ref C) "__getattr__" = some none
  sa : findIn K (.ref C) "__setattr__" = some (some (.builtin "object.__setattr__"))
  plain : plainOver K C = true
  dict : (clsIn K C).any (·.hasDict) = true

theorem do_setattr {x dx C : Addr} {loc loc' : List (Str × V)} {name : Str} {a : V} {own' : Own} {Q : Own → Prop} (hc : ClsOk W.K C) (ht : takerIn W.K C name = some none) (h1 : (x, Ob.obj (instObj C dx)) ∈ own) (h2 : (dx, Ob.att loc) ∈ own)
    (u : Put name a loc loc') (nd : (loc'.map (·.1)).Nodup) (hz : loc'.length ≤ 1000) (up : Upd dx (.att loc) (.att loc') own own') (h : Q own') :
    S1 W A RU (fun v => setAttr (.ref x) name v) a own fun _ => Q := fun fz s v H tk r => by
  obtain ⟨od, hod, ha, I⟩ := inst_at H h1 up.mem
  refine set_plain H.kin I hc.sa ?_
  refine osa_open (s := { s with toks := s.toks + 1 }) H.kin I hc.plain ht fun b => ?_
  obtain ⟨cd, hcd, hdict⟩ := any_some hc.dict
  have ha' := att_put (h := PyData.keyHash W.w.params name) (t := s.toks + 1) ha u nd r
  have hhas := ha
  obtain ⟨es, ep, hd, hk, hsz, _, _⟩ := ha
  obtain ⟨hx, _, _, _⟩ := I
  have hnf : (Obj.putName name (PyData.keyHash W.w.params name) (.str name (s.toks + 1)) v od).isFreed = false := by
    obtain ⟨es', ep', hd', _⟩ := ha'
    have g : ∀ o : Obj, o.data = .dict es' ep' → o.isFreed = false := by rintro ⟨_, _, dt, _⟩ e; cases e; rfl
    exact g _ hd'
  refine wpAny_bind (wpAny_pure (wpAny_bind (wpAny_bind (wpAny_loadPart hx (wpAny_bind ((looks_clsIn (H.toks (s.toks + 1)).kin hcd).here ?_))))))
  rw [hdict]
  refine wpAny_pure (a := some dx) (wpAny_bind (wpAny_pure (wpAny_bind ?_)))
  unfold nsSet
  refine wpAny_bind (wpAny_bind (wpAny_askSetting (wpAny_pure (wpAny_bind (wpAny_mkText (wpAny_bind (wpAny_loadPart hod ?_)))))))
  have hany : es.any (·.refKey) = false := by
    rw [Array.any_eq_false']; intro e he; obtain ⟨n, t, h⟩ := hk e he; simp [DictEntry.refKey, h]
  rw [hd]
  dsimp only
  have c : (!es.any (·.key.isStr name) && es.any (·.refKey)) = false := by rw [hany, Bool.and_false]
  rw [aRefKeyMayBeTheName_at, c]
  refine wpAny_updatePart hod ?_
  have D' := Heap.get?_update_self (Obj.putName name (PyData.keyHash W.w.params name) (.str name (s.toks + 1)) v) hod hnf
  refine wpAny_bind (wpAny_lookBehind D' ?_ ?_)
  · obtain ⟨es', ep', hd', _, hz', _⟩ := ha'
    rw [hd']; exact pastItsLine_dict (by rw [sizeLine_eq]; (first | decide | exact Nat.le_trans (by assumption) (by decide) | lia | omega))
  · refine wpAny_pure ?_
    exact ⟨fz, (), own', .refl _, H.set (k := s.toks + 1 + 1) up (Heap.SameBut.update ..) D' ha', trivial, h⟩

theorem SX_AssignAttr {o : Expr} {name : Str} {pos' pos : Pos} {value : Expr} {Q : Fl → Own → Prop}
    (h : SE W A env value own fun a o1 => SE W A env o o1 fun b o2 => ∃ x, b = .ref x ∧ S1 W A RU (fun v => setAttr (.ref x) name v) a o2 fun _ o3 => Q .next o3)
    (hs : swapsWith value (some (.Attribute o name pos')) pos.line env = pure false := by rfl) : SX W A env (.Assign [.Attribute o name pos'] value pos) own Q := fun fz s H ht => by
  refine plainObj_wpAny_Assign_Attribute (wp_then (h fz s H ht) ht fun fz1 va a o1 s1 k1 H1 t1 r1 q1 => wp_then (q1 fz1 s1 H1 t1) t1 fun fz2 vb b o2 s2 k2 H2 t2 r2 q2 => ?_) hs
  obtain ⟨x, rfl, q⟩ := q2
  cases r2.val_inv
  refine wp_then (q fz2 s2 va H2 t2 (r1.mono k2)) t2 fun fz3 _ _ o3 s3 k3 H3 t3 _ q3 => ?_
  exact ⟨fz3, .next, o3, k1.trans (k2.trans k3), H3, .next, q3⟩

theorem get_att {x dx C : Addr} {loc : List (Str × V)} {name : Str} {a : V} {Q : V → Own → Prop} (hc : ClsOk W.K C) (h1 : (x, Ob.obj (instObj C dx)) ∈ own) (h2 : (dx, Ob.att loc) ∈ own) (hx : (name, a) ∈ loc)
    (hf : findIn W.K (.ref C) name = some none) (hv : ∀ fz v, RV fz a v → handedIn v = true) (h : Q a own) : S1 W A RV (fun v => getAttr v name true) (.ref x) own Q := fun fz s v H tk r => by
  cases r.val_inv
  obtain ⟨od, hod, ha, I⟩ := inst_at H h1 h2
  obtain ⟨es, ep, hd, hk, hsz, h3, _⟩ := ha
  obtain ⟨u, e, ru⟩ := h3 _ hx
  obtain ⟨cd, hcd, hdict⟩ := any_some hc.dict
  refine get_value (v := u) H.kin I hc.ga ?_ (hv _ _ ru) ⟨fz, a, own, .refl _, H.toks _, ru, h⟩
  unfold findObj
  rw [hcd, Option.bind_some, hf, Option.bind_some]
  dsimp only
  rw [Option.bind_some, Option.bind_some]
  dsimp only
  unfold PySem.W.ownOf
  rw [hdict, if_pos rfl]
  dsimp only
  rw [lookIn_of hd hk, e]
  rfl

theorem handed_int {i : Int} : ∀ fz v, RV fz (.int i) v → handedIn v = true := fun fz v r => by obtain ⟨t, rfl⟩ := r.int_inv; rfl
theorem handed_lst {l : List PyData} : ∀ fz v, RV fz (.lst l) v → handedIn v = true := fun fz v r => by obtain ⟨a, _, rfl, _⟩ := r.lst_inv; rfl
/-- a method of the class -/
theorem mth_inst {x dx C f : Addr} {loc : List (Str × V)} {name : Str} {pl : Sem Bool} {Q : Value × List V → Own → Prop} (hc : ClsOk W.K C) (h1 : (x, Ob.obj (instObj C dx)) ∈ own) (h2 : (dx, Ob.att loc) ∈ own)
    (hf : findIn W.K (.ref C) name = some (some (.ref f))) (hty : typeIn W.K (.ref f) = some (.type "function")) (hn : name ∉ loc.map (·.1)) (h : Q (.ref f, [.ref x]) own) : SMth W A name pl (.ref x) own Q := fun fz s v H tk r => by
  cases r.val_inv
  obtain ⟨od, hod, ha, I⟩ := inst_at H h1 h2
  obtain ⟨es, ep, hd, hk, hsz, _, h4⟩ := ha
  refine method_fn H.kin I hc.ga hc.gattr hf hty ?_ ⟨fz, _, own, .refl _, H, ⟨rfl, .cons (.val _) .nil⟩, h⟩
  unfold shadowIn
  dsimp only
  rw [lookIn_of hd hk, h4 _ hn]
  rfl

end
section
variable {W : Wd} {A : Around} {env : Env} {own : Own}

theorem ite_dec {p : Prop} [Decidable p] {P Q : Prop} (h1 : p → P) (h2 : ¬ p → Q) : if decide p = true then P else Q := by
  by_cases h : p
  · rw [if_pos (decide_eq_true h)]; exact h1 h
  · rw [if_neg (by simpa using h)]; exact h2 h
theorem ite_tt' {P Q : Prop} (h : P) : if true = true then P else Q := by rw [if_pos rfl]; exact h
theorem ite_ff' {P Q : Prop} (h : Q) : if false = true then P else Q := by rw [if_neg (by decide)]; exact h
theorem K_of {K K' : Frag} {a : Addr} {o : Obj} (hK : K = K') (h : K'.lookup a = some o) : K.lookup a = some o := hK ▸ h
theorem nsIn_of {K K' : Frag} {x : Str} {r : Option (Option Value)} (hK : K = K') (h : nsIn K' mainGlobals x = r) : nsIn K mainGlobals x = r := hK ▸ h
/-! ### texts as lists of signs -/
noncomputable def S (l : List Nat) : Str := ⟨l.toArray⟩
noncomputable def lit (x : Str) : List Nat := x.cps.toList
theorem S_lit (x : Str) : S (lit x) = x := by unfold S lit; simp
theorem S_len (l : List Nat) : (S l).length = l.length := by show l.toArray.size = _; simp
theorem S_cat (a b : List Nat) : S a ++ S b = S (a ++ b) := by
  show (⟨(S a).cps ++ (S b).cps⟩ : Str) = S (a ++ b)
  simp [S]
theorem S_inj {a b : List Nat} : S a = S b ↔ a = b := by
  constructor
  · intro h; have := congrArg (fun x : Str => x.cps.toList) h; simpa [S] using this
  · intro h; rw [h]

theorem SE_strS {x : Str} {k : Nat} {pos : Pos} {Q : V → Own → Prop} (h : Q (.str (S (lit x))) own) : SE W A env (.Constant (.str x) k pos) own Q := SE_str (by rw [S_lit] at h; exact h)
theorem SE_strL {x : Str} {l : List Nat} {k : Nat} {pos : Pos} {Q : V → Own → Prop} (hx : lit x = l) (h : Q (.str (S l)) own) : SE W A env (.Constant (.str x) k pos) own Q := SE_strS (by rw [hx]; exact h)
theorem op_catS {a b : List Nat} {Q : V → Own → Prop} (hz : a.length + b.length ≤ sizeLine) (h : Q (.str (S (a ++ b))) own) : S2 W A RV (binaryOp .Add) (.str (S a)) (.str (S b)) own Q := op_cat (by rw [S_len, S_len]; exact hz) (by rw [S_cat]; exact h)
theorem cmp_eqSS {a b : List Nat} {Q : V → Own → Prop} (h : Q (.bool (decide (a = b))) own) : S2 W A RV (compareOp .Eq) (.str (S a)) (.str (S b)) own Q := cmp_eqS (by
  have : decide (S a = S b) = decide (a = b) := by simp only [S_inj]
  rw [this]; exact h)
theorem cmp_neSS {a b : List Nat} {Q : V → Own → Prop} (h : Q (.bool (decide (a ≠ b))) own) : S2 W A RV (compareOp .NotEq) (.str (S a)) (.str (S b)) own Q := cmp_neS (by
  have : decide (S a ≠ S b) = decide (a ≠ b) := by simp only [ne_eq, S_inj]
  rw [this]; exact h)
theorem tr_strS {a : List Nat} {Q : Bool → Own → Prop} (hx : a.length ≤ sizeLine) (h : Q (decide (a ≠ [])) own) : S1 W A RB truthy (.str (S a)) own Q := tr_str (by rw [S_len]; exact hx) (by
  have : decide ((S a).length ≠ 0) = decide (a ≠ []) := by rw [S_len]; cases a <;> simp
  rw [this]; exact h)
theorem call_lenS {a : List Nat} {Q : V → Own → Prop} (hz : a.length ≤ sizeLine) (h : Q (.int a.length) own) : SL W A RV (fun vs => call (.builtin "len") vs) [.str (S a)] own Q := call_len_str (by rw [S_len]; exact hz) (by rw [S_len]; exact h)
theorem sub_strS {o i : Expr} {a : List Nat} {k : Int} {c : Nat} {Q : V → Own → Prop} (hlo : -(a.length : Int) ≤ k) (hhi : k < (a.length : Int)) (hz : a.length ≤ sizeLine) (hx : a[place k a.length]? = some c) (h : Q (.str (S [c])) own)
    (hs : ∀ v u, subscripted i false v u = operate [v, u] (getItem v u) := by intro _ _; with_unfolding_all rfl) : S2 W A RV (subscriptTail o i) (.str (S a)) (.int k) own Q :=
  sub_str (by rw [S_len]; exact hlo) (by rw [S_len]; exact hhi) (by rw [S_len]; exact hz) (by rw [S_len]; show a.toArray[_]? = _; simpa using hx) h hs
theorem cutS_S (a : List Nat) (lo hi : Option Int) : cutS (S a) lo hi = S (cutL a lo hi) := by unfold cutS S; simp
theorem it_strS {a : List Nat} {Q : V → Own → Prop} (h : ∀ i, Q (.ref i) ((i, .it (a.map fun c => V.str (S [c]))) :: own)) : S1 W A RV pyIter (.str (S a)) own Q := it_str h
theorem SE_SliceSS {value : Expr} {lower upper : Option Expr} {p pos : Pos} {Q : V → Own → Prop}
    (h : SE W A env value own fun a o1 => SPt W A env lower o1 fun lo o2 => SPt W A env upper o2 fun hi o3 => ∃ l, a = .str (S l) ∧ l.length ≤ sizeLine ∧ Q (.str (S (cutL l lo hi))) o3)
    (ht : ∀ o r, letTemporaryGo value o r = pure () := by intro _ _; rfl) : SE W A env (.Subscript value (.Slice lower upper none p) pos) own Q :=
  SE_SliceS (SG.mono h fun a o1 h1 => SG.mono h1 fun lo o2 h2 => SG.mono h2 fun hi o3 ⟨l, e, hz, q⟩ => ⟨S l, e, by rw [S_len]; exact hz, by rw [cutS_S]; exact q⟩) ht

/-! ### a list of one's own handed on as data -/
inductive Take (D : Addr) (ob : Ob) : Own → Own → Prop
  | here {l : Own} : Take D ob ((D, ob) :: l) l
  | there {p : Addr × Ob} {l l' : Own} : Take D ob l l' → Take D ob (p :: l) (p :: l')
theorem Take.perm {D : Addr} {ob : Ob} {l l' : Own} (t : Take D ob l l') : l.Perm ((D, ob) :: l') := by
  induction t with
  | here => exact .refl _
  | there _ ih => exact (ih.cons _).trans (.swap ..)
theorem Upd.mid {D : Addr} {ob ob' : Ob} {post : Own} : ∀ {pre : Own}, Upd D ob ob' (pre ++ (D, ob) :: post) (pre ++ (D, ob') :: post)
  | [] => .here
  | _ :: _ => .there Upd.mid
theorem mem_mid {p q : Addr × Ob} {pre post : Own} (h : p ∈ pre ++ post) : p ∈ pre ++ q :: post := by
  rcases List.mem_append.mp h with h | h
  · exact List.mem_append_left _ h
  · exact List.mem_append_right _ (List.mem_cons_of_mem _ h)
theorem mem_mid' {q : Addr × Ob} {pre post : Own} : q ∈ pre ++ q :: post := List.mem_append_right _ List.mem_cons_self
theorem ite_nt {P Q : Prop} (h : Q) : if (!true) = true then P else Q := by rw [if_neg (by decide)]; exact h
theorem count_S (l : List Nat) (c : Nat) : Txt.count (S l) (S [c]) = (l.count c : Int) := by
  have h := PyProof.Rows.count_cnt (S l) c
  have e : (⟨#[c]⟩ : Str) = S [c] := rfl
  rw [e] at h
  rw [h]
  show cnt c l = _
  induction l with
  | nil => rw [cnt_nil]; rfl
  | cons d l ih =>
    rw [cnt_cons, ih (count_cnt (S l) c), List.count_cons]
    by_cases hd : d = c
    · subst hd; simp; (first | decide | exact Nat.le_trans (by assumption) (by decide) | lia | omega)
    · simp [hd]
theorem call_countS {l : List Nat} {c : Nat} {Q : V → Own → Prop} (h : Q (.int (l.count c)) own) : SL W A RV (fun vs => call (.builtin "str.count") vs) [.str (S l), .str (S [c])] own Q := call_count (by rw [count_S]; exact h)
theorem op_mulR {a b : Int} {Q : V → Own → Prop} (hm : Builtin.Int.intBits b ≤ 64) (h : Q (.int (a * b)) own) : S2 W A RV (binaryOp .Mult) (.int a) (.int b) own Q := op_mul (.of_right hm) h
end
section
variable {W : Wd} {A : Around} {env : Env} {own : Own}

theorem GensIs.more {gs : Array GenState} (x : GensIs own gs) : ∀ {nw : Own}, (∀ p ∈ nw, p.2.genOf = none) → GensIs (nw ++ own) gs
  | [], _ => x
  | p :: nw, h => (GensIs.more x fun q hq => h q (List.mem_cons_of_mem _ hq)).cons (a := p.1) (h p List.mem_cons_self)
theorem Hold.more {fz : Heap} {s : Shared} (H : Hold W fz own s) {h' : Heap} {k : Nat} (hk : Keep s.heap h') {nw : Own} (hn : ∀ p ∈ nw, s.heap.get? p.1 = none) (ho : ∀ p ∈ nw, ∃ o, h'.get? p.1 = some o ∧ ObIs fz p.2 o)
    (nd : (nw.map (·.1)).Nodup) (hg : ∀ p ∈ nw, p.2.genOf = none) : Hold W fz (nw ++ own) { s with heap := h', toks := k } where
  base := H.base
  has := H.has.trans hk
  obs := fun p hp => by
    rcases List.mem_append.mp hp with hp | hp
    · exact ho p hp
    · obtain ⟨o', e, r⟩ := H.obs p hp; exact ⟨o', hk _ _ e, r⟩
  out := fun p hp => by
    rcases List.mem_append.mp hp with hp | hp
    · cases e : fz.get? p.1 with
      | none => rfl
      | some o' => exact absurd (H.has _ _ e) (by rw [hn p hp]; exact fun x => nomatch x)
    · exact H.out p hp
  nd := by
    rw [List.map_append, List.nodup_append]
    refine ⟨nd, H.nd, fun a ha b hb e => ?_⟩
    subst e
    obtain ⟨p, hp, rfl⟩ := List.mem_map.mp ha
    obtain ⟨q, hq, e⟩ := List.mem_map.mp hb
    obtain ⟨o', e', _⟩ := H.obs q hq
    rw [e, hn p hp] at e'
    cases e'
  gens := GensIs.more H.gens hg
  os := H.os

/-! ### calls with defaults -/
/-! ### calls of a def whose names are captured -/
noncomputable def AllL (fz : Heap) (m : Str → Option Value) : List (Str × V) → Prop
  | [] => True
  | p :: r => (∃ v, m p.1 = some v ∧ RV fz p.2 v) ∧ AllL fz m r
theorem AllL.get {fz : Heap} {m : Str → Option Value} {l : List (Str × V)} (h : AllL fz m l) (p : Str × V) (hp : p ∈ l) : ∃ v, m p.1 = some v ∧ RV fz p.2 v := by
  induction l with
  | nil => cases hp
  | cons q r ih =>
    rcases List.mem_cons.mp hp with rfl | hp
    · exact h.1
    · exact ih h.2 hp
noncomputable def AllC (fz : Heap) (m : Str → Option Value) : List (Str × Nat × Option V) → Prop
  | [] => True
  | (x, _, none) :: r => m x = none ∧ AllC fz m r
  | (x, _, some a) :: r => (∃ v, m x = some v ∧ RV fz a v) ∧ AllC fz m r
theorem AllC.get {fz : Heap} {m : Str → Option Value} {l : List (Str × Nat × Option V)} (h : AllC fz m l) (p : Str × Nat × Option V) (hp : p ∈ l) : match p.2.2 with | none => m p.1 = none | some a => ∃ v, m p.1 = some v ∧ RV fz a v := by
  induction l with
  | nil => cases hp
  | cons q r ih =>
    obtain ⟨x, n, o⟩ := q
    cases o with
    | none =>
      rcases List.mem_cons.mp hp with rfl | hp
      · exact h.1
      · exact ih h.2 hp
    | some a =>
      rcases List.mem_cons.mp hp with rfl | hp
      · exact h.1
      · exact ih h.2 hp
theorem lookup_mem_nodup {α : Type} : ∀ {l : List (Str × α)}, (l.map (·.1)).Nodup → ∀ {n : Str} {c : α}, (n, c) ∈ l → l.lookup n = some c
  | (k, v) :: r, nd, n, c, h => by
    rw [List.map_cons, List.nodup_cons] at nd
    rw [List.lookup_cons]
    rcases List.mem_cons.mp h with e | h
    · cases e; simp
    · have : n ≠ k := fun e => nd.1 (List.mem_map.mpr ⟨_, h, e⟩)
      have : (n == k) = false := by simpa using this
      rw [this]; exact lookup_mem_nodup nd.2 h

noncomputable abbrev cellsOwn (L : Addr) (ce : List (Str × Nat × Option V)) : Own := ce.map fun p => (L + p.2.1, Ob.cell p.2.2)
theorem do_callE {f : Addr} {args : List V} {Q : V → Own → Prop} {name qual : Str} {params : Arguments} {body : List Stmt} {scope : Scope} {dV kV doc pm cdv ct oc : Value} {an od : Option Addr} {osl : Array (Option Value)}
    (names : List Str) (loc : List (Str × V)) (ce : List (Str × Nat × Option V))
    (ho : W.K.lookup f = some ⟨oc, od, .func (fnOf name qual params body scope dV kV doc pm an cdv ct), osl⟩) (hcd : codeIn W.K cdv qual = true) (hroom : A.depth < recursionLimit)
    (hb : ∀ s vs, W.K.In s.heap → vs.length = args.length → BindsTo s (fnOf name qual params body scope dV kV doc pm an cdv ct) ⟨vs, []⟩ (names.zip vs))
    (hcl : ∀ L, cellsFrom (L + 1) scope.names [] = ce.map fun p => (p.1, L + p.2.1)) (ndc : (ce.map (·.1)).Nodup)
    (hkind : ∀ y ∈ names, scope.names.lookup y = some .local ∨ (scope.names.lookup y = some .cell ∧ y ∈ ce.map (·.1)))
    (hbind : ∀ fz vs L, RVs fz args vs → AllL fz (bindL (envX qual scope L f cdv (ce.map fun p => (p.1, L + p.2.1))).kindOf (names.zip vs) fun _ => none) loc ∧ AllC fz (bindC (envX qual scope L f cdv (ce.map fun p => (p.1, L + p.2.1))).kindOf (names.zip vs) fun _ => none) ce)
    (h : ∀ L, SXs W (A.deeper (envX qual scope L f cdv (ce.map fun p => (p.1, L + p.2.1)))) (envX qual scope L f cdv (ce.map fun p => (p.1, L + p.2.1))) body ((L, .ns loc) :: (cellsOwn L ce ++ own)) (retTo Q))
    (hco : scope.isCoroutine = false) (hgen : scope.isGenerator = false) (hk : scope.kind = .function) : SLC W A (.ref f) args own Q := fun fz s vs H ht rs => by
  have hlk : ∀ L, ∀ y ∈ ce.map (·.1), (((ce.map fun p => (p.1, L + p.2.1)) : List (Str × Addr)).lookup y).isSome = true := fun L y hy => by
    obtain ⟨p, hp, rfl⟩ := List.mem_map.mp hy
    rw [lookup_mem_nodup (l := ce.map fun p => (p.1, L + p.2.1)) (by rw [List.map_map]; exact ndc) (List.mem_map.mpr ⟨p, hp, rfl⟩)]; rfl
  refine codeAny_call_function hroom (H.kin _ _ ho) rfl hco hgen rfl (codeRec_of H.kin hcd) (hb s vs H.kin rs.length.symm _ _ _ _ ?_)
  have base := wpAny_newFunctionEnv_cells (M := model W.prog W.w) (A := A.in1) (E := fun e s' => False) (s := s) (scope := scope) (globals := mainGlobals) (binds := names.zip vs) (qual := qual ++ ".<locals>.") (func := some f) (code := cdv) (builtins := builtinsNs)
    (Q := fun env s' => env = newEnv scope s.heap.objs.size mainGlobals (cellsFrom (s.heap.objs.size + 1) scope.names []) (qual ++ ".<locals>.") (some f) cdv none builtinsNs ∧
      InCallC s env.locals (bindL env.kindOf (names.zip vs) fun _ => none) env.cells (bindC env.kindOf (names.zip vs) fun _ => none) s') hk (fun x hx => by
      rcases hkind _ (List.of_mem_zip (show (x.1, x.2) ∈ names.zip vs from hx)).1 with e | ⟨e, m⟩
      · exact .inl e
      · refine .inr ⟨e, ?_⟩
        rw [hcl]; exact hlk _ _ m) (fun env he s' x => ⟨he, x⟩)
  refine wpAny_mono (wpAny_toks_of ht base) (fun env' s' x => ?_) fun _ _ e => e.2.elim
  obtain ⟨t1, he, x⟩ := x
  have he' : env' = envX qual scope s.heap.objs.size f cdv (ce.map fun p => (p.1, s.heap.objs.size + p.2.1)) := by rw [he, hcl]; rfl
  subst he'
  clear he
  refine ⟨(W.top.nolimit.keeps H.keep).keeps x.toInCall.keep, codeAny_func ?_⟩
  have hk₁ := x.toInCall.keep
  obtain ⟨hL, hC⟩ := hbind fz vs s.heap.objs.size rs
  obtain ⟨o, ho', hob⟩ := of_ns (fz := fz) (loc := loc) x.toInCall.ns hL.get
  have hcells : ∀ p ∈ ce, ((ce.map fun p => (p.1, s.heap.objs.size + p.2.1)) : List (Str × Addr)).lookup p.1 = some (s.heap.objs.size + p.2.1) := fun p hp =>
    lookup_mem_nodup (l := ce.map fun p => (p.1, s.heap.objs.size + p.2.1)) (by rw [List.map_map]; exact ndc) (List.mem_map.mpr ⟨p, hp, rfl⟩)
  have habove : ∀ p ∈ ce, s.heap.objs.size < s.heap.objs.size + p.2.1 := fun p hp => x.above _ _ (List.mem_map.mpr ⟨p, hp, rfl⟩)
  obtain ⟨h₁, tk, rfl⟩ := x.toInCall.same
  have H₁ : Hold W fz ((s.heap.objs.size, .ns loc) :: cellsOwn s.heap.objs.size ce ++ own) { s with heap := h₁, toks := tk } := by
    refine H.more hk₁ (fun p hp => ?_) (fun p hp => ?_) ?_ (fun p hp => by rcases List.mem_cons.mp hp with rfl | hp; rfl; obtain ⟨q, _, rfl⟩ := List.mem_map.mp hp; rfl)
    · rcases List.mem_cons.mp hp with rfl | hp
      · exact get?_ge (Nat.le_refl _)
      · obtain ⟨q, hq, rfl⟩ := List.mem_map.mp hp
        exact get?_ge (Nat.le_of_lt (habove q hq))
    · rcases List.mem_cons.mp hp with rfl | hp
      · exact ⟨o, ho', hob⟩
      · obtain ⟨q, hq, rfl⟩ := List.mem_map.mp hp
        obtain ⟨oc', e, d⟩ := x.cell _ _ (hcells q hq)
        have g := hC.get q hq
        obtain ⟨qx, qn, qo⟩ := q
        cases qo with
        | none => exact ⟨oc', e, by dsimp only at g d; rw [g] at d; exact d⟩
        | some a =>
          obtain ⟨v, e2, r⟩ := g
          exact ⟨oc', e, v, by dsimp only at e2 d; rw [e2] at d; exact d, r⟩
    · rw [List.map_cons, List.nodup_cons]
      refine ⟨fun hm => ?_, ?_⟩
      · obtain ⟨q, hq, e⟩ := List.mem_map.mp hm
        obtain ⟨q', hq', rfl⟩ := List.mem_map.mp hq
        exact absurd (habove q' hq') (by rw [show s.heap.objs.size + q'.2.1 = s.heap.objs.size from e]; exact Nat.lt_irrefl _)
      · have ap := x.apart
        rw [List.pairwise_map] at ap
        rw [List.map_map, List.Nodup, List.pairwise_map]
        exact ap
  refine wpAny_mono (h s.heap.objs.size fz _ H₁ t1) (fun fl s' x => ?_) fun _ _ x => x.elim
  obtain ⟨fz', b, own', k, H', r, own'', wk, q⟩ := x
  refine ⟨fz', _, own'', k, wk.hold H', ?_, q⟩
  cases r with
  | next => exact .dat .none
  | brk => exact .dat .none
  | cont => exact .dat .none
  | ret r => exact r

/-! ### two clauses -/
theorem CL.wk {e : Expr} {d : Nat} {D : Addr} {cenv : Env} {it : Addr} {l : List V} {o o' : Own} {Q : Own → Prop} (k : Wk o o') (h : CL W A e d D cenv it l o' Q) : CL W A e d D cenv it l o Q :=
  fun fz s H ht => h fz s ((Wk.keep .refl k).hold H) ht

end
section
variable {W : Wd} {A : Around} {env : Env} {own : Own}

/-! ### equal data -/
noncomputable def Ok (n : Nat) (d : PyData) : Prop := d.canLay0 = true ∧ d.depth ≤ n
theorem Ok.mono {n m : Nat} {d : PyData} (h : Ok n d) (k : n ≤ m) : Ok m d := ⟨h.1, Nat.le_trans h.2 k⟩
theorem ok_int {n : Nat} {i : Int} : Ok (n + 1) (.int i) := ⟨rfl, by simp [PyData.depth]⟩
theorem ok_str {n : Nat} {l : List Nat} (h : ∀ c ∈ l, c < 1114112) : Ok (n + 1) (.str (S l)) := by
  refine ⟨?_, by simp [PyData.depth]⟩
  show PyData.strOk (S l) = true
  unfold PyData.strOk S
  simp only [List.all_toArray, List.all_eq_true]
  intro c hc; simpa using h c hc
theorem okAll {n : Nat} : ∀ {l : List PyData}, (∀ d ∈ l, Ok n d) → PyData.canLayAll0 l = true ∧ PyData.depthAll l ≤ n
  | [], _ => ⟨rfl, by simp [PyData.depthAll]⟩
  | d :: l, h => by
    obtain ⟨h1, h2⟩ := okAll (l := l) fun e he => h e (List.mem_cons_of_mem _ he)
    obtain ⟨k1, k2⟩ := h d List.mem_cons_self
    refine ⟨by simp [PyData.canLayAll0, h1, k1], ?_⟩
    simp only [PyData.depthAll]; (first | decide | exact Nat.le_trans (by assumption) (by decide) | lia | omega)
theorem ok_list {n : Nat} {l : List PyData} (h : ∀ d ∈ l, Ok n d) : Ok (n + 1) (.list l) := by
  obtain ⟨h1, h2⟩ := okAll h
  exact ⟨by simpa [PyData.canLay0] using h1, by simp only [PyData.depth]; (first | decide | exact Nat.le_trans (by assumption) (by decide) | lia | omega)⟩
theorem cmp_eqR {a b : PyData} {Q : V → Own → Prop} (e : a = b) (ok : Ok 60 a) (hu : A.units + 60 < cLine) (h : Q (.bool true) own) : S2 W A RV (compareOp .Eq) (.dat a) (.dat b) own Q := fun fz s v u H _ r1 r2 => by
  subst e
  cases r1 with | dat r1 => cases r2 with | dat r2 =>
  refine SeqAt.compareEq_reads (Reads.keeps H.has r1) (Reads.keeps H.has r2) ok.1 ok.1 (by have := ok.2; (first | decide | exact Nat.le_trans (by assumption) (by decide) | lia | omega)) ?_
  rw [SeqAt.eqv_refl a ok.1]
  exact at_tok H _ (.dat (.bool _)) h
theorem cmp_neR {a b : PyData} {Q : V → Own → Prop} (e : a = b) (ok : Ok 60 a) (hu : A.units + 60 < cLine) (h : Q (.bool false) own) : S2 W A RV (compareOp .NotEq) (.dat a) (.dat b) own Q := fun fz s v u H _ r1 r2 => by
  subst e
  cases r1 with | dat r1 => cases r2 with | dat r2 =>
  refine SeqAt.compareNe_reads (Reads.keeps H.has r1) (Reads.keeps H.has r2) ok.1 ok.1 (by have := ok.2; (first | decide | exact Nat.le_trans (by assumption) (by decide) | lia | omega)) ?_
  rw [SeqAt.eqv_refl a ok.1]
  exact at_tok H _ (.dat (.bool _)) h

/-! ### a list of one's own becomes data where it is named -/
inductive VF (D : Addr) (d : PyData) : V → V → Prop
  | at_ : VF D d (.ref D) (.dat d)
  | same {v : V} : VF D d v v
inductive NF (D : Addr) (d : PyData) : List (Str × V) → List (Str × V) → Prop
  | nil : NF D d [] []
  | cons {x : Str} {v v' : V} {l l' : List (Str × V)} : VF D d v v' → NF D d l l' → NF D d ((x, v) :: l) ((x, v') :: l')
inductive LF (D : Addr) (d : PyData) : List V → List V → Prop
  | nil : LF D d [] []
  | cons {v v' : V} {l l' : List V} : VF D d v v' → LF D d l l' → LF D d (v :: l) (v' :: l')
  | refl {l : List V} : LF D d l l
inductive OF (D : Addr) (d : PyData) : Own → Own → Prop
  | refl {l : Own} : OF D d l l
  | ns {a : Addr} {loc loc' : List (Str × V)} {l l' : Own} : NF D d loc loc' → OF D d l l' → OF D d ((a, .ns loc) :: l) ((a, .ns loc') :: l')
  | cell {a : Addr} {v v' : V} {l l' : Own} : VF D d v v' → OF D d l l' → OF D d ((a, .cell (some v)) :: l) ((a, .cell (some v')) :: l')
  | list {a : Addr} {loc loc' : List V} {l l' : Own} : LF D d loc loc' → OF D d l l' → OF D d ((a, .list loc) :: l) ((a, .list loc') :: l')
  | same {p : Addr × Ob} {l l' : Own} : OF D d l l' → OF D d (p :: l) (p :: l')
theorem VF.rv {D : Addr} {d : PyData} {fz : Heap} (hD : RV fz (.dat d) (.ref D)) {a a' : V} (x : VF D d a a') {v : Value} (r : RV fz a v) : RV fz a' v := by
  cases x with
  | at_ => rw [r.val_inv]; exact hD
  | same => exact r
theorem LF.rv {D : Addr} {d : PyData} {fz : Heap} (hD : RV fz (.dat d) (.ref D)) {l l' : List V} (x : LF D d l l') : ∀ {vs : List Value}, RVs fz l vs → RVs fz l' vs := by
  induction x with
  | nil => intro vs r; exact r
  | refl => intro vs r; exact r
  | cons h _ ih => intro vs r; cases r with | cons r1 r2 => exact .cons (h.rv hD r1) (ih r2)
theorem NF.is {D : Addr} {d : PyData} {fz : Heap} (hD : RV fz (.dat d) (.ref D)) {l l' : List (Str × V)} (x : NF D d l l') {es : Array DictEntry} (h : ∀ p ∈ l, ∃ v, nsFind es p.1 = some v ∧ RV fz p.2 v) :
    ∀ p ∈ l', ∃ v, nsFind es p.1 = some v ∧ RV fz p.2 v := by
  induction x with
  | nil => exact h
  | cons hv _ ih =>
    intro p hp
    rcases List.mem_cons.mp hp with rfl | hp
    · obtain ⟨v, e, r⟩ := h _ List.mem_cons_self; exact ⟨v, e, hv.rv hD r⟩
    · exact ih (fun q hq => h q (List.mem_cons_of_mem _ hq)) p hp
theorem OF.is {D : Addr} {d : PyData} {fz : Heap} (hD : RV fz (.dat d) (.ref D)) {l l' : Own} (x : OF D d l l') : (l'.map (·.1) = l.map (·.1)) ∧ ∀ p' ∈ l', ∃ p ∈ l, p.1 = p'.1 ∧ ∀ o, ObIs fz p.2 o → ObIs fz p'.2 o := by
  induction x with
  | refl => exact ⟨rfl, fun p hp => ⟨p, hp, rfl, fun _ h => h⟩⟩
  | ns h _ ih =>
    refine ⟨by simp [ih.1], fun p hp => ?_⟩
    rcases List.mem_cons.mp hp with rfl | hp
    · exact ⟨_, List.mem_cons_self, rfl, fun o ⟨es, ep, h1, h2, h3⟩ => ⟨es, ep, h1, h2, h.is hD h3⟩⟩
    · obtain ⟨q, hq, r⟩ := ih.2 p hp; exact ⟨q, List.mem_cons_of_mem _ hq, r⟩
  | cell h _ ih =>
    refine ⟨by simp [ih.1], fun p hp => ?_⟩
    rcases List.mem_cons.mp hp with rfl | hp
    · exact ⟨_, List.mem_cons_self, rfl, fun o ⟨v, e, r⟩ => ⟨v, e, h.rv hD r⟩⟩
    · obtain ⟨q, hq, r⟩ := ih.2 p hp; exact ⟨q, List.mem_cons_of_mem _ hq, r⟩
  | list h _ ih =>
    refine ⟨by simp [ih.1], fun p hp => ?_⟩
    rcases List.mem_cons.mp hp with rfl | hp
    · exact ⟨_, List.mem_cons_self, rfl, fun o ⟨vs, n, e, r⟩ => ⟨vs, n, e, h.rv hD r⟩⟩
    · obtain ⟨q, hq, r⟩ := ih.2 p hp; exact ⟨q, List.mem_cons_of_mem _ hq, r⟩
  | same _ ih =>
    refine ⟨by simp [ih.1], fun p hp => ?_⟩
    rcases List.mem_cons.mp hp with rfl | hp
    · exact ⟨_, List.mem_cons_self, rfl, fun _ h => h⟩
    · obtain ⟨q, hq, r⟩ := ih.2 p hp; exact ⟨q, List.mem_cons_of_mem _ hq, r⟩
theorem OF.gens {D : Addr} {d : PyData} {l l' : Own} (x : OF D d l l') {gs : Array GenState} (G : GensIs l gs) : GensIs l' gs := by
  have key : (l'.filterMap fun p => p.2.genOf) = (l.filterMap fun p => p.2.genOf) ∧ ∀ p ∈ l', ∀ g P, p.2 = .gen g P → p ∈ l := by
    clear G
    induction x with
    | refl => exact ⟨rfl, fun p hp _ _ _ => hp⟩
    | ns _ _ ih =>
      refine ⟨by simpa [List.filterMap_cons, Ob.genOf] using ih.1, fun p hp g P e => ?_⟩
      rcases List.mem_cons.mp hp with rfl | hp
      · cases e
      · exact List.mem_cons_of_mem _ (ih.2 p hp g P e)
    | cell _ _ ih =>
      refine ⟨by simpa [List.filterMap_cons, Ob.genOf] using ih.1, fun p hp g P e => ?_⟩
      rcases List.mem_cons.mp hp with rfl | hp
      · cases e
      · exact List.mem_cons_of_mem _ (ih.2 p hp g P e)
    | list _ _ ih =>
      refine ⟨by simpa [List.filterMap_cons, Ob.genOf] using ih.1, fun p hp g P e => ?_⟩
      rcases List.mem_cons.mp hp with rfl | hp
      · cases e
      · exact List.mem_cons_of_mem _ (ih.2 p hp g P e)
    | same _ ih =>
      refine ⟨by rw [List.filterMap_cons, List.filterMap_cons, ih.1], fun p hp g P e => ?_⟩
      rcases List.mem_cons.mp hp with rfl | hp
      · exact List.mem_cons_self
      · exact List.mem_cons_of_mem _ (ih.2 p hp g P e)
  exact ⟨G.bare, fun p hp g P e => G.st p (key.2 p hp g P e) g P e, by rw [key.1]; exact G.nd⟩
theorem SG_frz {α β : Type} {R : Heap → β → α → Prop} {t : Sem α} {own₁ own' : Own} {Q : β → Own → Prop} {D : Addr} {ys : List V} {ds : List PyData} (tk : Take D (.list ys) own own₁) (ad : AllDat ys ds) (x : OF D (.list ds) own₁ own')
    (h : SG W A R t own' Q) : SG W A R t own Q := fun fz s H ht => by
  obtain ⟨fz', k, H', r⟩ := (H.perm tk.perm).freezeList ad
  obtain ⟨k1, k2⟩ := x.is r
  refine (h fz' s ⟨H'.base, H'.has, fun p hp => ?_, fun p hp => ?_, by rw [k1]; exact H'.nd, x.gens H'.gens, H'.os⟩ ht).weak k
  · obtain ⟨q, hq, e, f⟩ := k2 p hp
    obtain ⟨o, ho, i⟩ := H'.obs q hq
    exact ⟨o, e ▸ ho, f o i⟩
  · obtain ⟨q, hq, e, f⟩ := k2 p hp
    exact e ▸ H'.out q hq

theorem bits_small {n : Int} (h : n.natAbs < 2 ^ 60) : Builtin.Int.intBits n ≤ 64 := by
  unfold Builtin.Int.intBits
  split
  · (first | decide | exact Nat.le_trans (by assumption) (by decide) | lia | omega)
  · rename_i hx
    have hx' : n.natAbs ≠ 0 := by simpa using hx
    have := (Nat.log2_lt hx').mpr h
    (first | decide | exact Nat.le_trans (by assumption) (by decide) | lia | omega)

theorem deeper_gen {body : List Stmt} {e : Env} {Q : Fl → Own → Prop} (hh : A.handled = none) (h : ∀ A' : Around, A'.handled = none → A'.depth = A.depth + 1 → A'.units = A.units + 3 → SXs W A' env body own Q) : SXs W (A.deeper e) env body own Q :=
  h _ hh rfl rfl
end
section
variable {W : Wd} {A : Around} {env : Env} {own : Own}

/-! ### small calls -/
theorem strs_of {fz : Heap} : ∀ {ls : List (List Nat)} {vs : List Value}, RVs fz ((ls.map fun l => PyData.str (S l)).map V.dat) vs → StrsAre vs (ls.map S)
  | [], _, r => by cases r; exact .nil
  | n :: ns, _, r => by
    cases r with
    | cons h t => obtain ⟨t', rfl⟩ := RV.str_inv h; exact .cons _ _ (strs_of t)
/-! ### texts made of texts -/
theorem call_join {ls : List (List Nat)} {Q : V → Own → Prop} (hz : (ls.flatten).length ≤ 1000000) (h : Q (.str (S ls.flatten)) own) :
    SL W A RV (fun vs => call (.builtin "str.join") vs) [.str (S []), .lst (ls.map fun l => .str (S l))] own Q := SL2 fun fz s v u H ht r1 r2 => by
  obtain ⟨t, rfl⟩ := r1.str_inv
  obtain ⟨x, vs, rfl, hl, rs⟩ := r2.lst_inv
  have hsum : ∀ ls : List (List Nat), ((ls.map S).map (·.length)).sum = ls.flatten.length := by
    intro ls
    induction ls with
    | nil => rfl
    | cons a r ih => simp only [List.map_cons, List.sum_cons, ih, S_len, List.flatten_cons, List.length_append]
  have hj : ∀ ls : List (List Nat), Txt.join (S []) (ls.map S) = S ls.flatten := by
    intro ls
    have key : ∀ ls : List (List Nat), Str.join (S []) (ls.map S) = S ls.flatten := by
      intro ls
      induction ls with
      | nil => rfl
      | cons a r ih =>
        cases r with
        | nil => simp [Str.join]
        | cons b r =>
          have e : Str.join (S []) ((a :: b :: r).map S) = S a ++ S [] ++ Str.join (S []) ((b :: r).map S) := rfl
          rw [e, ih, S_cat, S_cat]; simp
    have := key ls
    exact (eq_of_beq (join_plain_closes _ _)).trans this
  refine join_list (IsList_keep hl H.has) (strs_of rs) ?_ fun t' k => ?_
  · rw [hsum, S_len]; simp only [List.length_nil, Nat.mul_zero]; (first | decide | exact Nat.le_trans (by assumption) (by decide) | lia | omega)
  · rw [hj]; exact at_tok H _ (.dat (.str _ _)) h

/-! ### lists that grow -/
/-! ### replaced signs -/
noncomputable def repl (c : Nat) (z l : List Nat) : List Nat := l.flatMap fun d => if d = c then z else [d]
theorem repl_free {c : Nat} {z : List Nat} : ∀ {l : List Nat}, c ∉ l → repl c z l = l
  | [], _ => rfl
  | d :: l, h => by
    have h1 : ¬ d = c := fun e => h (e ▸ List.mem_cons_self)
    have ih := repl_free (z := z) (l := l) fun m => h (List.mem_cons_of_mem _ m)
    unfold repl at ih ⊢
    rw [List.flatMap_cons, if_neg h1, ih]; rfl
theorem repl_join (c : Nat) (z : List Nat) : ∀ parts : List Str, (∀ p ∈ parts, c ∉ p.cps.toList) → repl c z (Str.join ⟨#[c]⟩ parts).cps.toList = (Str.join (S z) parts).cps.toList
  | [], _ => rfl
  | [p], h => repl_free (h p (List.mem_singleton.mpr rfl))
  | p :: q :: r, h => by
    have ih := repl_join c z (q :: r) fun a ha => h a (List.mem_cons_of_mem _ ha)
    show repl c z (p ++ ⟨#[c]⟩ ++ Str.join ⟨#[c]⟩ (q :: r)).cps.toList = (p ++ S z ++ Str.join (S z) (q :: r)).cps.toList
    simp only [Str.cps_append, Array.toList_append]
    have e1 := repl_free (z := z) (h p List.mem_cons_self)
    unfold repl at e1 ih ⊢
    rw [List.flatMap_append, List.flatMap_append, ih, e1]
    simp [S]
theorem replace_S (l z : List Nat) (c : Nat) : Txt.replace (S l) (S [c]) (S z) = S (repl c z l) := by
  have e : (S [c] : Str) = ⟨#[c]⟩ := rfl
  rw [e, StrLaws.replace_one]
  have h2 := repl_join c z _ (StrLaws.split_free (S l) c)
  rw [StrLaws.join_split] at h2
  have h3 : (S l).cps.toList = l := by simp [S]
  rw [h3] at h2
  rw [h2]
  simp [S]
theorem repl_len (c : Nat) (z l : List Nat) : (repl c z l).length ≤ l.length * (z.length + 1) := by
  unfold repl
  induction l with
  | nil => simp
  | cons d l ih =>
    rw [List.flatMap_cons, List.length_append, List.length_cons, Nat.succ_mul]
    split
    · (first | decide | exact Nat.le_trans (by assumption) (by decide) | lia | omega)
    · simp only [List.length_cons, List.length_nil]; (first | decide | exact Nat.le_trans (by assumption) (by decide) | lia | omega)

/-- two texts written out: their tokens stand apart -/
theorem SEs_two {pos : Pos} {y z : Str} {k k' : Nat} {p p' : Pos} {Q : List V → Own → Prop} (h : ∀ t, W.tk ≤ t → Q [.val (.str y t), .val (.str z (t + 1))] own) : SEs W A env pos [.Constant (.str y) k p, .Constant (.str z) k' p'] own Q := fun fz s H ht => by
  show wpAny _ _ (spliced ((false, eval (.Constant (.str y) k p) env) :: (false, eval (.Constant (.str z) k' p') env) :: [])) _ _ _
  refine Calls.spliced_cons (wpAny_Constant_str ?_)
  refine Calls.spliced_cons (wpAny_Constant_str ?_)
  refine Calls.spliced_nil ?_
  exact ⟨fz, _, own, .refl _, (H.toks _).toks _, .cons (.val _) (.cons (.val _) .nil), h _ ht⟩
theorem call_replace {l y z : List Nat} {c : Nat} {u v : Tok} {Q : V → Own → Prop} (hu : u ≠ 0) (hv : v ≠ 0) (huv : u ≠ v) (hyz : ([c] == z) = false) (hx : l.length ≤ 100000) (hz : z.length ≤ 14) (h : Q (.str (S (repl c z l))) own) :
    SL W A RV (fun vs => call (.builtin "str.replace") vs) [.str (S l), .val (.str (S [c]) u), .val (.str (S z) v)] own Q := fun fz s vs H ht r => by
  cases r with | cons r1 r => cases r with | cons r2 r => cases r with | cons r3 r =>
  cases r
  obtain ⟨t, rfl⟩ := r1.str_inv
  cases r2.val_inv
  cases r3.val_inv
  refine SC.replaceW hu hv huv ?_ (by rw [S_len]; (first | decide | exact Nat.le_trans (by assumption) (by decide) | lia | omega)) (by rw [S_len]; exact hz) fun t' k => ?_
  · have : ([c] : List Nat) ≠ z := by simpa using hyz
    have h2 : S [c] ≠ S z := fun e => this (S_inj.mp e)
    simpa using h2
  · rw [replace_S]; exact at_tok H _ (.dat (.str _ _)) h
theorem SE_Replace {o : Expr} {apos pos p p' : Pos} {k k' : Nat} {y z : Str} {c : Nat} {zl : List Nat} {pl : Sem Bool} {Q : V → Own → Prop} (h1 : 1 ≤ W.tk) (hy : lit y = [c]) (hz : lit z = zl) (hyz : ([c] == zl) = false) (hzl : zl.length ≤ 14)
    (h : SE W A env o own fun a o1 => ∃ l, a = .str (S l) ∧ l.length ≤ 100000 ∧ Q (.str (S (repl c zl l))) o1)
    (he : eval (.Call (.Attribute o (Str.ofString "replace") apos) [.Constant (.str y) k p, .Constant (.str z) k' p'] [] pos) env = (do
      let ov ← eval o env
      standAt apos.atName
      let (f, first) ← holding [ov] (getMethod ov (Str.ofString "replace") pl)
      callWith pos f first (backTo pos (starEach [.Constant (.str y) k p, .Constant (.str z) k' p'] env)) []) := by rfl) : SE W A env (.Call (.Attribute o (Str.ofString "replace") apos) [.Constant (.str y) k p, .Constant (.str z) k' p'] [] pos) own Q := by
  refine SE_Meth (pl := pl) (SG.mono h fun a o1 hx => ?_) he
  obtain ⟨l, rfl, hl, q⟩ := hx
  refine mth_str (id := "str.replace") (fun t s P h => GM.replace h) ?_
  refine SEs_two fun t ht => ⟨kp_builtin, ?_⟩
  have ey : y = S [c] := by rw [← hy, S_lit]
  have ez : z = S zl := by rw [← hz, S_lit]
  subst ey ez
  exact call_replace (y := []) (by have : 1 ≤ t := Nat.le_trans h1 ht; exact fun e => by subst e; exact absurd this (by decide)) (Nat.succ_ne_zero _) (Nat.ne_of_lt (Nat.lt_succ_self t)) hyz hl hzl q

/-! ### the end struck off -/
noncomputable def rstripL (p : Nat → Bool) (l : List Nat) : List Nat := l.take (l.length - (l.reverse.takeWhile p).length)
theorem rstrip_S (p : Nat → Bool) (l : List Nat) : Txt.stripBy p false true (S l) = S (rstripL p l) := by
  have e1 : stripLo p false (S l) = 0 := rfl
  have e2 : stripHi p true (S l) 0 = l.length - (l.reverse.takeWhile p).length := by unfold stripHi; simp [S, Str.length]
  unfold Txt.stripBy stripSame PySem.stripped
  rw [e1, e2]
  split
  · rename_i h
    simp only [beq_self_eq_true, Bool.true_and, beq_iff_eq, S_len] at h
    unfold rstripL
    rw [h, List.take_length]
  · unfold Builtin.Str.strSub rstripL S; simp
theorem call_rstrip {l : List Nat} {Q : V → Own → Prop} (hz : l.length ≤ sizeLine) (h : Q (.str (S (rstripL Unicode.isSpace l))) own) : SL W A RV (fun vs => call (.builtin "str.rstrip") vs) [.str (S l)] own Q := SL1 fun fz s v H ht r => by
  obtain ⟨t, rfl⟩ := r.str_inv
  refine call_gives F.slot_str_rstrip (typeIs_str _ _ _) F.entry_str_rstrip (F.args_str_rstrip_1 _) (gives_str_rstrip (S l) t) (post_val_or_made (fun _ => fits_stripped _ _ _ (by rw [S_len]; exact hz)) fun t' k => ?_)
  have := rstrip_S Unicode.isSpace l
  unfold Txt.stripBy at this
  first | rw [this] | skip
  exact at_tok H _ (.dat (.str _ _)) h
end
section
variable {W : Wd} {A : Around} {env : Env} {own : Own}

/-! ### formats -/
noncomputable def decT (n : Int) : List Nat := (if n < 0 then [45] else []) ++ (Str.ofString (toString ((n.natAbs : Nat) : Int))).cps.toList
theorem dec_int (f : Builtin.Str.Percent) (h1 : f.alt = false) (h2 : f.type = 100) (h3 : f.prec = none) (n : Int) (d : List Nat) : Builtin.Str.percentInt f (decide (n < 0)) d = (if n < 0 then [45] else []) ++ d := by
  unfold Builtin.Str.percentInt
  simp [h1, h2, h3]
set_option maxHeartbeats 4000000 in
theorem meets_d (n : Int) (t u : Tok) (hd : n.natAbs.log2 < 1920) (hd' : ((n.natAbs : Nat) : Int).natAbs.log2 < 1920) (hz : (decT n).length ≤ 1000) :
    Meets (Builtin.«str.__mod__» ⟨[.str ⟨#[37, 100]⟩ t, .int n u], []⟩) (fun _ R s => ∀ t' k, R (.ok (.ret (.str (S (decT n)) t'))) { s with toks := k }) := by
  apply KPc.meets_of
  intro prog w A s Q E hq
  rw [KPc.entry_is]
  unfold Builtin.Str.percentFormat
  refine wpAny_bind (wpAny_isInstance (typeIs_int _ _ _) F.sub_int_tuple ?_)
  refine wpAny_bind (wpAny_of_eq (a := none) rfl ?_)
  refine wpAny_bind (wpAny_of_eq (KPc.fills _ _) ?_)
  kpc_if
  refine wpAny_bind (wpAny_pure ?_)
  refine wpAny_bind ?_
  rw [KPc.range_list]
  refine KPc.start ?_
  intro w0 g0
  refine KPc.turn ?_
  kpc_check
  repeat kpc_if
  refine wpAny_bind ?_
  refine wpAny_holding ?_
  repeat kpc_if
  kpc_conv
  refine wpAny_pure ?_
  refine wpAny_pure ?_
  refine KPc.after_add0 (y := S (decT n)) g0 ?_ (KPc.obj_none (by kpc_none)) ?_
  · rw [dec_int _ rfl rfl rfl]; rfl
  intro w1 g1
  have g2 : KPc.Good w1 (S (decT n)) 1000 := KPc.good_mono g1 (by rw [S_len]; (first | decide | exact Nat.le_trans (by assumption) (by decide) | lia | omega))
  refine KPc.turn ?_
  refine wpAny_ite (KPc.ite_no (KPc.short_good g2 (by decide)) ?_)
  repeat kpc_if
  refine wpAny_pure ?_
  kpc_if
  exact KPc.finish_ok g2 (by decide) rfl hq
theorem lk_int : typeLookup (.type "str") "__int__" = pure none := by rw [typeLookup_type, builtinLookup_eq_fast]; kernel_rfl
theorem lk_index : typeLookup (.type "str") "__index__" = pure none := by rw [typeLookup_type, builtinLookup_eq_fast]; kernel_rfl
theorem lk_float : typeLookup (.type "str") "__float__" = pure none := by rw [typeLookup_type, builtinLookup_eq_fast]; kernel_rfl
theorem lk_trunc : typeLookup (.type "str") "__trunc__" = pure none := by rw [typeLookup_type, builtinLookup_eq_fast]; kernel_rfl
theorem sp_str (x : Str) (u : Tok) (n : Str) : specialOf (.str x u) n = typeLookup (.type "str") n := rfl
theorem intOf_str {M : Model} {A : Around} {s : Shared} {x : Str} {u : Tok} {Q : Int → Shared → Prop} {E : Value → Shared → Prop} (hh : A.handled = none) (h : ∀ h' tk e, Heap.NewExc s.heap h' e "TypeError" → E (.ref e) { s with heap := h', toks := tk }) :
    wpAny M A (Builtin.Str.percentIntOf 100 (.str x u)) Q E s := by
  unfold Builtin.Str.percentIntOf
  refine wpAny_bind (wpAny_of_eq (a := none) rfl ?_)
  simp only [sp_str, lk_int, lk_index, lk_float, lk_trunc, pure_bind, Option.isSome_none]
  kpc_if
  refine wpAny_bind (wpAny_rule ?_)
  refine wpAny_bind (wpAny_typeNameOf' (typeIs_str _ _ _) (by decide) ?_)
  refine wpAny_raiseErrorMade plainExc_TypeError hh h ?_
  rw [PySem.ofString_length, sizeLine_eq]
  decide +kernel
set_option maxHeartbeats 4000000 in
theorem meets_ds (x : Str) (t u : Tok) : Meets (Builtin.«str.__mod__» ⟨[.str ⟨#[37, 100]⟩ t, .str x u], []⟩) (raisesNew "TypeError") := by
  intro prog w A R s hS
  rw [KPc.entry_is_s]
  unfold Builtin.Str.percentFormat
  refine wpAny_bind (wpAny_isInstance (typeIs_str _ _ _) F.sub_str_tuple ?_)
  refine wpAny_bind (wpAny_of_eq (a := some _) rfl ?_)
  refine wpAny_bind (KPc.wp_fills_str ?_)
  intro _
  kpc_if
  refine wpAny_bind (wpAny_pure ?_)
  refine wpAny_bind ?_
  rw [KPc.range_list]
  refine KPc.start ?_
  intro w0 g0
  refine KPc.turn ?_
  kpc_check
  repeat kpc_if
  refine wpAny_bind ?_
  refine wpAny_holding ?_
  repeat kpc_if
  refine wpAny_bind ?_
  exact intOf_str hS.1 hS.2
end
section
variable {W : Wd} {A : Around} {env : Env} {own : Own}

/-! ### raised and caught in one frame -/
noncomputable def FrO (own : Own) : List Env → Prop
  | [] => True
  | e :: l => e.scope.kind ≠ .module ∧ (∃ L loc, e.frame = some L ∧ (L, Ob.ns loc) ∈ own) ∧ FrO own l
theorem FrO.mem {l : List Env} (h : FrO own l) {b : Addr} (hb : b ∈ l.filterMap (·.frame)) : ∃ loc, (b, Ob.ns loc) ∈ own := by
  induction l with
  | nil => simp at hb
  | cons e r ih =>
    obtain ⟨_, ⟨L, loc, hf, hm⟩, hr⟩ := h
    rw [List.filterMap_cons, hf] at hb
    rcases List.mem_cons.mp hb with e | hb
    · subst e; exact ⟨loc, hm⟩
    · exact ih hr hb
theorem FrO.fun {fz : Heap} {s : Shared} (H : Hold W fz own s) : ∀ {l : List Env}, FrO own l → s.heap.FunFrames fz l
  | [], _ => trivial
  | e :: l, ⟨h1, ⟨L, loc, hf, hm⟩, hr⟩ => by
    obtain ⟨o, ho, es, ep, hd, _⟩ := H.get hm
    exact ⟨h1, ⟨L, o, hf, H.out _ hm, ho, fun vs e => by rw [hd] at e; cases e⟩, FrO.fun H hr⟩
theorem Hold.slots {fz : Heap} {s : Shared} (H : Hold W fz own s) {h' : Heap} {S : List Addr} (hs : Heap.SlotsOnly S s.heap h') (hS : ∀ b ∈ S, ∃ loc, (b, Ob.ns loc) ∈ own) : Hold W fz own { s with heap := h' } where
  base := H.base
  has := fun b o e => by
    have : b ∉ S := fun hb => by obtain ⟨loc, hm⟩ := hS b hb; have := H.out _ hm; rw [this] at e; cases e
    rw [hs.2.1 b this]; exact H.has b o e
  obs := fun p hp => by
    obtain ⟨o, ho, hob⟩ := H.obs p hp
    by_cases hb : p.1 ∈ S
    · obtain ⟨loc, hm⟩ := hS _ hb
      obtain ⟨sl, e⟩ := hs.2.2 _ _ ho
      have := mem_unique H.nd hp hm rfl
      rw [this] at hob ⊢
      exact ⟨_, e, hob⟩
    · exact ⟨o, by rw [hs.2.1 _ hb]; exact ho, hob⟩
  out := H.out
  nd := H.nd
  gens := H.gens
  os := H.os
theorem Hold.off {fz : Heap} {s : Shared} (H : Hold W fz own s) {h' : Heap} {a : Addr} (hs : Heap.SameBut a s.heap h') (hf : fz.get? a = none) (ho : ∀ p ∈ own, p.1 ≠ a) : Hold W fz own { s with heap := h' } where
  base := H.base
  has := fun b o e => (hs.2 b (fun hb => by rw [hb, hf] at e; cases e)).trans (H.has b o e)
  obs := fun p hp => let ⟨o, e, r⟩ := H.obs p hp; ⟨o, (hs.2 _ (ho p hp)).trans e, r⟩
  out := H.out
  nd := H.nd
  gens := H.gens
  os := H.os
theorem off_of {fz : Heap} {s : Shared} (H : Hold W fz own s) {a : Addr} (h : s.heap.get? a = none) : fz.get? a = none ∧ ∀ p ∈ own, p.1 ≠ a := by
  refine ⟨?_, fun p hp e => ?_⟩
  · cases e : fz.get? a with
    | none => rfl
    | some o => have := H.has _ _ e; rw [h] at this; cases this
  · obtain ⟨o, ho, _⟩ := H.obs p hp; rw [e, h] at ho; cases ho

theorem name_same {prog : Program} {x : Str} {v : Value} {pos : Pos} {fz : Heap} {s : Shared} {P : Value → Shared → Prop} {E : Value → Shared → Prop} (H : Hold W fz own s) (hk : env.scope.kind = .function) (hg : env.globals = mainGlobals) (hb : env.builtins = builtinsNs) (hl : env.kindOf x = some .globalImplicit) (e : nsIn W.K mainGlobals x = some none)
    (hv : bootBuiltins x = some v) (hn : x ≠ "__name__") (hd : (x == ("__debug__" : Str)) = false) (h : P v s) : wpAny (model prog W.w) A (eval (.Name x pos) env) P E s := by
  refine wpAny_Name ?_ hd
  unfold loadName
  simp only [Env.blockKind, hk, hl, ScopeKind.isAnnotationScope, Bool.false_and, Bool.false_eq_true, if_false]
  exact Calls.loadGlobal_builtin (by rw [hg]; exact W.top.g.keeps H.keep) (mg_none_of W.kin W.top.g e) (by rw [hb]; exact W.top.b.keeps H.keep) ((W.top.builtins x hn).trans hv) h

theorem SX_TryX {body : List Stmt} {x : Str} {px ph pos : Pos} {b₀ : Stmt} {suite : List Stmt} {X T : String} {L : Addr} {outer : List Env} {Q : Fl → Own → Prop}
    (hfr : A.frames = some (env :: outer)) (hF : FrO own (env :: outer)) (hL : env.frame = some L)
    (hk : env.scope.kind = .function) (hg : env.globals = mainGlobals) (hb : env.builtins = builtinsNs) (hl : env.kindOf x = some .globalImplicit) (hx : nsIn W.K mainGlobals x = some none)
    (hv : bootBuiltins x = some (.type T)) (hn : x ≠ "__name__") (hd : (x == ("__debug__" : Str)) = false)
    (hexc : isSubtype (.type T) (.type "BaseException") = pure true) (hnt : isSubtype (.type ((Manifest.find? T).elim "type" fun y => y.metatype)) (.type "tuple") = pure false) (hsub : isSubtype (.type X) (.type T) = pure true)
    (hbody : ∀ fz s, Hold W fz own s → W.tk ≤ s.toks → wpAny (model W.prog W.w) A (execs body env) (fun _ _ => False) (fun e s' => ∃ a h' tk, e = .ref a ∧ s' = { s with heap := h', toks := tk } ∧ Heap.NewExc s.heap h' a X) s)
    (h : ∀ A' : Around, SXs W A' env (b₀ :: suite) own Q) : SX W A env (.Try body [.ExceptHandler (some (.Name x px)) none (b₀ :: suite) ph] [] [] pos) own Q := fun fz s H ht => by
  refine wpAny_Try_except (wpAny_mono (wpAny_toks_of ht (hbody fz s H ht)) (fun _ _ x => x.2.elim) ?_)
  rintro e' s' ⟨t1, e, h₁, tk, rfl, rfl, hx1⟩
  obtain ⟨ke, hen, ob, tt, he, hcls, hd0⟩ := hx1
  obtain ⟨o1, o2⟩ := off_of H hen
  have H1 : Hold W fz own { s with heap := h₁, toks := tk } := H.grow ke
  refine (show wpAny _ _ (noteFrame (.ref e) env) _ _ _ from ?_)
  unfold noteFrame
  simp only [hL]
  have hq1 : (#[tt, Value.none, Value.none, Value.none, Value.bool false, Value.none] : Array Value)[1]? = some .none := rfl
  refine wpAny_bind (wpAny_field he hd0 hq1 ?_)
  rw [if_neg (by decide)]
  refine wpAny_bind (wpAny_frameOf_fun hfr (FrO.fun H1 hF) hL fun h₂ hs₂ => ?_)
  have H2 : Hold W fz own { s with heap := h₂, toks := tk } := H1.slots hs₂ fun b hb => hF.mem hb
  refine wpAny_bind (wpAny_entryPlaceOf fun pl hpl => ?_)
  unfold EntryCells.newEntry newFields
  refine wpAny_bind (wpAny_newObj_type ?_ (hpl.sizeOk5 _ _ _ _ _))
  have hef : e ∉ (env :: outer).filterMap (·.frame) := fun hm => by obtain ⟨loc, hm⟩ := hF.mem hm; exact o2 _ hm rfl
  have he₂ : h₂.get? e = some ob := by rw [hs₂.2.1 _ hef]; exact he
  have htbe : h₂.objs.size ≠ e := Nat.ne_of_gt (Heap.lt_size he₂)
  have hdO : ∀ p ∈ own, p.1 ≠ h₂.objs.size := (off_of H2 (get?_ge (Nat.le_refl _))).2
  have hdF : fz.get? h₂.objs.size = none := (off_of H2 (get?_ge (Nat.le_refl _))).1
  have he₃ := Heap.get?_push_of_some (h := h₂) { cls := .type "traceback", dict := none, data := .fields ([Value.none, .ref L, .none, rawInt L, .none] ++ (if pl.isEmpty then List.replicate 6 Value.none else pl)).toArray } he₂
  refine wpAny_setField he₃ hd0 (by simp) ?_
  have hd₃ := Obj.data_mapFields hd0 (·.setIfInBounds 1 (Value.ref h₂.objs.size))
  have he₄ := Heap.get?_update_self (Obj.mapFields (·.setIfInBounds 1 (Value.ref h₂.objs.size))) he₃ (Obj.isFreed_of_fields hd₃)
  have ht₄ := (Heap.get?_update_other (h₂.push { cls := .type "traceback", dict := none, data := .fields ([Value.none, .ref L, .none, rawInt L, .none] ++ (if pl.isEmpty then List.replicate 6 Value.none else pl)).toArray }) (Obj.mapFields (·.setIfInBounds 1 (Value.ref h₂.objs.size))) (Ne.symm htbe)).trans (Heap.get?_push_size h₂ rfl)
  have H3 : Hold W fz own { s with heap := (h₂.push { cls := .type "traceback", dict := none, data := .fields ([Value.none, .ref L, .none, rawInt L, .none] ++ (if pl.isEmpty then List.replicate 6 Value.none else pl)).toArray }), toks := tk } := H2.grow (k := tk) (Keep.push _ _)
  have H4 := H3.off (Heap.SameBut.update (h₂.push { cls := .type "traceback", dict := none, data := .fields ([Value.none, .ref L, .none, rawInt L, .none] ++ (if pl.isEmpty then List.replicate 6 Value.none else pl)).toArray }) e (Obj.mapFields (·.setIfInBounds 1 (Value.ref h₂.objs.size)))) o1 o2
  have hsz : 3 < ([Value.none, .ref L, .none, rawInt L, .none] ++ (if pl.isEmpty then List.replicate 6 Value.none else pl)).toArray.size := by simp only [List.size_toArray, List.length_append, List.length_cons, List.length_nil]; (first | decide | exact Nat.le_trans (by assumption) (by decide) | lia | omega)
  refine wpAny_setFlight_none (tb := h₂.objs.size) he₄ hd₃ (by simp) ht₄ rfl hsz ?_
  have H5 := H4.off (Heap.SameBut.update _ h₂.objs.size (Obj.mapFields (·.setIfInBounds 3 Value.none))) hdF hdO
  have he₅ := (Heap.get?_update_other _ (Obj.mapFields (·.setIfInBounds 3 Value.none)) htbe).trans he₄
  have ht₅ := Heap.get?_update_self (Obj.mapFields (·.setIfInBounds 3 Value.none)) ht₄ (Obj.isFreed_of_fields (Obj.data_mapFields rfl _))
  refine wpAny_handleBy_builtin (X := X) (T := T) (b := true) hexc hnt hsub (name_same H5 hk hg hb hl hx hv hn hd ⟨rfl, ⟨_, he₅, by obtain ⟨c, d, dt, sl⟩ := ob; cases dt <;> exact hcls⟩, ?_⟩)
  rw [if_pos rfl]
  refine wpAny_setFlight_none (tb := h₂.objs.size) he₅ hd₃ (by simp) ht₅ (Obj.data_mapFields rfl _) (by simpa using hsz) ?_
  have H6 := H5.off (Heap.SameBut.update _ h₂.objs.size (Obj.mapFields (·.setIfInBounds 3 Value.none))) hdF hdO
  exact wpAny_mono (h _ fz _ H6 t1) (fun _ _ x => x) fun _ _ x => x.elim

theorem SX_TryN {body : List Stmt} {h₀ : ExceptHandler} {hs : List ExceptHandler} {pos : Pos} {Q : Fl → Own → Prop} (h : SXs W A env body own Q) : SX W A env (.Try body (h₀ :: hs) [] [] pos) own Q := fun fz s H ht => by
  refine wpAny_Try_except (wpAny_mono (wp_then (P := fun f s' => Post W RF Q fz f s') (h fz s H ht) ht fun fz1 va a o1 s1 k1 H1 t1 r1 q1 => ⟨fz1, a, o1, k1, H1, r1, q1⟩) ?_ fun _ _ x => x.elim)
  rintro f s1 ⟨fz1, a, o1, k1, H1, r1, q1⟩
  cases r1 with
  | next => exact wpAny_execs_nil ⟨fz1, _, o1, k1, H1, .next, q1⟩
  | brk => exact ⟨fz1, _, o1, k1, H1, .brk, q1⟩
  | cont => exact ⟨fz1, _, o1, k1, H1, .cont, q1⟩
  | ret r => exact ⟨fz1, _, o1, k1, H1, .ret r, q1⟩

theorem op_fmtD {n : Int} {Q : V → Own → Prop} (hd : n.natAbs.log2 < 1920) (hz : (decT n).length ≤ 1000) (h : Q (.str (S (decT n))) own) : S2 W A RV (binaryOp .Mod) (.str (S [37, 100])) (.int n) own Q := fun fz s v u H ht r1 r2 => by
  obtain ⟨t, rfl⟩ := r1.str_inv
  obtain ⟨t', rfl⟩ := r2.int_inv
  exact KPc.mod_lit rfl hd (fun h1 h2 => meets_d n t t' h1 h2 hz) fun t' k => at_tok H _ (.dat (.str _ _)) h
theorem raise_fmtD {prog : Program} {w : World} {l : List Nat} {t u : Tok} {s : Shared} {Q : Value → Shared → Prop} {E : Value → Shared → Prop} (hh : A.handled = none) (h : ∀ h' tk e, Heap.NewExc s.heap h' e "TypeError" → E (.ref e) { s with heap := h', toks := tk }) :
    wpAny (model prog w) A (binaryOp .Mod (.str (S [37, 100]) t) (.str (S l) u)) Q E s :=
  binaryOp_meets (T := "str") (op := .Mod) (typeIs_str _ _ _) (typeIs_str _ _ _) F.fills_str_mod F.slot_str_mod F.entry_str_mod (F.args_str_mod_2 _ _) (meets_ds (S l) t u) ⟨hh, h⟩

/-- x = '%d' % x where x is a text -/
theorem raise_assign {x y : Str} {p p1 p2 p3 p4 : Pos} {F : Str} {k : Nat} {rest : List Stmt} {loc : List (Str × V)} {L : Addr} {l : List Nat} (hh : A.handled = none) (hF : lit F = [37, 100]) (hk : env.scope.kind = .function) (hl : env.kindOf x = some .local) (hm : (L, Ob.ns loc) ∈ own) (hL : env.locals = L) (hx : (x, V.str (S l)) ∈ loc)
    (hd : (x == ("__debug__" : Str)) = false) (hs : swapsWith (.BinOp (.Constant (.str F) k p1) .Mod (.Name x p2) p3) (some (.Name y p)) p4.line env = pure false := by rfl) :
    ∀ fz s, Hold W fz own s → W.tk ≤ s.toks → wpAny (model W.prog W.w) A (execs (.Assign [.Name y p] (.BinOp (.Constant (.str F) k p1) .Mod (.Name x p2) p3) p4 :: rest) env) (fun _ _ => False) (fun e s' => ∃ a h' tk, e = .ref a ∧ s' = { s with heap := h', toks := tk } ∧ Heap.NewExc s.heap h' a "TypeError") s := fun fz s H ht => by
  have eF : F = S [37, 100] := by rw [← hF, S_lit]
  subst eF hL
  refine wpAny_execs_cons (wpAny_Assign_Name (wpAny_BinOp (wpAny_Constant_str (wpAny_Name ?_ hd))) hs)
  obtain ⟨o, ho, x1⟩ := H.get hm
  obtain ⟨m, hn, hv⟩ := ns_of ho x1
  obtain ⟨v, e, r⟩ := hv _ hx
  obtain ⟨u, rfl⟩ := RV.str_inv r
  refine wpAny_loadName_local hk hl hn e ?_
  exact raise_fmtD hh fun h' tk e hx => ⟨e, h', tk, rfl, rfl, hx⟩

/-! ### calls whose parameters have drawn tokens -/
noncomputable abbrev Wd.up (W : Wd) : Wd := { W with tk := 1 }
theorem hold_up {fz : Heap} {s : Shared} (H : Hold W fz own s) : Hold W.up fz own s := ⟨H.base, H.has, H.obs, H.out, H.nd, H.gens, H.os⟩
theorem hold_dn {fz : Heap} {s : Shared} (H : Hold W.up fz own s) : Hold W fz own s := ⟨H.base, H.has, H.obs, H.out, H.nd, H.gens, H.os⟩
theorem do_callU {f : Addr} {args : List V} {Q : V → Own → Prop} {name qual : Str} {params : Arguments} {body : List Stmt} {scope : Scope} {dV kV doc pm cdv ct oc : Value} {an od : Option Addr} {osl : Array (Option Value)}
    (names : List Str) (hne : 1 ≤ names.length) (hna : 1 ≤ args.length) (ho : W.K.lookup f = some ⟨oc, od, .func (fnOf name qual params body scope dV kV doc pm an cdv ct), osl⟩) (hcd : codeIn W.K cdv qual = true) (hroom : A.depth < recursionLimit)
    (hb : ∀ s vs, W.K.In s.heap → vs.length = args.length → BindsTo s (fnOf name qual params body scope dV kV doc pm an cdv ct) ⟨vs, []⟩ (names.zip vs))
    (hloc : ∀ y ∈ names, scope.names.lookup y = some .local) (nd : names.Nodup)
    (h : ∀ L, SXs W.up (A.deeper (envX qual scope L f cdv [])) (envX qual scope L f cdv []) body ((L, .ns (names.zip args)) :: own) (retTo Q))
    (hco : scope.isCoroutine = false := by rfl) (hgen : scope.isGenerator = false := by rfl) (hk : scope.kind = .function := by rfl)
    (hcell : ∀ x ∈ scope.names, x.2 ≠ .cell := by decide) : SLC W A (.ref f) args own Q := fun fz s vs H ht rs => by
  have ndz : ((names.zip vs).map (·.1)).Nodup := nd.sublist zip_fst
  refine (codeAny_call_def (fd := fnOf name qual params body scope dV kV doc pm an cdv ct) (body := body) (binds := names.zip vs) hroom (H.kin _ _ ho) rfl (W.top.nolimit.keeps H.keep) (codeRec_of H.kin hcd) rfl
    (hb s vs H.kin rs.length.symm) hcell (fun x hx => hloc _ (List.of_mem_zip (show (x.1, x.2) ∈ names.zip vs from hx)).1) (fun h₁ hns hk₁ => ?_) hco hgen hk)
  obtain ⟨o, ho', hob⟩ := of_ns (fz := fz) (loc := names.zip args) hns (fun p hp => by
    obtain ⟨v, e, r⟩ := zip_lookup rs nd p hp
    exact ⟨v, by rw [lookup_reverse ndz]; exact e, r⟩)
  have H₁ : Hold W fz ((s.heap.objs.size, .ns (names.zip args)) :: own) { s with heap := h₁, toks := s.toks + (names.zip vs).length } := H.new hk₁ (get?_ge (Nat.le_refl _)) ho' hob
  have h1 : 1 ≤ s.toks + (names.zip vs).length := by rw [List.length_zip, ← rs.length]; (first | decide | exact Nat.le_trans (by assumption) (by decide) | lia | omega)
  refine wpAny_mono (h s.heap.objs.size fz _ (hold_up H₁) h1) (fun fl s' x => ?_) fun _ _ x => x.elim
  obtain ⟨fz', b, own', k, H', r, own'', wk, q⟩ := x
  refine ⟨fz', _, own'', k, hold_dn (wk.hold H'), ?_, q⟩
  cases r with
  | next => exact .dat .none
  | brk => exact .dat .none
  | cont => exact .dat .none
  | ret r => exact r

/-! ### texts with fields -/
noncomputable def SJ (W : Wd) (A : Around) (env : Env) : List Expr → List Nat → Own → (List Nat → Own → Prop) → Prop
  | [], acc, own, Q => Q acc own
  | e :: rest, acc, own, Q => SE W A env e own fun a o1 => ∃ l, a = .str (S l) ∧ acc.length + l.length ≤ 100000 ∧ SJ W A env rest (acc ++ l) o1 Q
theorem SJ.joins : ∀ {parts : List Expr} {acc : List Nat} {own : Own} {Q : List Nat → Own → Prop}, SJ W A env parts acc own Q → acc.length ≤ 100000 → ∀ {fz : Heap} {s : Shared} {P : Str → Shared → Prop}, Hold W fz own s → W.tk ≤ s.toks →
    (∀ fz' s' l o, Keep fz fz' → Hold W fz' o s' → l.length ≤ 100000 → Q l o → P (S l) s') → Joins (model W.prog W.w) A NoX (evalEach parts env) (S acc) P s
  | [], acc, own, Q, h, hz, fz, s, P, H, ht, q => q fz s acc own (.refl _) H hz h
  | e :: rest, acc, own, Q, h, hz, fz, s, P, H, ht, q => by
    show wpAny _ _ (eval e env) _ _ _
    refine wp_then (h fz s H ht) ht fun fz1 va a o1 s1 k1 H1 t1 r1 q1 => ?_
    obtain ⟨l, rfl, hz, q1⟩ := q1
    obtain ⟨t, rfl⟩ := r1.str_inv
    refine ⟨S l, t, rfl, by rw [S_cat, S_len, sizeLine_eq, List.length_append]; (first | decide | exact Nat.le_trans (by assumption) (by decide) | lia | omega), ?_⟩
    rw [S_cat]
    exact SJ.joins q1 (by rw [List.length_append]; exact hz) H1 t1 fun fz' s' l' o k' H' hl ql => q fz' s' l' o (k1.trans k') H' hl ql
theorem SE_JoinedStr {v₁ v₂ : Expr} {rest : List Expr} {pos : Pos} {Q : V → Own → Prop} (h : SJ W A env (v₁ :: v₂ :: rest) [] own fun l o => Q (.str (S l)) o) : SE W A env (.JoinedStr (v₁ :: v₂ :: rest) pos) own Q := fun fz s H ht => by
  refine wpAny_JoinedStr (h.joins (by simp) H ht fun fz' s' l o k' H' hl ql => ⟨by rw [S_len, sizeLine_eq]; (first | decide | exact Nat.le_trans (by assumption) (by decide) | lia | omega), ?_⟩)
  exact ⟨fz', _, o, k', H'.toks _, .dat (.str _ _), ql⟩
theorem SJ_cons {e : Expr} {rest : List Expr} {acc : List Nat} {Q : List Nat → Own → Prop} (h : SE W A env e own fun a o1 => ∃ l, a = .str (S l) ∧ acc.length + l.length ≤ 100000 ∧ SJ W A env rest (acc ++ l) o1 Q) : SJ W A env (e :: rest) acc own Q := h
theorem SJ_nil {acc : List Nat} {Q : List Nat → Own → Prop} (h : Q acc own) : SJ W A env [] acc own Q := h
theorem SE_FieldS {e : Expr} {pos : Pos} {Q : V → Own → Prop} (h : SE W A env e own fun a o1 => ∃ l, a = .str (S l) ∧ l.length ≤ 100000 ∧ Q (.str (S l)) o1) : SE W A env (.FormattedValue e 115 none pos) own Q := fun fz s H ht => by
  refine wpAny_FormattedValue_s (wp_then (h fz s H ht) ht fun fz1 va a o1 s1 k1 H1 t1 r1 q1 => ?_)
  obtain ⟨l, rfl, hz, q⟩ := q1
  obtain ⟨t, rfl⟩ := r1.str_inv
  have hz' : (S l).length ≤ sizeLine := by rw [S_len, sizeLine_eq]; (first | decide | exact Nat.le_trans (by assumption) (by decide) | lia | omega)
  refine wpAny_habitSame_str ?_ ?_ hz'
  · exact wpAny_formatField_str ⟨fz1, _, o1, k1, H1, .dat (.str _ _), q⟩ ⟨fz1, _, o1, k1, H1.toks _, .dat (.str _ _), q⟩ hz'
  · exact wpAny_formatField_str ⟨fz1, _, o1, k1, H1.toks _, .dat (.str _ _), q⟩ ⟨fz1, _, o1, k1, (H1.toks _).toks _, .dat (.str _ _), q⟩ hz'
end
section
variable {W : Wd} {A : Around} {env : Env} {own : Own}
/-! ### a block in two parts -/
end
section
variable {W : Wd} {A : Around} {env : Env} {own : Own}
/-! ### a def within a def -/
/-- a code object's table: empty, or the one code made so far -/
noncomputable def TabP (pos : Pos) (qual : Str) : Heap → Obj → Prop := fun fz o => o = tabObj #[] ∨ ∃ c', o = tabObj #[rawInt pos.line, rawInt pos.col, .ref c'] ∧ fz.CodeRec (.ref c') qual
/-- a made function -/
noncomputable def FnP (name qual : Str) (params : Arguments) (body : List Stmt) (scope : Scope) (clos : List (Str × Addr)) : Heap → Obj → Prop := fun fz o =>
  ∃ doc pm c' ctv, o = fnMade name qual params body scope clos doc pm c' ctv ∧ fz.CodeRec (.ref c') qual
theorem Hold.prop {fz : Heap} {s : Shared} (H : Hold W fz own s) {a : Addr} {P : Heap → Obj → Prop} (hm : (a, Ob.prop P) ∈ own) : ∃ o fz₀, s.heap.get? a = some o ∧ Keep fz₀ fz ∧ P fz₀ o :=
  let ⟨o, e, fz₀, k, p⟩ := H.get hm; ⟨o, fz₀, e, k, p⟩
theorem kp_fn {f : Addr} {name qual : Str} {params : Arguments} {body : List Stmt} {scope : Scope} {clos : List (Str × Addr)} (hm : (f, Ob.prop (FnP name qual params body scope clos)) ∈ own) : KpO W own (.ref f) := fun fz s H => by
  obtain ⟨o, fz₀, ho, k, doc, pm, c', ctv, rfl, _⟩ := H.prop hm
  exact ⟨.frame, .inl rfl, (Looks.ld (part := none) ho).andThen .now⟩

/-- what a step that made a code has left -/
theorem Hold.made {fz : Heap} {s : Shared} {own' : Own} {P c' : Addr} {ob ob' : Ob} {h' : Heap} {oP oc : Obj} {k : Nat} (H : Hold W fz own s) (u : Upd P ob ob' own own') (hx : Heap.ExtBut P s.heap h') (hge : s.heap.objs.size ≤ c')
    (hoc : h'.get? c' = some oc) (hf : oc.isFreed = false) (hP : h'.get? P = some oP) (hob : ObIs (putH fz c' oc) ob' oP) (hg : ob'.genOf = none) :
    Keep fz (putH fz c' oc) ∧ Hold W (putH fz c' oc) own' { s with heap := h', toks := k } := by
  have hn : fz.get? c' = none := base_le H.has hge
  have kk := putH_keep (o := oc) hf hn
  refine ⟨kk, ⟨H.base.trans kk, fun b o e => ?_, fun p hp => ?_, fun p hp => ?_, by rw [u.keys]; exact H.nd, H.gens.upd u hg, H.os⟩⟩
  · rw [putH_get hf] at e
    by_cases hb : b = c'
    · subst hb; rw [if_pos rfl] at e; cases e; exact hoc
    · rw [if_neg hb] at e
      exact hx b o (fun q => by have := H.out _ u.mem; rw [q] at e; exact absurd e (by rw [this]; exact fun x => nomatch x)) (H.has b o e)
  · rcases u.other' H.nd p hp with rfl | ⟨h, hne⟩
    · exact ⟨oP, hP, hob⟩
    · obtain ⟨o', e, r⟩ := H.obs p h
      exact ⟨o', hx _ _ hne e, r.mono kk⟩
  · have hlt : p.1 < s.heap.objs.size := by
      rcases u.other' H.nd p hp with rfl | ⟨h, _⟩
      · exact H.lt (p := (P, ob)) u.mem
      · exact H.lt h
    rw [putH_get hf, if_neg (Nat.ne_of_lt (Nat.lt_of_lt_of_le hlt hge))]
    rcases u.other' H.nd p hp with rfl | ⟨h, _⟩
    · exact H.out (P, ob) u.mem
    · exact H.out _ h

theorem notFreed {h : Heap} {a : Addr} {o : Obj} (ho : h.get? a = some o) : o.isFreed = false := by
  have e := ho
  rw [get?_of_objs] at e
  obtain ⟨c, d, dt, sl⟩ := o
  cases dt <;> first | rfl | (exfalso; revert e; cases hq : h.objs[a]? with
    | none => intro e; cases e
    | some x => obtain ⟨c', d', dt', sl'⟩ := x; cases dt' <;> intro e <;> cases e)

theorem make_fn {name qual : Str} {params : Arguments} {body : List Stmt} {scope : Scope} {clos : List (Str × Addr)} {c P : Addr} {pos : Pos} {firstLine : Nat} {own' : Own} {Q : V → Own → Prop}
    (hcl : closureFor scope env = pure clos) (hg : env.globals = mainGlobals) (hcode : env.code = .ref c) (hC : codeHdIn W.K c P = true) (u : Upd P (.prop (TabP pos qual)) (.prop (TabP pos qual)) own own')
    (h : ∀ f, Q (.ref f) ((f, .prop (FnP name qual params body scope clos)) :: own')) :
    SG W A RV (makeFunction name qual params (.stmts body) scope env [] [] [] pos firstLine) own Q := fun fz s H ht => by
  obtain ⟨oP, fz₀, hP, k₀, hp⟩ := H.prop u.mem
  have hgs := W.top.g.keeps H.keep
  obtain ⟨bm, ob, b1, b2, b3, b4, b5, b6⟩ := W.bm
  have b3' := H.keep _ _ b3
  have hcls : oP.cls = .none := by rcases hp with rfl | ⟨c', rfl, _⟩ <;> rfl
  have hdt : ∃ vs, oP.data = .fields vs := by rcases hp with rfl | ⟨c', rfl, _⟩ <;> exact ⟨_, rfl⟩
  have hgP : mainGlobals ≠ P := fun q => by
    obtain ⟨o, es, ep, e, hd, _⟩ := hgs
    obtain ⟨vs, hv⟩ := hdt
    rw [q, hP] at e; cases e; rw [hd] at hv; cases hv
  have hbP : bm ≠ P := fun q => by
    rw [q, hP] at b3'; cases b3'; rw [hcls] at b4; cases b4
  have hbG : bm ≠ mainGlobals := fun q => by
    obtain ⟨o, es, ep, e, hd, _⟩ := hgs
    rw [q, e] at b3'; cases b3'; rw [hd] at b6; cases b6
  have C := codeHd_of_K H.kin hC
  rcases hp with rfl | ⟨c', rfl, hrec⟩
  · refine makeFunction_K (mg := W.mg) hcl hg hgs hcode C hP trivial rfl hgP ⟨bm, ob, b1, b2, hbG, hbP, b3', b4, b5, b6⟩ fun c' ctv doc h' tk hx hge hlt hrec htb => ?_
    have hrec' := hrec
    obtain ⟨c₂, oc, vs, t, e2, hoc, hd, hv⟩ := hrec
    cases e2
    have hcr : (putH fz c' oc).CodeRec (.ref c') qual := ⟨c', oc, vs, t, rfl, putH_at (notFreed hoc), hd, hv⟩
    obtain ⟨kk, H'⟩ := H.made (k := tk) u hx hge hoc (notFreed hoc) htb ⟨_, Keep.refl _, .inr ⟨c', rfl, hcr⟩⟩ rfl
    refine ⟨_, _, _, kk, H'.new (ob := .prop (FnP name qual params body scope clos)) (k := tk) (Keep.push _ _) (get?_ge (Nat.le_refl _)) (Heap.get?_push_size _ rfl) ?_, .val _, h _⟩
    exact ⟨_, Keep.refl _, doc, _, c', ctv, rfl, hcr⟩
  · have hrec2 := hrec.keeps k₀
    refine makeFunction_hit (mg := W.mg) (cv := .ref c') hcl hg hgs hcode C hP trivial (by simp [codeAmong, rawInt]) ⟨bm, ob, b1, b2, hbG, hbP, b3', b4, b5, b6⟩ fun ctv doc h' tk hk hsz => ?_
    have H' : Hold W fz own' { s with heap := h', toks := tk } := by
      have H1 := H.grow (k := tk) hk
      refine ⟨H1.base, H1.has, fun p hp => ?_, fun p hp => ?_, by rw [u.keys]; exact H1.nd, H1.gens.upd u rfl, H1.os⟩
      · rcases u.other p hp with rfl | hp
        · exact ⟨_, hk _ _ hP, fz, Keep.refl _, .inr ⟨c', rfl, hrec2⟩⟩
        · exact H1.obs p hp
      · rcases u.other p hp with rfl | hp
        · exact H1.out _ u.mem
        · exact H1.out p hp
    refine ⟨fz, _, _, Keep.refl _, H'.new (ob := .prop (FnP name qual params body scope clos)) (k := tk) (Keep.push _ _) (get?_ge (Nat.le_refl _)) (Heap.get?_push_size _ rfl) ?_, .val _, h _⟩
    exact ⟨fz, Keep.refl _, doc, _, c', ctv, rfl, hrec2⟩

theorem Upd.self {a : Addr} {ob : Ob} : ∀ {l : Own}, (a, ob) ∈ l → Upd a ob ob l l
  | p :: l, h => by
    by_cases e : p = (a, ob)
    · subst e; exact .here
    · exact .there (Upd.self (by rcases List.mem_cons.mp h with h | h; exact absurd h.symm e; exact h))
theorem SX_Def {name qual : Str} {params : Arguments} {body : List Stmt} {scope : Scope} {pos : Pos} {Q : Fl → Own → Prop}
    (hq : qualnameIn env name name = qual) (h : SG W A RV (makeFunction name qual params (.stmts body) scope env [] [] [] pos pos.line) own fun a o1 => SS W A env name a o1 fun o2 => Q .next o2)
    (hd0 : params.defaults = [] := by rfl) (hk0 : params.kw_defaults = [] := by rfl) (ha : annTrees params none env = [] := by rfl) : SX W A env (.FunctionDef name params body [] none [] scope none name pos) own Q := fun fz s H ht => by
  subst hq
  refine nestDef_K hd0 hk0 ha (wp_then (h fz s H ht) ht fun fz1 va a o1 s1 k1 H1 t1 r1 q1 => wp_then (q1 fz1 s1 va H1 t1 r1) t1 fun fz2 _ _ o2 s2 k2 H2 t2 _ q2 => ?_)
  exact ⟨fz2, _, o2, k1.trans k2, H2, .next, q2⟩

/-- a call of a made function -/
theorem do_callN {f : Addr} {args : List V} {Q : V → Own → Prop} {name qual : Str} {params : Arguments} {body : List Stmt} {scope : Scope} {clos : List (Str × Addr)}
    (names : List Str) (hne : 1 ≤ names.length) (hna : 1 ≤ args.length) (hm : (f, Ob.prop (FnP name qual params body scope clos)) ∈ own) (hroom : A.depth < recursionLimit)
    (hb : ∀ s vs doc pm c' ctv, vs.length = args.length → BindsTo s (fnX name qual params body scope clos .none .none doc pm none (.ref c') ctv) ⟨vs, []⟩ (names.zip vs))
    (hloc : ∀ y ∈ names, scope.names.lookup y = some .local) (nd : names.Nodup)
    (h : ∀ L cdv, SXs W.up (A.deeper (envX qual scope L f cdv clos)) (envX qual scope L f cdv clos) body ((L, .ns (names.zip args)) :: own) (retTo Q))
    (hco : scope.isCoroutine = false) (hgen : scope.isGenerator = false) (hk : scope.kind = .function)
    (hcell : ∀ x ∈ scope.names, x.2 ≠ .cell) : SLC W A (.ref f) args own Q := fun fz s vs H ht rs => by
  have ndz : ((names.zip vs).map (·.1)).Nodup := nd.sublist zip_fst
  obtain ⟨o, fz₀, ho, k₀, doc, pm, c', ctv, rfl, hrec⟩ := H.prop hm
  refine (codeAny_call_def (fd := fnX name qual params body scope clos .none .none doc pm none (.ref c') ctv) (body := body) (binds := names.zip vs) hroom ho rfl (W.top.nolimit.keeps H.keep) (hrec.keeps (k₀.trans H.has)) rfl
    (hb s vs doc pm c' ctv rs.length.symm) hcell (fun x hx => hloc _ (List.of_mem_zip (show (x.1, x.2) ∈ names.zip vs from hx)).1) (fun h₁ hns hk₁ => ?_) hco hgen hk)
  obtain ⟨o, ho', hob⟩ := of_ns (fz := fz) (loc := names.zip args) hns (fun p hp => by
    obtain ⟨v, e, r⟩ := zip_lookup rs nd p hp
    exact ⟨v, by rw [lookup_reverse ndz]; exact e, r⟩)
  have H₁ : Hold W fz ((s.heap.objs.size, .ns (names.zip args)) :: own) { s with heap := h₁, toks := s.toks + (names.zip vs).length } := H.new hk₁ (get?_ge (Nat.le_refl _)) ho' hob
  have h1 : 1 ≤ s.toks + (names.zip vs).length := by rw [List.length_zip, ← rs.length]; (first | decide | exact Nat.le_trans (by assumption) (by decide) | lia | omega)
  refine wpAny_mono (h s.heap.objs.size _ fz _ (hold_up H₁) h1) (fun fl s' x => ?_) fun _ _ x => x.elim
  obtain ⟨fz', b, own', k, H', r, own'', wk, q⟩ := x
  refine ⟨fz', _, own'', k, hold_dn (wk.hold H'), ?_, q⟩
  cases r with
  | next => exact .dat .none
  | brk => exact .dat .none
  | cont => exact .dat .none
  | ret r => exact r
end
section
variable {W : Wd} {A : Around} {env : Env} {own : Own}
/-! ### tabs to blanks -/
noncomputable def expandL (n : Nat) : Nat → List Nat → List Nat
  | _, [] => []
  | col, c :: l => if c = 9 then List.replicate (if 0 < n then n - col % n else 0) 32 ++ expandL n (col + (if 0 < n then n - col % n else 0)) l
    else c :: expandL n (if c = 10 ∨ c = 13 then 0 else col + 1) l
theorem slot_expandtabs : Slot "str" "expandtabs" "str.expandtabs" :=
  .of (owner := "str") (n := "expandtabs") (by rw [typeLookup_type, builtinLookup_eq_fast]; kernel_rfl) (by decide +kernel) (by decide +kernel) (by decide +kernel)
    (by first | exact .inl (by decide +kernel) | exact .inr (by decide +kernel)) (by rw [isSubtype_type]; kernel_rfl)
theorem type_expandtabs : typeOf (.builtin "str.expandtabs") = pure (.type "method_descriptor") := by show builtinType _ = _; rw [builtinType_eq_fast]; kernel_rfl
theorem entry_expandtabs : entryFor table "str.expandtabs" = some Builtin.«str.expandtabs» := entryFor_of_tree (by kernel_rfl)
theorem args_expandtabs (a b : Value) : argsOk "str.expandtabs" ⟨[a, b], []⟩ := by
  unfold argsOk; rw [signature?_of (id := "str.expandtabs") (n := ['s', 'b', 'a', 't', 'd', 'n', 'a', 'p', 'x', 'e']) (o := ['r', 't', 's']) (by kernel_rfl) F.owner_str]; kernel_rfl
noncomputable def expStep (n : Int) (c : Nat) (r : Array Nat × Nat) : Sem (ForInStep (Array Nat × Nat)) :=
  if (c == 9) = true then
    if Builtin.Str.tooLong (r.1.size + if n > 0 then n.toNat - r.2 % n.toNat else 0) = true then do
      unsupported "str.expandtabs:memory"
      pure (ForInStep.yield (r.1 ++ Array.replicate (if n > 0 then n.toNat - r.2 % n.toNat else 0) 32, r.2 + if n > 0 then n.toNat - r.2 % n.toNat else 0))
    else pure (ForInStep.yield (r.1 ++ Array.replicate (if n > 0 then n.toNat - r.2 % n.toNat else 0) 32, r.2 + if n > 0 then n.toNat - r.2 % n.toNat else 0))
  else pure (ForInStep.yield (r.1.push c, if (c == 10 || c == 13) = true then 0 else r.2 + 1))
theorem exp_loop (n : Int) : ∀ (l : List Nat) (out : Array Nat) (col : Nat), out.size + (expandL n.toNat col l).length ≤ sizeLine → ∃ e, forIn l (out, col) (expStep n) = pure (out ++ (expandL n.toNat col l).toArray, e)
  | [], out, col, _ => ⟨col, by simp [expandL]⟩
  | c :: l, out, col, hz => by
    rw [List.forIn_cons]
    rw [expandL] at hz ⊢
    have hn : (if n > 0 then n.toNat - col % n.toNat else 0) = (if 0 < n.toNat then n.toNat - col % n.toNat else 0) := by
      by_cases h : n > 0
      · rw [if_pos h, if_pos (by (first | decide | exact Nat.le_trans (by assumption) (by decide) | lia | omega))]
      · rw [if_neg h, if_neg (by (first | decide | exact Nat.le_trans (by assumption) (by decide) | lia | omega))]
    by_cases h9 : c = 9
    · rw [if_pos h9] at hz ⊢
      simp only [List.length_append, List.length_replicate] at hz
      have e1 : expStep n c (out, col) = pure (ForInStep.yield (out ++ Array.replicate (if 0 < n.toNat then n.toNat - col % n.toNat else 0) 32, col + if 0 < n.toNat then n.toNat - col % n.toNat else 0)) := by
        unfold expStep
        rw [if_pos (by simp [h9])]
        simp only [hn]
        rw [if_neg]
        unfold Builtin.Str.tooLong
        simp only [decide_eq_true_eq, Nat.not_lt]
        (first | decide | exact Nat.le_trans (by assumption) (by decide) | lia | omega)
      rw [e1, pure_bind]
      obtain ⟨e, he⟩ := exp_loop n l (out ++ Array.replicate (if 0 < n.toNat then n.toNat - col % n.toNat else 0) 32) (col + if 0 < n.toNat then n.toNat - col % n.toNat else 0) (by simp only [Array.size_append, Array.size_replicate]; (first | decide | exact Nat.le_trans (by assumption) (by decide) | lia | omega))
      refine ⟨e, he.trans ?_⟩
      congr 2
      rw [Array.append_assoc]
      congr 1
      rw [← List.toArray_replicate, List.append_toArray]
    · rw [if_neg h9] at hz ⊢
      have e1 : expStep n c (out, col) = pure (ForInStep.yield (out.push c, if c = 10 ∨ c = 13 then 0 else col + 1)) := by
        unfold expStep
        rw [if_neg (by simp [h9])]
        congr 3
        simp
      rw [e1, pure_bind]
      obtain ⟨e, he⟩ := exp_loop n l (out.push c) (if c = 10 ∨ c = 13 then 0 else col + 1) (by simp only [Array.size_push]; simp only [List.length_cons] at hz; (first | decide | exact Nat.le_trans (by assumption) (by decide) | lia | omega))
      refine ⟨e, he.trans ?_⟩
      congr 2
      simp
theorem expand_eq (x : Str) (n : Int) (t u : Tok) (h1 : -(2 ^ 31 : Int) ≤ n) (h2 : n < 2 ^ 31) (h9 : x.cps.contains 9 = true) (hz : (expandL n.toNat 0 x.cps.toList).length ≤ sizeLine) :
    Builtin.«str.expandtabs» ⟨[.str x t, .int n u], []⟩ = retStr ⟨(expandL n.toNat 0 x.cps.toList).toArray⟩ := by
  have c1 : (decide (n < -(2 ^ 31 : Int)) || decide (n ≥ 2 ^ 31)) = false := by
    rw [Bool.or_eq_false_iff]; exact ⟨decide_eq_false (by (first | decide | exact Nat.le_trans (by assumption) (by decide) | lia | omega)), decide_eq_false (by (first | decide | exact Nat.le_trans (by assumption) (by decide) | lia | omega))⟩
  obtain ⟨e, he⟩ := exp_loop n x.cps.toList #[] 0 (by simpa using hz)
  have hb : Builtin.Str.bindOptional "str.expandtabs" "expandtabs" 0 ["tabsize"] [Value.int n u] [] = pure [some (.int n u)] := by rfl
  have hs : Builtin.Str.strSelf ⟨[.str x t, .int n u], []⟩ = pure (.str x t, x, [.int n u]) := by rfl
  unfold Builtin.«str.expandtabs»
  rw [hs, pure_bind]
  dsimp only
  rw [hb, pure_bind]
  have ea : asIndex (.int n u) = pure n := by rfl
  simp only [ea, pure_bind, c1, Bool.false_eq_true, if_false, h9, Bool.not_true]
  show (forIn x.cps (#[], 0) (expStep n) >>= fun r => retStr ⟨r.1⟩) = _
  rw [← Array.forIn_toList, he, pure_bind]
  simp
theorem expand_same : ∀ (l : List Nat) (n col : Nat), 9 ∉ l → expandL n col l = l
  | [], _, _, _ => rfl
  | c :: l, n, col, h => by
    have hc : c ≠ 9 := fun e => h (by rw [e]; exact List.mem_cons_self)
    rw [expandL, if_neg hc, expand_same l n _ fun h' => h (List.mem_cons_of_mem _ h')]
theorem gives_expand (x : Str) (n : Int) (t u : Tok) (h1 : -(2 ^ 31 : Int) ≤ n) (h2 : n < 2 ^ 31) (hz : (expandL n.toNat 0 x.cps.toList).length ≤ sizeLine) :
    Gives (Builtin.«str.expandtabs» ⟨[.str x t, .int n u], []⟩) (if x.cps.contains 9 = false then .val (.str x t) else .str ⟨(expandL n.toNat 0 x.cps.toList).toArray⟩) := by
  cases h9 : x.cps.contains 9 with
  | true =>
    rw [expand_eq x n t u h1 h2 h9 hz]
    exact .of_eq rfl
  | false =>
    have c1 : (decide (n < -(2 ^ 31 : Int)) || decide (n ≥ 2 ^ 31)) = false := by
      rw [Bool.or_eq_false_iff]; exact ⟨decide_eq_false (by (first | decide | exact Nat.le_trans (by assumption) (by decide) | lia | omega)), decide_eq_false (by (first | decide | exact Nat.le_trans (by assumption) (by decide) | lia | omega))⟩
    have hb : Builtin.Str.bindOptional "str.expandtabs" "expandtabs" 0 ["tabsize"] [Value.int n u] [] = pure [some (.int n u)] := by rfl
    have hs : Builtin.Str.strSelf ⟨[.str x t, .int n u], []⟩ = pure (.str x t, x, [.int n u]) := by rfl
    unfold Builtin.«str.expandtabs»
    rw [hs, pure_bind]
    dsimp only
    rw [hb, pure_bind]
    have ea : asIndex (.int n u) = pure n := by rfl
    simp only [ea, pure_bind, c1, Bool.false_eq_true, if_false, h9, Bool.not_false, if_true]
    exact .rule (.of_eq rfl)
theorem call_expand {l : List Nat} {n : Int} {Q : V → Own → Prop} (h1 : -(2 ^ 31 : Int) ≤ n) (h2 : n < 2 ^ 31) (hz : (expandL n.toNat 0 l).length ≤ sizeLine) (h : Q (.str (S (expandL n.toNat 0 l))) own) :
    SL W A RV (fun vs => call (.builtin "str.expandtabs") vs) [.str (S l), .int n] own Q := fun fz s vs H ht r => by
  obtain ⟨v1, v2, rfl, r1, r2⟩ : ∃ v1 v2, vs = [v1, v2] ∧ RV fz (.str (S l)) v1 ∧ RV fz (.int n) v2 := by
    cases r with | cons r1 r => cases r with | cons r2 r => cases r; exact ⟨_, _, rfl, r1, r2⟩
  obtain ⟨t, rfl⟩ := r1.str_inv
  obtain ⟨u, rfl⟩ := r2.int_inv
  have e0 : (S l).cps.toList = l := by unfold S; simp
  refine call_gives slot_expandtabs (typeIs_str _ _ _) entry_expandtabs (args_expandtabs _ _) (gives_expand (S l) n t u h1 h2 (by rw [e0]; exact hz)) (post_val_or_made (fun _ => ?_) fun t' k => ?_)
  · show (expandL n.toNat 0 (S l).cps.toList).toArray.size ≤ _
    rw [e0]; simpa using hz
  · have : (if (S l).cps.contains 9 = false then S l else ⟨(expandL n.toNat 0 (S l).cps.toList).toArray⟩) = S (expandL n.toNat 0 l) := by
      rw [e0]
      cases h9 : (S l).cps.contains 9 with
      | true => rfl
      | false =>
        rw [if_pos rfl, expand_same]
        intro hm
        have : (S l).cps.contains 9 = true := by unfold S; simpa using hm
        rw [h9] at this; cases this
    rw [this]
    exact at_tok H _ (.dat (.str _ _)) h
theorem gm_expand {M : Model} {E : Value → Shared → Prop} {s : Shared} {x : Str} {t : Tok} {pl : Sem Bool} {Q : Value × List Value → Shared → Prop} (h : Q (.builtin "str.expandtabs", [.str x t]) s) : wpAny M A (getMethod (.str x t) "expandtabs" pl) Q E s := by
  with_reducible exact GM.of (.str x t) (typeIs_str _ _ _) slot_expandtabs type_expandtabs GM.noRef h
end
section
variable {W : Wd} {A : Around} {env : Env} {own : Own}
/-! ### a sign in a text, a text's end struck off, a text repeated, a list copied -/
theorem contains_S (l : List Nat) (c : Nat) : Txt.contains (S l) (S [c]) = decide (c ∈ l) := by
  have h := PySem.StrLaws.found_one (S l) c
  have e : (S l).cps.toList = l := by unfold S; simp
  rw [e] at h
  exact h
theorem cmp_inC {l : List Nat} {c : Nat} {Q : V → Own → Prop} (h : Q (.bool (decide (c ∈ l))) own) : S2 W A RV (compareOp .In) (.str (S [c])) (.str (S l)) own Q := cmp_inS (by rw [contains_S]; exact h)
theorem call_rstripC {l y : List Nat} {Q : V → Own → Prop} (hz : l.length ≤ sizeLine) (h : Q (.str (S (rstripL (fun c => y.contains c) l))) own) : SL W A RV (fun vs => call (.builtin "str.rstrip") vs) [.str (S l), .str (S y)] own Q := SL2 fun fz s v u H ht r1 r2 => by
  obtain ⟨t, rfl⟩ := r1.str_inv
  obtain ⟨t', rfl⟩ := r2.str_inv
  refine SC.rstripChars (fun t' k => ?_) (by rw [S_len]; exact hz)
  have e : Txt.rstripChars (S l) (S y) = S (rstripL (fun c => y.contains c) l) := by
    unfold Txt.rstripChars
    rw [rstrip_S]
    congr 2
    funext c
    unfold S; simp
  rw [e]
  exact at_tok H _ (.dat (.str _ _)) h
theorem call_listL {l : List PyData} {Q : V → Own → Prop} (hz : l.length ≤ sizeLine) (h : Q (.lst l) own) : SL W A RV (fun vs => call (.type "list") vs) [.lst l] own Q := SL1 fun fz s v H ht r => by
  obtain ⟨a, vs, rfl, hl, rs⟩ := r.lst_inv
  have hlen := rs.length
  rw [List.length_map] at hlen
  have hsz : vs.toList.length = vs.size := Array.length_toList
  obtain ⟨o, ho, hc, n, hd⟩ := IsList_keep hl H.has
  refine call_list_seq (hsz := by (first | decide | exact Nat.le_trans (by assumption) (by decide) | lia | omega)) a (.inl rfl) ho hc hd fun h' c' hk hD => ?_
  obtain ⟨kk, H'⟩ := H.frz (k := s.toks) (h' := h') (o := listObj vs.toList c') rfl hk (get?_ge (Nat.le_refl _)) (by rw [hD]; simp [listObj])
  exact ⟨_, _, own, kk, H', rv_list (putH_at rfl) (rs.mono kk), h⟩
/-! ### short forms for the macros -/
end
section
/-! ### a generator's code up to its next yield -/
section
variable {M : Model} {A : Around} {Φ : End → Shared → Prop} {c : Code} {fs : List Frame} {s : Shared}
/-- run on, it comes to an end as told: a yield or a return -/
noncomputable def Sg (M : Model) (A : Around) (Φ : End → Shared → Prop) (c : Code) (t : Sem Fin) (fs : List Frame) (s : Shared) : Prop :=
  ∀ Γ p, Γ.code = c → Γ.Woken A → ∃ e s', Runs M Γ p t fs s e s' ∧ Φ e s'
end
variable {W : Wd} {A : Around} {env : Env} {own : Own} {Φ : End → Shared → Prop} {fz₀ : Heap} {c : Code} {fs : List Frame}
/-- the same, over the layer's states -/
noncomputable def Gk (W : Wd) (A : Around) (Φ : End → Shared → Prop) (fz₀ : Heap) (c : Code) (fs : List Frame) (t : Sem Fin) (own : Own) : Prop :=
  ∀ fz s, Keep fz₀ fz → Hold W fz own s → W.tk ≤ s.toks → Sg (model W.prog W.w) A Φ c t fs s
theorem Gk.perm {t : Sem Fin} {own' : Own} (k : own.Perm own') (h : Gk W A Φ fz₀ c fs t own') : Gk W A Φ fz₀ c fs t own := fun fz s k0 H ht => h fz s k0 (H.perm k) ht
theorem Gk.wk {t : Sem Fin} {own' : Own} (k : Wk own own') (h : Gk W A Φ fz₀ c fs t own') : Gk W A Φ fz₀ c fs t own := fun fz s k0 H ht => h fz s k0 (k.hold H) ht
section
variable {K : Flow → Sem Fin} {H : Value → Sem Fin} {gd : Bool → Bool} {lv : List Value → List Value}
end
end
section
variable {W : Wd} {A : Around} {env : Env} {own : Own}
/-! ### a list's iterator that many read -/
/-! ### generators -/
end
section
variable {W : Wd} {A : Around} {env : Env} {own : Own} {Φ : End → Shared → Prop} {fz₀ : Heap} {fs : List Frame}
/-! ### a generator's for over a shared iterator -/
end
section
variable {W : Wd} {A : Around} {env : Env} {own : Own}
/-! ### is None -/
/-! ### the first of a list taken out -/
theorem mth_pop {D : Addr} {l : List V} {pl : Sem Bool} {Q : Value × List V → Own → Prop} (hm : (D, Ob.list l) ∈ own) (h : Q (.builtin "list.pop", [.ref D]) own) : SMth W A (Str.ofString "pop") pl (.ref D) own Q := mth_list hm PySem.F.slot_list_pop PySem.F.type_list_pop h
/-! ### unpacking -/
/-- stores in the names' order reversed -/
noncomputable def SSs (W : Wd) (A : Around) (env : Env) : List Str → List V → Own → (Own → Prop) → Prop
  | [], [], own, Q => Q own
  | x :: xs, a :: as, own, Q => SS W A env x a own fun o1 => SSs W A env xs as o1 Q
  | _, _, _, _ => False
theorem SSs_cons {x : Str} {xs : List Str} {a : V} {as : List V} {Q : Own → Prop} (h : SS W A env x a own fun o1 => SSs W A env xs as o1 Q) : SSs W A env (x :: xs) (a :: as) own Q := h
theorem SSs_nil {Q : Own → Prop} (h : Q own) : SSs W A env [] [] own Q := h
theorem SSs.run : ∀ {xs : List Str} {l : List V} {own : Own} {Q : Own → Prop}, SSs W A env xs l own Q → SL W A RU (fun vs => assignInOrder (xs.map fun n => bindName env n) vs) l own fun _ => Q
  | [], [], own, Q, h => fun fz s vs H ht r => by cases r; exact wpAny_pure ⟨fz, (), own, .refl _, H, trivial, h⟩
  | x :: xs, a :: as, own, Q, h => fun fz s vs H ht r => by
    cases r with
    | cons r rs =>
    show wpAny _ _ (holding _ (bindName env x _) >>= fun _ => assignInOrder (xs.map fun n => bindName env n) _) _ _ _
    refine wpAny_bind (wpAny_holding (wpAny_bindName (wp_then (h fz s _ H ht r) ht fun fz1 _ _ o1 s1 k1 H1 t1 _ q1 => ?_)))
    exact (SSs.run q1 fz1 s1 _ H1 t1 (rs.mono k1)).weak k1
  | [], _ :: _, _, _, h => h.elim
  | _ :: _, [], _, _, h => h.elim
theorem rvs_reverse {fz : Heap} {l : List V} {vs : List Value} (r : RVs fz l vs) : RVs fz l.reverse vs.reverse := by
  induction r with
  | nil => exact .nil
  | cons h _ ih => rw [List.reverse_cons, List.reverse_cons]; exact ih.append (.cons h .nil)
theorem SX_AssignSw {elts : List Expr} {k : Nat} {tpos pos : Pos} {value : Expr} {names : List Str} {Q : Fl → Own → Prop} (hh : A.handled = none)
    (hw : swappedStores [.Tuple elts k tpos] value env = pure (some names))
    (h : SE W A env value own fun a o1 => ∃ t l, a = .ref t ∧ (t, Ob.tup l) ∈ o1 ∧ l.length = names.length ∧ SSs W A env names.reverse l.reverse o1 fun o2 => Q .next o2)
    (hs : swapsWithSole [.Tuple elts k tpos] value pos.line env = pure false := by rfl) : SX W A env (.Assign [.Tuple elts k tpos] value pos) own Q := fun fz s H ht => by
  refine Assign_Tuple_swapped (names := names) (wp_then (h fz s H ht) ht fun fz1 va a o1 s1 k1 H1 t1 r1 q1 => ?_) hs hw
  obtain ⟨t, l, rfl, hm, hl, q⟩ := q1
  cases r1.val_inv
  obtain ⟨o, ho, vs, n, rfl, rs⟩ := H1.get hm
  have hlen := rs.length
  have hn : names.length = vs.toArray.size := by simp only [List.size_toArray]; (first | decide | exact Nat.le_trans (by assumption) (by decide) | lia | omega)
  rw [hn]
  refine wpAny_unpackItems_tuple hh (t := t) (items := vs.toArray) ⟨_, ho, rfl, n, rfl⟩ fun h' he => ?_
  have H2 := H1.grow (k := s1.toks) (h' := h') fun b o e => he b o (Nat.ne_of_lt (Heap.lt_size e)) e
  refine wp_then (SSs.run q fz1 _ _ H2 t1 (rvs_reverse (by simpa using rs))) t1 fun fz3 _ _ o3 s3 k3 H3 t3 _ q3 => ?_
  exact ⟨fz3, _, o3, k1.trans k3, H3, .next, q3⟩
/-! ### next, asked of an iterator or a generator, with a default -/
end
section
variable {W : Wd} {A : Around} {env : Env} {own : Own}
/-! ### range with a step, max of two -/
/-! ### a list unpacked -/
/-! ### an item of a list of one's own is set -/
theorem set_listObj (vs : List Value) (n j : Nat) (v : Value) : ∃ n', Obj.mapSeq (·.setIfInBounds j v) (listObj vs n) = listObj (vs.set j v) n' := by
  refine ⟨if (vs.toArray.setIfInBounds j v).size == vs.toArray.size then n else n + 1, ?_⟩
  have e : Obj.mapSeq (·.setIfInBounds j v) (listObj vs n) = { cls := .type "list", data := .seq (vs.toArray.setIfInBounds j v) (if (vs.toArray.setIfInBounds j v).size == vs.toArray.size then n else n + 1) } := rfl
  rw [e]
  unfold listObj
  congr 2
  simp
theorem set_own {D : Addr} {l : List V} {k : Int} {x : V} {own' : Own} {Q : Own → Prop} (h0 : 0 ≤ k) (hk : k < (l.length : Int)) (hz : l.length ≤ sizeLine) (u : Upd D (.list l) (.list (l.set k.toNat x)) own own') (h : Q own') :
    S2 W A RU (fun i v => setItem (.ref D) i v) (.int k) x own (fun _ => Q) := fun fz s iv v H ht r1 r2 => by
  obtain ⟨t, rfl⟩ := r1.int_inv
  obtain ⟨ob, ho, vs, n, rfl, rs⟩ := H.get u.mem
  have hlen := rs.length
  rw [sizeLine_eq] at hz
  have hl : s.heap.IsList D vs.toArray := ⟨_, ho, rfl, n, rfl⟩
  have hfit : k < 2 ^ 63 := by (first | decide | exact Nat.le_trans (by assumption) (by decide) | lia | omega)
  have hd : (listObj vs n).data = .seq vs.toArray n := rfl
  unfold At setItem
  try with_reducible refine wpAny_holding ?_
  first | refine wpAny_bind (wpAny_pure ?_) | skip
  refine wpAny_bind (wpAny_sequenceKey hl.typeIs (by decide) ?_)
  refine wpAny_bind (wpAny_callSpecial?_slot (name := Str.ofString "__setitem__") hl.typeIs slot_list_setitem
    (wpAny_call_entry slot_list_setitem hl.typeIs entry_list_setitem ?_ (args_list_setitem _ _ _)))
  show wpAny _ _ (Builtin.List.listSubscript? (.int k t) >>= _) _ _ s
  refine wpAny_bind (wpAny_listSubscript_int (fitsIndex_of h0 hfit) ?_)
  clear hfit
  obtain ⟨j, rfl⟩ := Int.eq_ofNat_of_zero_le h0
  have hj : j < vs.toArray.size := by simp only [List.size_toArray]; (first | decide | exact Nat.le_trans (by assumption) (by decide) | lia | omega)
  have hx' : vs.toArray[j]? = some vs.toArray[j] := Array.getElem?_eq_getElem hj
  show wpAny _ _ ((seqItemAt D j >>= fun r => pure (r.map (j, ·))) >>= _) _ _ s
  refine wpAny_bind (wpAny_bind (wpAny_seqItemAt ho hd (wpAny_pure ?_)))
  rw [hx']
  show wpAny _ _ (setSeqItemAt D j v >>= _) _ _ s
  obtain ⟨n', e⟩ := set_listObj vs n j v
  have hfin := Heap.get?_update_self (Obj.mapSeq (·.setIfInBounds j v)) ho (by rw [e]; rfl)
  rw [e] at hfin
  have rset : RVs fz (l.set j x) (vs.set j v) := by
    have key : ∀ {l : List V} {vs : List Value}, RVs fz l vs → ∀ j : Nat, RVs fz (l.set j x) (vs.set j v) := by
      intro l vs rs
      induction rs with
      | nil => intro j; exact .nil
      | cons h t ih => intro j; cases j with
        | zero => exact .cons r2 t
        | succ j => exact .cons h (ih j)
    exact key rs j
  have fin : Post W RU (fun _ => Q) fz () { s with heap := s.heap.update D (Obj.mapSeq (·.setIfInBounds j v)) } :=
    ⟨fz, (), own', .refl _, H.set (k := s.toks) u (Heap.SameBut.update ..) hfin ⟨_, _, rfl, by simpa using rset⟩, trivial, h⟩
  refine wpAny_bind (wpAny_setSeqItemAt ho hd ?_)
  first
    | exact wpAny_bind (wpAny_pure (wpAny_pure ⟨.none, rfl, wpAny_pure fin⟩))
    | exact wpAny_pure ⟨.none, rfl, wpAny_pure fin⟩
theorem SX_AssignSub {o i value : Expr} {pos' pos : Pos} {Q : Fl → Own → Prop}
    (h : SE W A env value own fun x o1 => SE W A env o o1 fun a o2 => SE W A env i o2 fun b o3 => ∃ D, a = .ref D ∧ S2 W A RU (fun i v => setItem (.ref D) i v) b x o3 fun _ o4 => Q .next o4)
    (hs : swapsWith value (some (.Subscript o i pos')) pos.line env = pure false := by rfl) : SX W A env (.Assign [.Subscript o i pos'] value pos) own Q := fun fz s H ht => by
  refine wpAny_Assign_Subscript (wp_then (h fz s H ht) ht fun fz1 va a o1 s1 k1 H1 t1 r1 q1 => wp_then (q1 fz1 s1 H1 t1) t1 fun fz2 vb b o2 s2 k2 H2 t2 r2 q2 => wp_then (q2 fz2 s2 H2 t2) t2 fun fz3 vc c o3 s3 k3 H3 t3 r3 q3 => ?_) hs
  obtain ⟨D, rfl, q3⟩ := q3
  cases r2.val_inv
  refine wp_then (q3 fz3 s3 vc va H3 t3 r3 (r1.mono (k2.trans k3))) t3 fun fz4 _ _ o4 s4 k4 H4 t4 _ q4 => ?_
  exact ⟨fz4, _, o4, k1.trans (k2.trans (k3.trans k4)), H4, .next, q4⟩
/-! ### a list of one's own compared -/
/-! ### a list repeated, to be turned later -/
theorem op_mulLO {a : List PyData} {x : Int} {Q : V → Own → Prop} (hlo : -(2 ^ 63 : Int) ≤ x) (hhi : x < 2 ^ 63) (hz : a.length * x.toNat ≤ 2 ^ 24) (h : ∀ D, Q (.ref D) ((D, .list (((List.replicate x.toNat a).flatten).map V.dat)) :: own)) : S2 W A RV (binaryOp .Mult) (.lst a) (.int x) own Q := fun fz s v u' H ht r1 r2 => by
  obtain ⟨l, vs, rfl, hl, rs⟩ := r1.lst_inv
  obtain ⟨u, rfl⟩ := r2.int_inv
  have h1 := rs.length
  rw [List.length_map] at h1
  have q1 : vs.toList.length = vs.size := Array.length_toList
  obtain ⟨⟨cls, d, data, sl⟩, ho, hcl, k, hd⟩ := IsList_keep hl H.has
  simp only at hcl hd
  subst hcl hd
  have hsz' : vs.size * x.toNat ≤ 2 ^ 24 := by rw [← q1, ← h1]; exact hz
  refine wpAny_binaryOp_repeat_ref (T := "list") (U := "int") (by decide) ⟨_, ho, rfl⟩ (fun s' => typeIs_int s' x u) noFill_list_mul F.fills_int_mul F.slot_int_rmul repeat_list F.slot_int_index.lookup
    (call_meets F.slot_int_rmul (typeIs_int s x u) F.entry_int_rmul (F.args_int_rmul_2 _ _) (lm_int_rmul_list_any x u l vs k d sl)
      ⟨ho, rfl, ⟨_, ho, rfl⟩, call_meets F.slot_list_mul ⟨_, ho, rfl⟩ F.entry_list_mul (F.args_list_mul_2 _ _)
        (lm_list_mul_any l vs k d sl x u (by simp [Builtin.List.listFitsIndex]; (first | decide | exact Nat.le_trans (by assumption) (by decide) | lia | omega)) (by (first | decide | exact Nat.le_trans (by assumption) (by decide) | lia | omega)) (by simp [Builtin.List.listTooLong, sizeLine]; (first | decide | exact Nat.le_trans (by assumption) (by decide) | lia | omega)))
        ⟨ho, ?_⟩⟩)
  have e : vs = vs.toList.toArray := by simp
  rw [e, listMul_foldl_if]
  have rr : RVs fz (((List.replicate x.toNat a).flatten).map V.dat) (List.replicate x.toNat vs.toList).flatten := by
    have := rvs_rep rs x.toNat
    have e2 : ((List.replicate x.toNat a).flatten).map V.dat = (List.replicate x.toNat (a.map V.dat)).flatten := by rw [List.map_flatten, List.map_replicate]
    rw [e2]; exact this
  exact ⟨fz, _, _, .refl _, H.new (ob := .list (((List.replicate x.toNat a).flatten).map V.dat)) (k := s.toks) (Keep.push _ _) (get?_ge (Nat.le_refl _)) (Heap.get?_push_size _ rfl) ⟨_, _, rfl, rr⟩, .val _, h _⟩
end
section
variable {W : Wd} {A : Around} {env : Env} {own : Own}
/-! ### an iterator over a list of one's own -/
/-! ### a comprehension, turn by turn, whose items may be made things -/
/-- a clause's loop, its iterator any -/
noncomputable def CLX (W : Wd) (A : Around) (e : Expr) (d : Nat) (D : Addr) (cenv : Env) (it : Addr) (ob : Ob) (own : Own) (Q : Own → Prop) : Prop :=
  ∀ fz s, Hold W fz ((it, ob) :: own) s → W.tk ≤ s.toks → codeAny (model W.prog W.w) A (.compLoop e d (.ref it) (.ref D) cenv)
    (fun r s' => match r with | .ok _ => ∃ fz' own', Keep fz fz' ∧ Hold W fz' own' s' ∧ W.tk ≤ s'.toks ∧ Q own' | .error _ => False) s
theorem CLX.wk {e : Expr} {d : Nat} {D : Addr} {cenv : Env} {it : Addr} {ob : Ob} {own' : Own} {Q : Own → Prop} (k : Wk own own') (h : CLX W A e d D cenv it ob own' Q) : CLX W A e d D cenv it ob own Q :=
  fun fz s H ht => h fz s ((Wk.keep .refl k).hold H) ht
theorem let_goT {prog : Program} {w : World} {E : Value → Shared → Prop} {s : Shared} {o : Obj} {it : Addr} {n : String} {v : Value} {target : Expr} {Q : Unit → Shared → Prop} (ho : s.heap.get? it = some o) (hc : o.cls = .type n)
    (hn : ["enumerate", "zip", "dict_itemiterator", "dict_reverseitemiterator", "odict_iterator", "itertools.zip_longest", "itertools.pairwise"].contains n = false) (h : Q () s) :
    wpAny (model prog w) A (letOwnedTupleGo target (.ref it) v) Q E s := by
  unfold letOwnedTupleGo
  have key : wpAny (model prog w) A (do
      let (.ref r, .ref a) := ((Value.ref it), v) | return
      let o ← load r
      match o.cls, o.data with
      | .type n, .fields vs =>
        if ["enumerate", "zip", "dict_itemiterator", "dict_reverseitemiterator", "odict_iterator", "itertools.zip_longest", "itertools.pairwise"].contains n && vs[0]? == some (rawInt a) then
          rule "for.unpacks-the-owned-tuple"
          updateField r 0 .none
      | _, _ => pure ()) Q E s := by
    cases v with
    | ref a =>
      show wpAny _ _ (load it >>= _) _ _ _
      refine wpAny_bind (wpAny_load ho ?_)
      obtain ⟨c, d, dt, sl⟩ := o
      cases hc
      cases dt <;> first
        | exact wpAny_pure h
        | (dsimp only; rw [hn, Bool.false_and, if_neg Bool.false_ne_true]; exact wpAny_pure h)
    | _ => exact wpAny_pure h
  cases target <;> first | exact key | exact wpAny_pure h
/-- what the iterator gives next, and what is left -/
noncomputable def Steps (W : Wd) (A : Around) (it : Addr) (ob : Ob) (own : Own) (x : V) (ob' : Ob) : Prop := ∀ fz s, Hold W fz ((it, ob) :: own) s → ∀ P : Option Value → Shared → Prop,
  (∀ v s' o, Hold W fz ((it, ob') :: own) s' → s.toks ≤ s'.toks → RV fz x v → s'.heap.get? it = some o → (∃ n, o.cls = .type n ∧ ["enumerate", "zip", "dict_itemiterator", "dict_reverseitemiterator", "odict_iterator", "itertools.zip_longest", "itertools.pairwise"].contains n = false) → P (some v) s') → wpAny (model W.prog W.w) A (pyNext (.ref it)) P NoX s
noncomputable def Stops (W : Wd) (A : Around) (it : Addr) (ob : Ob) (own : Own) : Prop := ∀ fz s, Hold W fz ((it, ob) :: own) s → ∀ P : Option Value → Shared → Prop, (∀ s', Hold W fz own s' → s.toks ≤ s'.toks → P none s') → wpAny (model W.prog W.w) A (pyNext (.ref it)) P NoX s
theorem steps_it {it : Addr} {x : V} {l : List V} : Steps W A it (.it (x :: l)) own x (.it l) := fun fz s H P q => next_some H .here fun v s' H' t' rx => by
  obtain ⟨o, ho, hob⟩ := H'.get List.mem_cons_self
  exact q v s' o H' t' rx ho (it_cls hob)
theorem stops_it {it : Addr} (hh : A.handled = none) : Stops W A it (.it []) own := fun fz s H P q => next_none hh H q
theorem CLX_step {elt target iter : Expr} {scope : Scope} {pos : Pos} {D : Addr} {cenv : Env} {it : Addr} {ob ob' : Ob} {x : V} {Q : Own → Prop} (hst : Steps W A it ob own x ob')
    (turn : SA W A cenv target x ((it, ob') :: own) fun o1 => SE W A cenv elt o1 fun a o2 => ∃ o2' ys o3 o', Wk o2 o2' ∧ Upd D (.list ys) (.list (ys ++ [a])) o2' o3 ∧ ys.length ≤ sizeLine ∧ o3.Perm ((it, ob') :: o') ∧ CLX W A (.ListComp elt [⟨target, iter, [], 0⟩] scope pos) 0 D cenv it ob' o' Q) :
    CLX W A (.ListComp elt [⟨target, iter, [], 0⟩] scope pos) 0 D cenv it ob own Q := fun fz s H ht => by
  refine codeAny_of_tree ?_
  rw [show A.under (.compLoop (.ListComp elt [⟨target, iter, [], 0⟩] scope pos) 0 (.ref it) (.ref D) cenv) = A from Around.under_of_weight rfl]
  show wpAny _ _ ((compTurn (.ListComp elt [⟨target, iter, [], 0⟩] scope pos) 0 (.ref it) (.ref D) cenv).onRaise (fun x => do noteFrame x cenv; theTreesLotGoes x)) _ _ s
  refine wpAny_onRaise (wpAny_mono (E := NoX) ?_ (fun _ _ q => q) fun _ _ x => x.elim)
  rw [turn_one]
  unfold turnSem
  refine wpAny_bind (wpAny_standAt (wpAny_bind (hst fz s H _ fun v s1 o1 H1 t1 rx ho hcl => ?_)))
  obtain ⟨n, hc, hn⟩ := hcl
  refine wpAny_bind (let_goT ho hc hn ?_)
  have tt := Nat.le_trans ht t1
  refine wpAny_bind (wp_then (turn fz s1 v H1 tt rx) tt fun fz2 _ _ o2 s2 k2 H2 t2 _ q2 => wpAny_bind (wpAny_tests_nil ?_))
  rw [if_pos rfl]
  unfold emitSem
  refine wpAny_bind (wpAny_bind (wp_then (q2 fz2 s2 H2 t2) t2 fun fz3 va a o3 s3 k3 H3 t3 r3 q3 => ?_))
  obtain ⟨o3', ys, o4, o', wk, u, hz, hp, cl⟩ := q3
  refine wpAny_bind (wp_then (do_append (Q := fun _ o => o = o4) u hz rfl fz3 s3 va (wk.hold H3) t3 r3) t3 fun fz4 _ _ o5 s4 k4 H4 t4 _ q4 => wpAny_pure ?_)
  subst q4
  refine wpAny_pure ⟨rfl, codeAny_mono (cl fz4 s4 (H4.perm hp) t4) fun r s' x => ?_⟩
  cases r with
  | ok f => obtain ⟨fz', own', k, rest⟩ := x; exact ⟨fz', own', k2.trans (k3.trans (k4.trans k)), rest⟩
  | error e => exact x.elim
theorem CLX_stop {elt target iter : Expr} {scope : Scope} {pos : Pos} {D : Addr} {cenv : Env} {it : Addr} {ob : Ob} {Q : Own → Prop} (hst : Stops W A it ob own) (h : Q own) : CLX W A (.ListComp elt [⟨target, iter, [], 0⟩] scope pos) 0 D cenv it ob own Q := fun fz s H ht => by
  refine codeAny_of_tree ?_
  rw [show A.under (.compLoop (.ListComp elt [⟨target, iter, [], 0⟩] scope pos) 0 (.ref it) (.ref D) cenv) = A from Around.under_of_weight rfl]
  show wpAny _ _ ((compTurn (.ListComp elt [⟨target, iter, [], 0⟩] scope pos) 0 (.ref it) (.ref D) cenv).onRaise (fun x => do noteFrame x cenv; theTreesLotGoes x)) _ _ s
  refine wpAny_onRaise (wpAny_mono (E := NoX) ?_ (fun _ _ q => q) fun _ _ x => x.elim)
  rw [turn_one]
  unfold turnSem
  refine wpAny_bind (wpAny_standAt (wpAny_bind (hst fz s H _ fun s1 H1 t1 => wpAny_pure ?_)))
  exact ⟨fz, own, .refl _, H1, Nat.le_trans ht t1, h⟩
theorem compStart_self {e : Expr} {d : Nat} {g : Comprehension} {it : Addr} {acc : Value} {cenv : Env} {s : Shared} {R : Result → Shared → Prop} (hself : ∀ (Q : Value → Shared → Prop) (E : Value → Shared → Prop), Q (.ref it) s → wpAny (model W.prog W.w) A (pyIter (.ref it)) Q E s)
    (hu : A.under (.compStart e d (.ref it) acc cenv) = A) (hg : (clausesOf e)[d]? = some g) (ha : (g.is_async != 0) = false)
    (hden : denote table (.compStart e d (.ref it) acc cenv) = (compStart e d (.ref it) acc cenv).onRaise (fun x => do noteFrame x cenv; standAt theWindowsPlace))
    (h : codeAny (model W.prog W.w) A (.compLoop e d (.ref it) acc cenv) R s) : codeAny (model W.prog W.w) A (.compStart e d (.ref it) acc cenv) R s := by
  refine codeAny_of_tree ?_
  rw [hu]
  show wpAny _ _ (denote table (.compStart e d (.ref it) acc cenv)) _ _ s
  rw [hden]
  refine wpAny_onRaise (wpAny_mono (E := NoX) ?_ (fun _ _ q => q) fun _ _ x => x.elim)
  unfold compStart
  rw [hg]
  simp only [Option.elim, ha, Bool.false_eq_true, if_false]
  refine wpAny_bind (wpAny_askSetting (wpAny_ite ?_))
  split
  · first
      | exact wpAny_bind (wpAny_pure (wpAny_pure (And.intro rfl h)))
      | exact wpAny_pure (And.intro rfl h)
  · exact wpAny_bind (wpAny_rule (wpAny_bind (wpAny_standAt (wpAny_bind (hself _ _ (wpAny_pure (And.intro rfl h)))))))
/-- what a comprehension of made things wants of its source -/
noncomputable def SelfIt (W : Wd) (A : Around) (it : Addr) (ob : Ob) : Prop := ∀ (fz : Heap) (own : Own) (s : Shared) (Q : Value → Shared → Prop) (E : Value → Shared → Prop), Hold W fz own s → (it, ob) ∈ own → Q (.ref it) s → wpAny (model W.prog W.w) A (pyIter (.ref it)) Q E s
theorem self_it {it : Addr} {l : List V} : SelfIt W A it (.it l) := fun fz own s Q E H hm h => it_self H hm h
noncomputable abbrev CompsX (W : Wd) (A : Around) (env : Env) (e : Expr) (scope : Scope) (cl : List (Str × Addr)) (Fin : Addr → Addr → Own → Prop) (b : V) (o : Own) : Prop :=
  ∃ it ob o3, b = .ref it ∧ o = (it, ob) :: o3 ∧ SelfIt W A it ob ∧ ∀ C D, CLX W A e 0 D (cEnv scope cl C env) it ob ((C, .ns []) :: (D, .list []) :: o3) (Fin C D)
theorem comp_madeX {e : Expr} {scope : Scope} {cl : List (Str × Addr)} {Fin : Addr → Addr → Own → Prop} {b : V} {g : Comprehension} {gs : List Comprehension} {elt : Expr} {pos : Pos} {fz : Heap} {s : Shared} {RR : Value → Addr → Result → Shared → Prop} {vb : Value}
    (he : e = .ListComp elt (g :: gs) scope pos) (ha : (g.is_async != 0) = false) (hcell : ∀ y ∈ scope.names, y.2 ≠ .cell) (hkind : scope.kind = .function)
    (H : Hold W fz own s) (ht : W.tk ≤ s.toks) (r : RV fz b vb) (q : CompsX W A env e scope cl Fin b own)
    (hR : ∀ C D fz' o s', Keep fz fz' → Hold W fz' o s' → W.tk ≤ s'.toks → Fin C D o → RR (.ref D) C (.ok .next) s') (hok : ∀ acc C f s', RR acc C (.ok .next) s' → RR acc C (.ok f) s') :
    wpAny (model W.prog W.w) A (newList []) (fun acc s₃ => wpAny (model W.prog W.w) A (newFunctionEnv scope env.globals cl [] env.qual none .none (some env)) (fun cenv s₄ =>
      codeAny (model W.prog W.w) A (.compStart e 0 vb acc { cenv with scope := relabel scope env }) (RR acc cenv.locals) s₄) NoX s₃) NoX s := by
  obtain ⟨it, ob, o3, rfl, rfl, hself, core⟩ := q
  cases r.val_inv
  subst he
  refine wpAny_newObj_type (wpAny_newFunctionEnv hcell (by intro y hy; simp at hy) (fun h₁ hns₁ hsb₁ => ?_) hkind)
  dsimp only at hns₁ hsb₁ ⊢
  have H₁ : Hold W fz ((s.heap.objs.size, .list []) :: (it, ob) :: o3) { s with heap := s.heap.push (listObj [] 0), toks := s.toks } := H.new (Keep.push _ _) (get?_ge (Nat.le_refl _)) (Heap.get?_push_size _ rfl) ⟨[], 0, rfl, .nil⟩
  obtain ⟨o, ho, hob⟩ := of_ns (fz := fz) (loc := []) hns₁ (fun p hp => (nomatch hp))
  have hk₁ : Keep (s.heap.push (listObj [] 0)) h₁ := fun b o e => hsb₁.extBut b o (Nat.ne_of_lt (Heap.lt_size e)) (Heap.get?_push_of_some _ e)
  have H₂ : Hold W fz (((s.heap.push (listObj [] 0)).objs.size, .ns []) :: (s.heap.objs.size, .list []) :: (it, ob) :: o3) { s with heap := h₁, toks := s.toks } :=
    H₁.new (k := s.toks) hk₁ (get?_ge (Nat.le_refl _)) ho hob
  have H₃ := H₂.perm (own' := (it, ob) :: ((s.heap.push (listObj [] 0)).objs.size, .ns []) :: (s.heap.objs.size, .list []) :: o3)
    ((List.Perm.cons _ (List.Perm.swap ..)).trans (List.Perm.swap ..))
  refine compStart_self (fun Q E hq => hself fz _ _ Q E (H₃ : Hold W fz _ { s with heap := h₁, toks := s.toks + ([] : List (Str × Value)).length }) List.mem_cons_self hq) (Around.under_of_weight rfl) rfl ha rfl ?_
  refine codeAny_mono (core (s.heap.push (listObj [] 0)).objs.size s.heap.objs.size fz _ H₃ ht) fun r s' x => ?_
  cases r with
  | ok f => obtain ⟨fz', own', k, H', t', i⟩ := x; exact hok _ _ _ _ (hR _ _ fz' own' s' k H' t' i)
  | error e => exact x.elim
theorem SX_AssignCompX {y : Str} {py spos : Pos} {elt target iter : Expr} {ifs : List Expr} {gs : List Comprehension} {scope : Scope} {pos : Pos} {cl : List (Str × Addr)} {Q : Fl → Own → Prop}
    (hclos : closureFor scope env = pure cl) (hcell : ∀ y ∈ scope.names, y.2 ≠ .cell) (hkind : scope.kind = .function) (hnames : ∀ y ∈ scope.names, y.2 = .local → scope.names.lookup y.1 = some .local)
    (hsw : swapsWith (.ListComp elt (⟨target, iter, ifs, 0⟩ :: gs) scope pos) (some (.Name y py)) spos.line env = pure true)
    (h : SE W A env iter own fun a o1 => S1 W A RV pyIter a o1 (CompsX W A env (.ListComp elt (⟨target, iter, ifs, 0⟩ :: gs) scope pos) scope cl fun C D o =>
      ∃ o' ys o4, Wk o o' ∧ o'.Perm ((C, .ns []) :: (D, .list ys) :: o4) ∧ SS W A env y (.ref D) ((C, .ns []) :: (D, .list ys) :: o4) fun o5 => ∃ o6, Wk o5 ((C, .ns []) :: o6) ∧ Q .next o6))
    (hs : ∀ x, foldedSetIterable iter env x = pure x := by intro _; rfl) : SX W A env (.Assign [.Name y py] (.ListComp elt (⟨target, iter, ifs, 0⟩ :: gs) scope pos) spos) own Q := fun fz s H ht => by
  unfold At
  rw [exec_Assign_Name_used _ _ _ _ hsw]
  refine wpAny_bind (wpAny_standAt (wpAny_bind ?_))
  show wpAny _ A (do let _ ← comprehension (.ListComp elt (⟨target, iter, ifs, 0⟩ :: gs) scope pos) scope env _ (newList []) false (eval iter env) (some (assign (.Name y py) env))) _ _ s
  refine wpAny_bind (wpAny_mono (E := NoX) (wpAny_comprehension_free (use := some (assign (.Name y py) env)) (Q := fun _ s' => ∃ fz' own', Keep fz fz' ∧ Hold W fz' own' s' ∧ Q .next own') rfl hs hclos hkind hnames
    (wp_then (h fz s H ht) ht fun fz1 va a o1 s1 k1 H1 t1 r1 q1 => wp_then (q1 fz1 s1 va H1 t1 r1) t1 fun fz2 vb b o2 s2 k2 H2 t2 r2 q2 => ?_))
    (fun _ s' hq => wpAny_pure (wpAny_pure (by obtain ⟨fz', o', k, H', q⟩ := hq; exact ⟨fz', .next, o', k, H', .next, q⟩))) fun _ _ e => e)
  refine comp_madeX (RR := fun acc C => compPost (model W.prog W.w) A NoX (some (assign (.Name y py) env)) _ acc C) rfl rfl hcell hkind H2 t2 r2 q2 (fun C D fz3 o s3 k3 H3 t3 fin => ?_) fun acc C f s' x => x
  obtain ⟨o', ys, o4, wk, hp, q⟩ := fin
  have H4 := (wk.hold H3).perm hp
  refine wpAny_assign_Name (wp_then (q fz3 s3 _ H4 t3 (.val _)) t3 fun fz4 _ _ o5 s4 k4 H5 t4 _ q5 => ?_)
  obtain ⟨o6, wk6, q6⟩ := q5
  have H6 := wk6.hold H5
  obtain ⟨oC, hoC, hns⟩ := H6.get List.mem_cons_self
  obtain ⟨m, hm, _⟩ := ns_of hoC hns
  exact ⟨m, hm, fun h' hs' => ⟨fz4, _, k1.trans (k2.trans (k3.trans k4)), H6.sameBut hs', q6⟩⟩
/-! ### iter -/
end
section
variable {W : Wd} {A : Around} {env : Env} {own : Own}
/-! ### list(generator) -/
end
section
/-! ### a function's text, taken apart without its names -/
noncomputable def txtO : Option Obj → Option (Str × Scope × Value × List Stmt)
  | some o => match o.data with
    | .func f => match f.body with
      | .stmts b => some (f.qualname, f.scope, f.code, b)
      | _ => none
    | _ => none
  | none => none
noncomputable def nthS : List Stmt → Nat → Stmt
  | [], _ => .Pass default
  | s :: _, 0 => s
  | _ :: l, n + 1 => nthS l n
noncomputable def forT : Stmt → Expr | .For t _ _ _ _ => t | _ => .Name (Str.ofString "") default
noncomputable def forI : Stmt → Expr | .For _ i _ _ _ => i | _ => .Name (Str.ofString "") default
noncomputable def forB : Stmt → List Stmt | .For _ _ b _ _ => b | _ => []
noncomputable def forP : Stmt → Pos | .For _ _ _ _ p => p | _ => default
noncomputable def ifT : Stmt → Expr | .If t _ _ _ => t | _ => .Name (Str.ofString "") default
noncomputable def ifB : Stmt → List Stmt | .If _ b _ _ => b | _ => []
noncomputable def ifE : Stmt → List Stmt | .If _ _ e _ => e | _ => []
noncomputable def ifP : Stmt → Pos | .If _ _ _ p => p | _ => default
noncomputable def whT : Stmt → Expr | .While t _ _ _ => t | _ => .Name (Str.ofString "") default
noncomputable def whB : Stmt → List Stmt | .While _ b _ _ => b | _ => []
noncomputable def whP : Stmt → Pos | .While _ _ _ p => p | _ => default
noncomputable def clB : Stmt → List Stmt | .ClassDef _ _ _ b _ _ _ _ _ _ _ => b | _ => []
noncomputable def fdA : Stmt → Arguments | .FunctionDef _ a _ _ _ _ _ _ _ _ => a | _ => default
noncomputable def fdB : Stmt → List Stmt | .FunctionDef _ _ b _ _ _ _ _ _ _ => b | _ => []
noncomputable def fdS : Stmt → Scope | .FunctionDef _ _ _ _ _ _ s _ _ _ => s | _ => default
noncomputable def fdN : Stmt → Str | .FunctionDef n _ _ _ _ _ _ _ _ _ => n | _ => default
noncomputable def exS : Expr → Str | .Constant (.str s) _ _ => s | _ => default
noncomputable def asS : Stmt → Str | .Assign _ v _ => exS v | _ => default
/-- a function that stands in the program's text -/
noncomputable abbrev fnO (s : Stmt) (qual : Str) (dV kV doc pm : Value) (an : Option Addr) (cdv ct : Value) : Obj := { cls := .type "function", data := .func (fnOf (fdN s) qual (fdA s) (fdB s) (fdS s) dV kV doc pm an cdv ct) }
theorem len_s {α β : Type} {l : List α} {a : β} {m : List β} (h : l.length = (a :: m).length) : ∃ x l', l = x :: l' ∧ l'.length = m.length := by
  cases l with
  | nil => cases h
  | cons x l' => exact ⟨x, l', rfl, Nat.succ.inj h⟩
theorem len_1 {α β : Type} {l : List α} {a : β} (h : l.length = [a].length) : ∃ x, l = [x] := by
  obtain ⟨x, l', rfl, h2⟩ := len_s h; exact ⟨x, by rw [List.eq_nil_of_length_eq_zero h2]⟩
theorem len_2 {α β : Type} {l : List α} {a b : β} (h : l.length = [a, b].length) : ∃ x y, l = [x, y] := by
  obtain ⟨x, l', rfl, h2⟩ := len_s h; obtain ⟨y, rfl⟩ := len_1 h2; exact ⟨x, y, rfl⟩
theorem len_3 {α β : Type} {l : List α} {a b c : β} (h : l.length = [a, b, c].length) : ∃ x y z, l = [x, y, z] := by
  obtain ⟨x, l', rfl, h2⟩ := len_s h; obtain ⟨y, z, rfl⟩ := len_2 h2; exact ⟨x, y, z, rfl⟩
theorem len_4 {α β : Type} {l : List α} {a b c d : β} (h : l.length = [a, b, c, d].length) : ∃ x y z u, l = [x, y, z, u] := by
  obtain ⟨x, l', rfl, h2⟩ := len_s h; obtain ⟨y, z, u, rfl⟩ := len_3 h2; exact ⟨x, y, z, u, rfl⟩
end
section
variable {W : Wd} {A : Around} {env : Env} {own : Own}
/-! ### calls by keyword -/
noncomputable abbrev SKs (W : Wd) (A : Around) (env : Env) (pos : Pos) (kws : List Keyword) (own : Own) (Q : List V → Own → Prop) : Prop := SG W A RVs (evalAll ((backToKw pos (keywordEach kws env)).map (·.2))) own Q
theorem SKs_nil {pos : Pos} {Q : List V → Own → Prop} (h : Q [] own) : SKs W A env pos [] own Q := fun fz s H _ => kwAll_nil ⟨fz, _, own, .refl _, H, .nil, h⟩
theorem SKs_cons {pos p : Pos} {name : Str} {e : Expr} {rest : List Keyword} {Q : List V → Own → Prop} (h : SE W A env e own fun a o1 => SKs W A env pos rest o1 fun l o2 => Q (a :: l) o2) : SKs W A env pos (⟨some name, e, p⟩ :: rest) own Q := fun fz s H ht =>
  kwAll_cons (wp_then (h fz s H ht) ht fun fz1 va a o1 s1 k1 H1 t1 r1 q1 => wp_then (q1 fz1 s1 H1 t1) t1 fun fz2 vl l o2 s2 k2 H2 t2 r2 q2 => ⟨fz2, _, o2, k1.trans k2, H2, .cons (r1.mono k2) r2, q2⟩)
theorem SE_CallKw {func : Expr} {kws : List Keyword} {pos : Pos} {names : List Str} {Q : V → Own → Prop}
    (h : SE W A env func own fun fv o1 => ∃ f, fv = .val f ∧ keepIn W.K f = true ∧ SKs W A env pos kws o1 fun l o2 => SL W A RV (fun ks => call f [] (names.zip ks)) l o2 Q)
    (hn : (backToKw pos (keywordEach kws env)).filterMap (·.1) = names := by rfl)
    (hall : (backToKw pos (keywordEach kws env)).all (·.1.isSome) = true := by rfl)
    (hpl : ((backTo pos (starEach [] env)).any (·.1) || (backToKw pos (keywordEach kws env)).any (·.1.isNone)) = false := by rfl)
    (he : eval (.Call func [] kws pos) env = (do callWith pos (← eval func env) [] (backTo pos (starEach [] env)) (backToKw pos (keywordEach kws env))) := by rfl) : SE W A env (.Call func [] kws pos) own Q := fun fz s H ht => by
  show wpAny _ _ (eval (.Call func [] kws pos) env) _ _ _
  rw [he]
  refine wpAny_bind (wp_then (h fz s H ht) ht fun fz1 va a o1 s1 k1 H1 t1 r1 q1 => ?_)
  obtain ⟨f, rfl, hk, q⟩ := q1
  cases r1.val_inv
  refine callWith_KW0 H1.kin hk hall (wp_then (q fz1 s1 H1 t1) t1 fun fz2 vl l o2 s2 k2 H2 t2 r2 q2 => ⟨H2.kin, ?_⟩) hpl
  rw [hn]
  exact (q2 fz2 s2 _ H2 t2 r2).weak (k1.trans k2)
noncomputable def SLCK (W : Wd) (A : Around) (f : Value) (first : List V) (kn : List Str) (args : List V) (own : Own) (Q : V → Own → Prop) : Prop :=
  ∀ fz s vs ks, Hold W fz own s → W.tk ≤ s.toks → RVs fz first vs → RVs fz args ks → codeAny (model W.prog W.w) A (.call f ⟨vs, kn.zip ks⟩)
    (fun r s' => match r with | .ok (.ret v) => Post W RV Q fz v s' | .ok _ => False | .error _ => False) s
theorem do_callDK {f : Addr} {first args : List V} {kn : List Str} {Q : V → Own → Prop} {name qual : Str} {params : Arguments} {body : List Stmt} {scope : Scope} {dV kV doc pm cdv ct oc : Value} {an od : Option Addr} {osl : Array (Option Value)}
    (names : List Str) (dfl : List Value) (dfv : List V) (hdf : ∀ fz, RVs fz dfv dfl)
    (ho : W.K.lookup f = some ⟨oc, od, .func (fnOf name qual params body scope dV kV doc pm an cdv ct), osl⟩) (hcd : codeIn W.K cdv qual = true) (hroom : A.depth < recursionLimit)
    (hb : ∀ s vs ks, W.K.In s.heap → vs.length = first.length → ks.length = args.length → BindsTo s (fnOf name qual params body scope dV kV doc pm an cdv ct) ⟨vs, kn.zip ks⟩ (names.zip (vs ++ (ks ++ dfl))))
    (hloc : ∀ y ∈ names, scope.names.lookup y = some .local) (nd : names.Nodup)
    (h : ∀ L, SXs W (A.deeper (envX qual scope L f cdv [])) (envX qual scope L f cdv []) body ((L, .ns (names.zip (first ++ (args ++ dfv)))) :: own) (retTo Q))
    (hco : scope.isCoroutine = false) (hgen : scope.isGenerator = false) (hk : scope.kind = .function)
    (hcell : ∀ x ∈ scope.names, x.2 ≠ .cell) : SLCK W A (.ref f) first kn args own Q := fun fz s vs ks H ht rs rk => by
  have ndz : ((names.zip (vs ++ (ks ++ dfl))).map (·.1)).Nodup := nd.sublist zip_fst
  refine (codeAny_call_def (fd := fnOf name qual params body scope dV kV doc pm an cdv ct) (body := body) (binds := names.zip (vs ++ (ks ++ dfl))) hroom (H.kin _ _ ho) rfl (W.top.nolimit.keeps H.keep) (codeRec_of H.kin hcd) rfl
    (hb s vs ks H.kin rs.length.symm rk.length.symm) hcell (fun x hx => hloc _ (List.of_mem_zip (show (x.1, x.2) ∈ names.zip (vs ++ (ks ++ dfl)) from hx)).1) (fun h₁ hns hk₁ => ?_) hco hgen hk)
  obtain ⟨o, ho', hob⟩ := of_ns (fz := fz) (loc := names.zip (first ++ (args ++ dfv))) hns (fun p hp => by
    obtain ⟨v, e, r⟩ := zip_lookup (rs.append (rk.append (hdf fz))) nd p hp
    exact ⟨v, by rw [lookup_reverse ndz]; exact e, r⟩)
  have H₁ : Hold W fz ((s.heap.objs.size, .ns (names.zip (first ++ (args ++ dfv)))) :: own) { s with heap := h₁, toks := s.toks + (names.zip (vs ++ (ks ++ dfl))).length } := H.new hk₁ (get?_ge (Nat.le_refl _)) ho' hob
  refine wpAny_mono (h s.heap.objs.size fz _ H₁ (Nat.le_trans ht (Nat.le_add_right _ _))) (fun fl s' x => ?_) fun _ _ x => x.elim
  obtain ⟨fz', b, own', k, H', r, own'', wk, q⟩ := x
  refine ⟨fz', _, own'', k, wk.hold H', ?_, q⟩
  cases r with
  | next => exact .dat .none
  | brk => exact .dat .none
  | cont => exact .dat .none
  | ret r => exact r
theorem do_makeK {C fI : Addr} {kn : List Str} {args : List V} {Q : V → Own → Prop} (hc : ClsOk W.K C) (hi : findIn W.K (.ref C) "__init__" = some (some (.ref fI))) (hf : typeIn W.K (.ref fI) = some (.type "function"))
    (h : ∀ A' : Around, A'.handled = A.handled → A'.depth = A.depth + 1 → A'.units = A.units + 1 → ∀ x dx, SLCK W A' (.ref fI) [.ref x] kn args ((x, .obj (instObj C dx)) :: (dx, .att []) :: own) fun r o => r = .none ∧ Q (.ref x) o) :
    SL W A RV (fun ks => call (.ref C) [] (kn.zip ks)) args own Q := fun fz s ks H ht rs => by
  refine wpAny_call ?_
  have H1 : Hold W fz ((s.heap.objs.size, .att []) :: own) { s with heap := s.heap.push emptyDict, toks := s.toks } := H.new (Keep.push _ _) (get?_ge (Nat.le_refl _)) (Heap.get?_push_size _ rfl)
    ⟨#[], 0, rfl, fun e he => by simp at he, by simp, fun p hp => (nomatch hp), fun x _ => rfl⟩
  have H2 : Hold W fz ((s.heap.objs.size + 1, .obj (instObj C s.heap.objs.size)) :: (s.heap.objs.size, .att []) :: own) { s with heap := (s.heap.push emptyDict).push (instObj C s.heap.objs.size), toks := s.toks } := by
    have := H1.new (k := s.toks) (ob := .obj (instObj C s.heap.objs.size)) (Keep.push _ (instObj C s.heap.objs.size)) (get?_ge (Nat.le_refl _)) (Heap.get?_push_size _ rfl) rfl
    rw [show ({ s with heap := s.heap.push emptyDict, toks := s.toks } : Shared).heap.objs.size = s.heap.objs.size + 1 from Heap.size_push ..] at this
    exact this
  obtain ⟨hh, g, d, t, os⟩ := s
  refine make_core (makes_of H.kin hc.makes) (looks_findIn H.kin hi) (fun self => bind_fn H.kin self hf) (.inl rfl) ?_
  have key := h (A.under (.builtin "type.__call__" ⟨.ref C :: [], kn.zip ks⟩)) rfl rfl rfl (hh.objs.size + 1) hh.objs.size fz _ _ _ H2 ht (.cons (.val _) .nil) rs
  refine codeAny_mono key fun r s' x => ?_
  rcases r with e | (v | _ | _ | _) <;> first | exact x.elim | skip
  obtain ⟨fz', b, own', k', H', rb, rfl, q⟩ := x
  exact ⟨rb.none_inv, fz', _, own', k', H', .val _, q⟩
/-! ### split and find -/
noncomputable def splitC (c : Nat) : List Nat → List (List Nat)
  | [] => [[]]
  | d :: l => if d = c then [] :: splitC c l else match splitC c l with | [] => [[d]] | h :: t => (d :: h) :: t
theorem splitC_free {c : Nat} : ∀ {p : List Nat}, c ∉ p → splitC c p = [p]
  | [], _ => rfl
  | d :: p, h => by
    rw [splitC, if_neg (fun e => h (by rw [e]; exact List.mem_cons_self)), splitC_free (fun e => h (List.mem_cons_of_mem _ e))]
theorem splitC_cut {c : Nat} {r : List Nat} : ∀ {p : List Nat}, c ∉ p → splitC c (p ++ c :: r) = p :: splitC c r
  | [], _ => by rw [List.nil_append, splitC, if_pos rfl]
  | d :: p, h => by
    rw [List.cons_append, splitC, if_neg (fun e => h (by rw [e]; exact List.mem_cons_self)), splitC_cut (fun e => h (List.mem_cons_of_mem _ e))]
theorem splitC_join (c : Nat) : ∀ parts : List Str, parts ≠ [] → (∀ p ∈ parts, c ∉ p.cps.toList) → splitC c (Str.join ⟨#[c]⟩ parts).cps.toList = parts.map fun p => p.cps.toList
  | [], h, _ => absurd rfl h
  | [p], _, h => by
    rw [show Str.join ⟨#[c]⟩ [p] = p from rfl, splitC_free (h p List.mem_cons_self)]; rfl
  | p :: q :: r, _, h => by
    have e : (Str.join ⟨#[c]⟩ (p :: q :: r)).cps.toList = p.cps.toList ++ c :: (Str.join ⟨#[c]⟩ (q :: r)).cps.toList := by
      show (p ++ ⟨#[c]⟩ ++ Str.join ⟨#[c]⟩ (q :: r) : Str).cps.toList = _
      show ((p.cps ++ #[c]) ++ (Str.join ⟨#[c]⟩ (q :: r)).cps).toList = _
      simp
    rw [e, splitC_cut (h p List.mem_cons_self), splitC_join c (q :: r) (by simp) fun x hx => h x (List.mem_cons_of_mem _ hx)]
    rfl
theorem split_S (l : List Nat) (c : Nat) : Txt.split (S l) (S [c]) = (splitC c l).map S := by
  have h1 := splitC_join c (Txt.split (S l) ⟨#[c]⟩) (by intro e; have := split_pos (S l) ⟨#[c]⟩; rw [e] at this; simp at this) (StrLaws.split_free (S l) c)
  rw [StrLaws.join_split] at h1
  have h3 : (S l).cps.toList = l := by simp [S]
  rw [h3] at h1
  rw [h1, List.map_map]
  have h4 : ∀ ps : List Str, ps.map (S ∘ fun p => p.cps.toList) = ps := fun ps => by
    induction ps with
    | nil => rfl
    | cons p ps ih => rw [List.map_cons, ih, show (S ∘ fun p : Str => p.cps.toList) p = p from S_lit p]
  rw [h4]; rfl
theorem rvs_numbered {fz : Heap} : ∀ {l : List (Str × Tok)} {ps : List (List Nat)}, l.map (·.1) = ps.map S → RVs fz ((ps.map fun p => PyData.str (S p)).map V.dat) (strValues l)
  | [], [], _ => .nil
  | [], _ :: _, h => nomatch h
  | _ :: _, [], h => nomatch h
  | (x, t) :: l, p :: ps, h => by
    simp only [List.map_cons, List.cons.injEq] at h
    obtain ⟨e, h⟩ := h
    subst e
    exact .cons (.dat (.str _ _)) (rvs_numbered h)
theorem call_split {l : List Nat} {c : Nat} {Q : V → Own → Prop} (hz : l.length ≤ 100000) (hz2 : (splitC c l).length ≤ 100000) (h : Q (.lst ((splitC c l).map fun p => .str (S p))) own) : SL W A RV (fun vs => call (.builtin "str.split") vs) [.str (S l), .str (S [c])] own Q := SL2 fun fz s v u H ht r1 r2 => by
  obtain ⟨t, rfl⟩ := r1.str_inv
  obtain ⟨t', rfl⟩ := r2.str_inv
  have hsl : sizeLine = 16777216 := sizeLine_eq
  have hS := split_S l c
  have hlen : (S l).length = l.length := S_len l
  have fin : ∀ (ls : List (Str × Tok)) (k : Nat), ls.map (·.1) = Txt.split (S l) (S [c]) → Post W RV Q fz (.ref s.heap.objs.size) { s with toks := k, heap := s.heap.push { cls := .type "list", data := .seq (strValues ls).toArray } } := by
    intro ls k e
    exact new_list (s := { s with toks := k }) (H.toks k) (rvs_numbered (e.trans hS)) h
  cases h1 : (decide ((S l).length < (S [c]).length) || decide (Builtin.Str.strKind (S l) < Builtin.Str.strKind (S [c])))
  · cases hf : (Builtin.Str.occurrences (S l) (S [c]) 0 (S l).length ((S l).length + 1)).isEmpty
    · have hsp : Txt.split (S l) (S [c]) = Builtin.Str.partsBetween (S l) (Builtin.Str.occurrences (S l) (S [c]) 0 (S l).length ((S l).length + 1)) (S [c]).length := (if_neg (ne_true_of_eq_false h1)).trans (if_neg (ne_true_of_eq_false hf))
      refine call_meets PySem.F.slot_str_split (typeIs_str _ _ _) PySem.F.entry_str_split (PySem.F.args_str_split_2 _ _) (meets_str_split_sep (S l) (S [c]) t t' h1 rfl hf (by (first | decide | exact Nat.le_trans (by assumption) (by decide) | lia | omega)) (by rw [← hsp, hS, List.length_map]; (first | decide | exact Nat.le_trans (by assumption) (by decide) | lia | omega))) ?_
      show wants _ _ _ { s with toks := _, heap := s.heap.push { cls := .type "list", data := .seq (strsFrom s.toks (Builtin.Str.partsBetween (S l) (Builtin.Str.occurrences (S l) (S [c]) 0 (S l).length ((S l).length + 1)) (S [c]).length)).toArray } }
      rw [strsFrom_eq]
      exact fin (numbered s.toks _) _ ((numbered_texts _ _).trans hsp.symm)
    · exact call_meets PySem.F.slot_str_split (typeIs_str _ _ _) PySem.F.entry_str_split (PySem.F.args_str_split_2 _ _) (meets_str_split_not_found (S l) (S [c]) t t' h1 rfl hf)
        (fin [(S l, t)] s.toks ((if_neg (ne_true_of_eq_false h1)).trans (if_pos hf)).symm)
  · exact call_meets PySem.F.slot_str_split (typeIs_str _ _ _) PySem.F.entry_str_split (PySem.F.args_str_split_2 _ _) (meets_str_split_cannot_occur (S l) (S [c]) t t' h1)
      (fin [(S l, t)] s.toks (if_pos h1).symm)
theorem occ_head {l : List Nat} {c : Nat} {p r : List Nat} (e : l = p ++ c :: r) (h : c ∉ p) : Txt.find (S l) (S [c]) = (p.length : Int) := by
  have h3 : (S l).cps.toList = l := by simp [S]
  have hat : StrLaws.At (S l) (S [c]) (S l).length p.length := (StrLaws.subAt_one (S l) c p.length).mpr (by rw [h3, e]; simp)
  have hno : ∀ k, k < p.length → ¬ StrLaws.At (S l) (S [c]) (S l).length k := fun k hk x => by
    have := (StrLaws.subAt_one (S l) c k).mp x
    rw [h3, e, List.getElem?_append_left hk] at this
    exact h (List.mem_of_getElem? this)
  rcases find_whole (S l) (S [c]) with ⟨_, hn⟩ | ⟨i, hf, hi, hn⟩
  · exact absurd hat (hn _)
  · rw [hf]
    rcases Nat.lt_trichotomy i p.length with q | q | q
    · exact absurd hi (hno i q)
    · rw [q]
    · exact absurd hat (hn _ q)
theorem call_find {l p r : List Nat} {c : Nat} {Q : V → Own → Prop} (e : l = p ++ c :: r) (hp : c ∉ p) (h : Q (.int p.length) own) : SL W A RV (fun vs => call (.builtin "str.find") vs) [.str (S l), .str (S [c])] own Q := SL2 fun fz s v u H ht r1 r2 => by
  obtain ⟨t, rfl⟩ := r1.str_inv
  obtain ⟨t', rfl⟩ := r2.str_inv
  refine SC.find ?_
  rw [occ_head e hp]
  exact at_tok H _ (.dat (.int _ _)) h
/-! ### in a list of texts -/
theorem any_eqS {ls : List (List Nat)} {l : List Nat} : (ls.map S).any (· == S l) = decide (l ∈ ls) := by
  induction ls with
  | nil => simp
  | cons a r ih =>
    rw [List.map_cons, List.any_cons, ih]
    by_cases e : l = a
    · subst e; simp
    · have : (S a == S l) = false := by
        rw [beq_eq_false_iff_ne]; exact fun h => e (S_inj.mp h).symm
      simp [this, e]
theorem cmp_ninS {l : List Nat} {ls : List (List Nat)} {Q : V → Own → Prop} (h : Q (.bool (decide (l ∉ ls))) own) : S2 W A RV (compareOp .NotIn) (.str (S l)) (.lst (ls.map fun l => .str (S l))) own Q := fun fz s v u H _ r1 r2 => by
  obtain ⟨t, rfl⟩ := r1.str_inv
  obtain ⟨x, vs, rfl, hl, rs⟩ := r2.lst_inv
  refine notin_list_strs (vs := vs.toList) (by simpa using IsList_keep hl H.has) (strs_of rs) ?_
  rw [any_eqS, show (!decide (l ∈ ls)) = decide (l ∉ ls) by simp]
  exact ⟨fz, _, own, .refl _, H, .dat (.bool _), h⟩
theorem isStrOf_at {vs : List Value} {ls : List (List Nat)} (h : StrsAre vs (ls.map S)) (k : List Nat) (i : Nat) (hi : i < vs.length) (hj : i < ls.length) : isStrOf (S k) vs[i] = decide (ls[i] = k) := by
  obtain ⟨t, e⟩ := h.at (j := i) (y := S ls[i]) (by rw [List.getElem?_map, List.getElem?_eq_getElem hj]; rfl)
  rw [List.getElem?_eq_getElem hi] at e
  injection e with e
  rw [e]
  show (S ls[i] == S k) = _
  by_cases q : ls[i] = k
  · rw [q]; simp
  · rw [decide_eq_false q, beq_eq_false_iff_ne]; exact fun h => q (S_inj.mp h)
/-! ### kinds -/
theorem call_isTuple {l : List PyData} {Q : V → Own → Prop} (h : Q (.bool true) own) : SL W A RV (fun vs => call (.builtin "isinstance") vs) [.tup l, .val (.type "tuple")] own Q := SL2 fun fz s v u H ht r1 r2 => by
  cases r2.val_inv
  obtain ⟨a, vs, rfl, hx, _⟩ := r1.tup_inv
  obtain ⟨o, ho, hc, _⟩ := IsTuple_keep hx H.has
  exact IsiPair.tuple_tuple ho hc ⟨fz, _, own, .refl _, H, .dat (.bool _), h⟩
theorem call_isList {l : List PyData} {Q : V → Own → Prop} (h : Q (.bool true) own) : SL W A RV (fun vs => call (.builtin "isinstance") vs) [.lst l, .val (.type "list")] own Q := SL2 fun fz s v u H ht r1 r2 => by
  cases r2.val_inv
  obtain ⟨a, vs, rfl, hx, _⟩ := r1.lst_inv
  obtain ⟨o, ho, hc, _⟩ := IsList_keep hx H.has
  exact IsiPair.list_list ho hc ⟨fz, _, own, .refl _, H, .dat (.bool _), h⟩
theorem call_strI {n : Int} {Q : V → Own → Prop} (hd : n.natAbs.log2 < 1920) (h0 : 0 ≤ n) (h : Q (.str (S (decT n))) own) : SL W A RV (fun vs => call (.type "str") vs) [.int n] own Q := SL1 fun fz s v H ht r => by
  obtain ⟨t, rfl⟩ := r.int_inv
  refine P.str_of_int hd ?_
  have e : (toString n : Str) = S (decT n) := by
    unfold decT
    rw [if_neg (by (first | decide | exact Nat.le_trans (by assumption) (by decide) | lia | omega)), List.nil_append, Int.natAbs_of_nonneg h0]
    exact (S_lit _).symm
  rw [e]
  exact at_tok H _ (.dat (.str _ _)) h
/-! ### the last of a list taken out -/
theorem rvs_snoc {fz : Heap} {x : V} : ∀ {l : List V} {vs : List Value}, RVs fz (l ++ [x]) vs → ∃ ys y, vs = ys ++ [y] ∧ RVs fz l ys ∧ RV fz x y
  | [], _, h => by cases h with | cons r h => cases h; exact ⟨[], _, rfl, .nil, r⟩
  | a :: l, _, h => by
    cases h with
    | cons r h =>
      obtain ⟨ys, y, rfl, h1, h2⟩ := rvs_snoc h
      exact ⟨_ :: ys, y, rfl, .cons r h1, h2⟩
theorem call_popL {D : Addr} {x : V} {l : List V} {own' : Own} {Q : V → Own → Prop} (u : Upd D (.list (l ++ [x])) (.list l) own own') (hz : l.length < sizeLine) (h : Q x own') : SL W A RV (fun vs => call (.builtin "list.pop") vs) [.ref D] own Q := SL1 fun fz s v H ht r1 => by
  cases r1.val_inv
  obtain ⟨ob, ho, vs, n, rfl, rs⟩ := H.get u.mem
  obtain ⟨ys, y, rfl, rys, ry⟩ : ∃ ys y, vs = ys ++ [y] ∧ RVs fz l ys ∧ RV fz x y := rvs_snoc rs
  have hlen := rys.length
  refine call_meets PySem.F.slot_list_pop ⟨_, ho, rfl⟩ PySem.F.entry_list_pop (PySem.F.args_list_pop_1 _) (PySem.MeetsSeq.list_pop_last D (ys ++ [y]).toArray n y (by simp) (by simp only [List.size_toArray, List.length_append, List.length_cons, List.length_nil]; (first | decide | exact Nat.le_trans (by assumption) (by decide) | lia | omega))) ⟨ho, ?_⟩
  have hs : Heap.SameBut D s.heap (s.heap.update D (Obj.mapSeq fun xs => xs.eraseIdxIfInBounds ((ys ++ [y]).toArray.size - 1))) := Heap.SameBut.update ..
  have e : ∃ n', Obj.mapSeq (fun xs => xs.eraseIdxIfInBounds ((ys ++ [y]).toArray.size - 1)) (listObj (ys ++ [y]) n) = listObj ys n' := by
    unfold listObj Obj.mapSeq
    refine ⟨n + 1, ?_⟩
    simp [Array.eraseIdxIfInBounds, List.eraseIdx_append_of_length_le]
  obtain ⟨n', e⟩ := e
  have hg := Heap.get?_update_self (Obj.mapSeq fun xs => xs.eraseIdxIfInBounds ((ys ++ [y]).toArray.size - 1)) ho (by rw [e]; rfl)
  rw [e] at hg
  exact ⟨fz, _, own', .refl _, H.set (k := s.toks) u hs hg ⟨ys, _, rfl, rys⟩, ry, h⟩
theorem cmp_neNil {ns : List Int} {Q : V → Own → Prop} (hu : A.units + 64 < cLine) (h : Q (.bool (decide (ns ≠ []))) own) : S2 W A RV (compareOp .NotEq) (.lst (ns.map .int)) (.lst []) own Q := by
  have hok : Ok 60 (.list (ns.map .int)) := ok_list (n := 59) fun d hd => by
    obtain ⟨i, _, rfl⟩ := List.mem_map.mp hd
    exact ok_int
  refine cmp_neD (by unfold SeqAt.shaped; rw [hok.1, decide_eq_true (Nat.le_trans hok.2 (by decide))]; rfl) (by decide +kernel) hu ?_
  have e : PyData.eqv (.list (ns.map .int)) (.list []) = decide (ns = []) := by cases ns <;> rfl
  rw [e, show (!decide (ns = [])) = decide (ns ≠ []) by simp]
  exact h
end
section
theorem reads_ints {h h' : Heap} : ∀ {ns : List Int} {vs : List Value} {as : List Addr}, ReadsAll h vs (ns.map .int) as → ReadsAll h' vs (ns.map .int) as := by
  intro ns
  induction ns with
  | nil => intro vs as x; cases x; exact .nil
  | cons n ns ih =>
    intro vs as x
    rw [List.map_cons] at x ⊢
    cases x with | cons a t => cases a; exact .cons (.int _ _) (ih t)
/-- the same, with one code object's table laid aside -/
theorem join_lawT {prog : Program} {w : World} {s₁ : Shared} {K : Frag} {p : Program} {loose : List Str} {mean : ExcName → Option Value} {mg mb : Str → Option Value} {fa f a c P : Addr} {ns : List Int} {as : List Addr} {pos : Pos} {qual : Str}
    (T : Top p loose mean mg mb s₁.heap) (KX : K.In s₁.heap) (hKt : noTabs K = true) (hC : codeHdIn K c P = true) (hP : s₁.heap.get? P = some (tabObj #[]))
    (hmg : mg (Str.ofString "law") = some (.ref fa)) (hg : s₁.gens = #[]) (hns : nsIn K mainGlobals (Str.ofString "law") = some (some (.ref f)))
    (r0 : Reads s₁.heap (.ref a) (.list (ns.map .int)) as)
    (h : ∀ W : Wd, W.w = w → W.K = K → SLC W callerA (.ref f) [.lst (ns.map .int)] [(P, .prop (TabP pos qual))] (fun r o => r = .bool true ∧ (P, .prop (TabP pos qual)) ∈ o)) :
    codeAny (model prog w) callerA (.call (.ref fa) ⟨[.ref a], []⟩) (fun r s' => r = .ok (.ret (.bool true)) ∧ OldK s₁.heap s'.heap ∧ s'.os = s₁.os ∧ AllBare s'.gens) s₁ := by
  have e := mg_of KX T.g hns
  rw [hmg] at e
  cases e
  have CH := codeHd_of_K KX hC
  have hT : TabsAt [(c, P)] s₁.heap := fun q hq => by
    rcases List.mem_cons.mp hq with rfl | hq
    · exact ⟨CH, hP⟩
    · cases hq
  have T' := ghost_top hT T
  have KX' := ghost_K hT KX hKt
  have kb : Keep (ghostOf s₁.heap [(c, P)]) s₁.heap := fun b o e => of_hideAll _ e
  let W : Wd := { prog := prog, w := w, base := ghostOf s₁.heap [(c, P)], os := s₁.os, K := K, p := _, loose := _, mg := mg, mb := mb, kin := KX', top := topRead_of T', bm := T'.bmain, tk := 0 }
  have H : Hold W (ghostOf s₁.heap [(c, P)]) [(P, .prop (TabP pos qual))] s₁ := by
    refine ⟨.refl _, kb, fun p hp => ?_, fun p hp => ?_, by simp, .cons (.nil (.of_eq hg)) rfl, rfl⟩
    · rcases List.mem_cons.mp hp with rfl | hp
      · exact ⟨_, hP, _, Keep.refl _, .inl rfl⟩
      · cases hp
    · rcases List.mem_cons.mp hp with rfl | hp
      · exact hideAll_none _ (by simp)
      · cases hp
  have r0' : Reads (ghostOf s₁.heap [(c, P)]) (.ref a) (.list (ns.map .int)) as := by
    cases r0 with
    | @list a o vs n xs as ho hc hd hr =>
      refine .list (ghost_get hT ho (fun q => by rw [q] at hc; cases hc)) hc hd ?_
      exact reads_ints hr
  refine codeAny_mono (h W rfl rfl _ s₁ [.ref a] H (Nat.zero_le _) (.cons (.dat r0') .nil)) fun r s' x => ?_
  rcases r with e | (v | _ | _ | _) <;> first | exact x.elim | skip
  obtain ⟨fz', b, own', k, H', rb, rfl, hm⟩ := x
  rw [rb.bool_inv]
  obtain ⟨oP, fz₀, hoP, _, hp⟩ := H'.prop hm
  obtain ⟨ps, rfl⟩ : ∃ ps, oP = tabObj ps := by rcases hp with rfl | ⟨c', rfl, _⟩ <;> exact ⟨_, rfl⟩
  have keep : ∀ b o, b ≠ P → s₁.heap.get? b = some o → s'.heap.get? b = some o := fun b o hb e => (k.trans H'.has) b o (ghost_ne e (by simpa using hb))
  refine ⟨rfl, ⟨fun b o e => ?_, fun b o e => ?_⟩, H'.os, H'.gens.bare⟩
  · by_cases hb : b = P
    · subst hb
      rw [hP] at e; cases e
      exact .inr (.inl ⟨(CH.tab hP).isCodeTable, rfl, #[], ps, rfl, by rw [Array.empty_append]; exact hoP⟩)
    · exact .inl (keep b o hb e)
  · by_cases hb : b = P
    · subst hb; exact ⟨_, hoP⟩
    · exact ⟨o, keep b o hb e⟩
end
noncomputable def lawS (i : Nat) : Stmt := nthS PySem.Challenge.pw_dm0066_07.main.body i
 def nthQ : List Stmt → Nat → Stmt
  | [], _ => .Pass default
  | st :: _, 0 => st
  | _ :: l, n + 1 => nthQ l n
 def lawQ (i : Nat) : Stmt := nthQ PySem.Challenge.pw_dm0066_07.main.body i
/-- the same program, its statements by their place -/
 def pwP : Program := { PySem.Challenge.pw_dm0066_07 with main := { PySem.Challenge.pw_dm0066_07.main with body := [lawQ 0, lawQ 1, lawQ 2, lawQ 3, lawQ 4, lawQ 5, lawQ 6, lawQ 7, lawQ 8, lawQ 9, lawQ 10, lawQ 11, lawQ 12] } }
 def rwP : OpenLaw := { prog := pwP, name := Str.ofString "law", about := [Str.ofString "HtmlDiff", Str.ofString "_tab_newline_replace"], foot := 4, most := some 63, bound := none, writes := false }
noncomputable def K1 (P : Params) : Frag := [(3, { cls := Value.type "dict", data := Data.dict #[{ hash := PyData.keyHash P (Str.ofString "__name__"), key := Value.str (Str.ofString "__name__") 165, val := Value.str (Str.ofString "law_dm0066_07") 360 }, { hash := PyData.keyHash P (Str.ofString "__doc__"), key := Value.str (Str.ofString "__doc__") 166, val := Value.none }, { hash := PyData.keyHash P (Str.ofString "__package__"), key := Value.str (Str.ofString "__package__") 167, val := Value.none }, { hash := PyData.keyHash P (Str.ofString "__loader__"), key := Value.str (Str.ofString "__loader__") 168, val := Value.builtin "__main__.__loader__#opaque" }, { hash := PyData.keyHash P (Str.ofString "__spec__"), key := Value.str (Str.ofString "__spec__") 169, val := Value.none }, { hash := PyData.keyHash P (Str.ofString "__annotations__"), key := Value.str (Str.ofString "__annotations__") 170, val := Value.ref 6 }, { hash := PyData.keyHash P (Str.ofString "__builtins__"), key := Value.str (Str.ofString "__builtins__") 171, val := Value.ref 4 }, { hash := PyData.keyHash P (Str.ofString "__file__"), key := Value.str (Str.ofString "__file__") 173, val := Value.str (Str.ofString "/claim/cut.py") 172 }, { hash := PyData.keyHash P (Str.ofString "__cached__"), key := Value.str (Str.ofString "__cached__") 174, val := Value.none }, { hash := PyData.keyHash P (Str.ofString "_wall"), key := Value.str (Str.ofString "_wall") 193, val := Value.ref 21 }, { hash := PyData.keyHash P (Str.ofString "IS_CHARACTER_JUNK"), key := Value.str (Str.ofString "IS_CHARACTER_JUNK") 204, val := Value.ref 29 }, { hash := PyData.keyHash P (Str.ofString "file_template_difflib"), key := Value.str (Str.ofString "file_template_difflib") 206, val := Value.str (asS (lawS 3)) 205 }, { hash := PyData.keyHash P (Str.ofString "styles_difflib"), key := Value.str (Str.ofString "styles_difflib") 208, val := Value.str (asS (lawS 4)) 207 }, { hash := PyData.keyHash P (Str.ofString "table_template_difflib"), key := Value.str (Str.ofString "table_template_difflib") 210, val := Value.str (asS (lawS 5)) 209 }, { hash := PyData.keyHash P (Str.ofString "legend_difflib"), key := Value.str (Str.ofString "legend_difflib") 212, val := Value.str (asS (lawS 6)) 211 }, { hash := PyData.keyHash P (Str.ofString "HtmlDiff"), key := Value.str (Str.ofString "HtmlDiff") 359, val := Value.ref 111 }, { hash := PyData.keyHash P (Str.ofString "_law_lines"), key := Value.str (Str.ofString "_law_lines") 373, val := Value.ref 122 }, { hash := PyData.keyHash P (Str.ofString "_law_screen"), key := Value.str (Str.ofString "_law_screen") 379, val := Value.ref 127 }, { hash := PyData.keyHash P (Str.ofString "_law_seen"), key := Value.str (Str.ofString "_law_seen") 391, val := Value.ref 134 }, { hash := PyData.keyHash P (Str.ofString "law"), key := Value.str (Str.ofString "law") 397, val := Value.ref 139 }] 20 }),
  (37, { cls := Value.type "tuple", data := Data.seq #[Value.int 8 231, Value.none, Value.none, Value.ref 29] }),
  (43, { cls := Value.type "code", data := Data.fields #[Value.str (Str.ofString "__init__") 232, Value.str (Str.ofString "HtmlDiff.__init__") 233, Value.str (Str.ofString "/claim/cut.py") 234, Value.int 18 0, Value.int 5 0, Value.int 0 0, Value.int 0 0, Value.int 3 0, Value.ref 38, Value.bool Bool.true, Value.int 181 0, Value.ref 39, Value.none, Value.ref 40, Value.ref 41, Value.ref 42, Value.int 240 0, Value.int 18 0, Value.str (Str.ofString "/claim/cut.py") 241] }),
  (44, fnO (nthS (clB (lawS 7)) 5) (Str.ofString "HtmlDiff.__init__") (Value.ref 37) (Value.none) (Value.none) (Value.str (Str.ofString "cpy313.difflib") 194) (Option.none) (Value.ref 43) (Value.none)),
  (57, { cls := Value.type "code", data := Data.fields #[Value.str (Str.ofString "_tab_newline_replace") 262, Value.str (Str.ofString "HtmlDiff._tab_newline_replace") 263, Value.str (Str.ofString "/claim/cut.py") 264, Value.int 27 0, Value.int 3 0, Value.int 0 0, Value.int 0 0, Value.int 3 0, Value.ref 54, Value.bool Bool.true, Value.int 181 0, Value.ref 55, Value.none, Value.none, Value.none, Value.ref 56, Value.int 265 0, Value.int 27 0, Value.str (Str.ofString "/claim/cut.py") 266] }),
  (58, fnO (nthS (clB (lawS 7)) 7) (Str.ofString "HtmlDiff._tab_newline_replace") (Value.none) (Value.none) (Value.none) (Value.str (Str.ofString "cpy313.difflib") 194) (Option.none) (Value.ref 57) (Value.none)),
  (64, { cls := Value.type "code", data := Data.fields #[Value.str (Str.ofString "_split_line") 268, Value.str (Str.ofString "HtmlDiff._split_line") 269, Value.str (Str.ofString "/claim/cut.py") 270, Value.int 38 0, Value.int 4 0, Value.int 0 0, Value.int 0 0, Value.int 3 0, Value.ref 59, Value.bool Bool.true, Value.int 181 0, Value.ref 60, Value.none, Value.ref 61, Value.ref 62, Value.ref 63, Value.int 282 0, Value.int 38 0, Value.str (Str.ofString "/claim/cut.py") 283] }),
  (65, fnO (nthS (clB (lawS 7)) 8) (Str.ofString "HtmlDiff._split_line") (Value.none) (Value.none) (Value.none) (Value.str (Str.ofString "cpy313.difflib") 194) (Option.none) (Value.ref 64) (Value.none)),
  (85, { cls := Value.type "code", data := Data.fields #[Value.str (Str.ofString "_format_line") 301, Value.str (Str.ofString "HtmlDiff._format_line") 302, Value.str (Str.ofString "/claim/cut.py") 303, Value.int 75 0, Value.int 5 0, Value.int 0 0, Value.int 0 0, Value.int 3 0, Value.ref 80, Value.bool Bool.true, Value.int 181 0, Value.ref 81, Value.none, Value.ref 82, Value.ref 83, Value.ref 84, Value.int 310 0, Value.int 75 0, Value.str (Str.ofString "/claim/cut.py") 311] }),
  (86, fnO (nthS (clB (lawS 7)) 11) (Str.ofString "HtmlDiff._format_line") (Value.none) (Value.none) (Value.none) (Value.str (Str.ofString "cpy313.difflib") 194) (Option.none) (Value.ref 85) (Value.none)),
  (110, { cls := Value.type "dict", data := Data.dict #[{ hash := PyData.keyHash P (Str.ofString "__module__"), key := Value.str (Str.ofString "__module__") 220, val := Value.str (Str.ofString "cpy313.difflib") 194 }, { hash := PyData.keyHash P (Str.ofString "__firstlineno__"), key := Value.str (Str.ofString "__firstlineno__") 224, val := Value.int 11 223 }, { hash := PyData.keyHash P (Str.ofString "_file_template"), key := Value.str (Str.ofString "_file_template") 225, val := Value.str (asS (lawS 3)) 205 }, { hash := PyData.keyHash P (Str.ofString "_styles"), key := Value.str (Str.ofString "_styles") 226, val := Value.str (asS (lawS 4)) 207 }, { hash := PyData.keyHash P (Str.ofString "_table_template"), key := Value.str (Str.ofString "_table_template") 227, val := Value.str (asS (lawS 5)) 209 }, { hash := PyData.keyHash P (Str.ofString "_legend"), key := Value.str (Str.ofString "_legend") 228, val := Value.str (asS (lawS 6)) 211 }, { hash := PyData.keyHash P (Str.ofString "_default_prefix"), key := Value.str (Str.ofString "_default_prefix") 230, val := Value.int 0 229 }, { hash := PyData.keyHash P (Str.ofString "__init__"), key := Value.str (Str.ofString "__init__") 242, val := Value.ref 44 }, { hash := PyData.keyHash P (Str.ofString "make_file"), key := Value.str (Str.ofString "make_file") 261, val := Value.ref 53 }, { hash := PyData.keyHash P (Str.ofString "_tab_newline_replace"), key := Value.str (Str.ofString "_tab_newline_replace") 267, val := Value.ref 58 }, { hash := PyData.keyHash P (Str.ofString "_split_line"), key := Value.str (Str.ofString "_split_line") 284, val := Value.ref 65 }, { hash := PyData.keyHash P (Str.ofString "_line_wrapper"), key := Value.str (Str.ofString "_line_wrapper") 292, val := Value.ref 72 }, { hash := PyData.keyHash P (Str.ofString "_collect_lines"), key := Value.str (Str.ofString "_collect_lines") 300, val := Value.ref 79 }, { hash := PyData.keyHash P (Str.ofString "_format_line"), key := Value.str (Str.ofString "_format_line") 312, val := Value.ref 86 }, { hash := PyData.keyHash P (Str.ofString "_make_prefix"), key := Value.str (Str.ofString "_make_prefix") 319, val := Value.ref 93 }, { hash := PyData.keyHash P (Str.ofString "_convert_flags"), key := Value.str (Str.ofString "_convert_flags") 331, val := Value.ref 100 }, { hash := PyData.keyHash P (Str.ofString "make_table"), key := Value.str (Str.ofString "make_table") 347, val := Value.ref 108 }, { hash := PyData.keyHash P (Str.ofString "__static_attributes__"), key := Value.str (Str.ofString "__static_attributes__") 352, val := Value.ref 109 }, { hash := PyData.keyHash P (Str.ofString "__dict__"), key := Value.str (Str.ofString "__dict__") 354, val := Value.ref 112 }, { hash := PyData.keyHash P (Str.ofString "__weakref__"), key := Value.str (Str.ofString "__weakref__") 356, val := Value.ref 113 }, { hash := PyData.keyHash P (Str.ofString "__doc__"), key := Value.str (Str.ofString "__doc__") 357, val := Value.none }] 4 }),
  (111, { cls := Value.type "type", data := Data.cls { name := Str.ofString "HtmlDiff", bases := [Value.type "object"], mro := [Value.ref 111, Value.type "object"], ns := 110, qualname := Str.ofString "HtmlDiff" }, slots := #[Option.some (Value.ref 30), Option.none, Option.some (Value.str (Str.ofString "HtmlDiff") 213), Option.some (Value.str (Str.ofString "HtmlDiff") 221), Option.some (Value.builtin "object.__new__"), Option.some (Value.bool Bool.true)] }),
  (121, { cls := Value.type "code", data := Data.fields #[Value.str (Str.ofString "_law_lines") 362, Value.str (Str.ofString "_law_lines") 363, Value.str (Str.ofString "/claim/cut.py") 364, Value.int 94 0, Value.int 1 0, Value.int 0 0, Value.int 0 0, Value.int 3 0, Value.ref 116, Value.bool Bool.true, Value.int 181 0, Value.ref 117, Value.none, Value.ref 118, Value.ref 119, Value.ref 120, Value.int 371 0, Value.int 94 0, Value.str (Str.ofString "/claim/cut.py") 372] }),
  (122, fnO (lawS 9) (Str.ofString "_law_lines") (Value.none) (Value.none) (Value.none) (Value.str (Str.ofString "law_dm0066_07") 360) (Option.none) (Value.ref 121) (Value.none)),
  (126, { cls := Value.type "code", data := Data.fields #[Value.str (Str.ofString "_law_screen") 374, Value.str (Str.ofString "_law_screen") 375, Value.str (Str.ofString "/claim/cut.py") 376, Value.int 107 0, Value.int 3 0, Value.int 0 0, Value.int 0 0, Value.int 3 0, Value.ref 123, Value.bool Bool.true, Value.int 181 0, Value.ref 124, Value.none, Value.none, Value.none, Value.ref 125, Value.int 377 0, Value.int 107 0, Value.str (Str.ofString "/claim/cut.py") 378] }),
  (127, fnO (lawS 10) (Str.ofString "_law_screen") (Value.none) (Value.none) (Value.none) (Value.str (Str.ofString "law_dm0066_07") 360) (Option.none) (Value.ref 126) (Value.none)),
  (133, { cls := Value.type "code", data := Data.fields #[Value.str (Str.ofString "_law_seen") 380, Value.str (Str.ofString "_law_seen") 381, Value.str (Str.ofString "/claim/cut.py") 382, Value.int 123 0, Value.int 1 0, Value.int 0 0, Value.int 0 0, Value.int 3 0, Value.ref 128, Value.bool Bool.true, Value.int 181 0, Value.ref 129, Value.none, Value.ref 130, Value.ref 131, Value.ref 132, Value.int 389 0, Value.int 123 0, Value.str (Str.ofString "/claim/cut.py") 390] }),
  (134, fnO (lawS 11) (Str.ofString "_law_seen") (Value.none) (Value.none) (Value.none) (Value.str (Str.ofString "law_dm0066_07") 360) (Option.none) (Value.ref 133) (Value.none)),
  (138, { cls := Value.type "code", data := Data.fields #[Value.str (Str.ofString "law") 392, Value.str (Str.ofString "law") 393, Value.str (Str.ofString "/claim/cut.py") 394, Value.int 135 0, Value.int 1 0, Value.int 0 0, Value.int 0 0, Value.int 3 0, Value.ref 135, Value.bool Bool.true, Value.int 181 0, Value.ref 136, Value.none, Value.none, Value.none, Value.ref 137, Value.int 395 0, Value.int 135 0, Value.str (Str.ofString "/claim/cut.py") 396] }),
  (139, fnO (lawS 12) (Str.ofString "law") (Value.none) (Value.none) (Value.none) (Value.str (Str.ofString "law_dm0066_07") 360) (Option.none) (Value.ref 138) (Value.none))]
section
variable {W : Wd} {A : Around} {env : Env} {own : Own}
theorem l07_0 : lit (Str.ofString "") = [] := by decide +kernel
theorem l07_1 : lit (Str.ofString "a") = [97] := by decide +kernel
theorem l07_2 : lit (Str.ofString " ") = [32] := by decide +kernel
theorem l07_3 : lit (Str.ofString "b") = [98] := by decide +kernel
theorem l07_4 : lit (Str.ofString "&") = [38] := by decide +kernel
theorem l07_5 : lit (Str.ofString "\t") = [9] := by decide +kernel
theorem l07_6 : lit (Str.ofString "<") = [60] := by decide +kernel
theorem l07_7 : lit (Str.ofString "\x00+") = [0, 43] := by decide +kernel
theorem l07_8 : lit (Str.ofString ">") = [62] := by decide +kernel
theorem l07_9 : lit (Str.ofString "&lt;") = [38, 108, 116, 59] := by decide +kernel
theorem l07_10 : lit (Str.ofString "\x00") = [0] := by decide +kernel
theorem l07_11 : lit (Str.ofString "yz") = [121, 122] := by decide +kernel
theorem l07_12 : lit (Str.ofString "\"") = [34] := by decide +kernel
theorem l07_13 : lit (Str.ofString "\n") = [10] := by decide +kernel
theorem l07_14 : lit (Str.ofString "\r\n") = [13, 10] := by decide +kernel
theorem l07_15 : lit (Str.ofString "\n\n") = [10, 10] := by decide +kernel
theorem l07_16 : lit (Str.ofString "\r") = [13] := by decide +kernel
theorem l07_17 : lit (Str.ofString "<> ") = [60, 62, 32] := by decide +kernel
theorem l07_18 : lit (Str.ofString ";") = [59] := by decide +kernel
theorem l07_19 : lit (Str.ofString "amp;") = [97, 109, 112, 59] := by decide +kernel
theorem l07_20 : lit (Str.ofString "lt;") = [108, 116, 59] := by decide +kernel
theorem l07_21 : lit (Str.ofString "gt;") = [103, 116, 59] := by decide +kernel
theorem l07_22 : lit (Str.ofString "nbsp;") = [110, 98, 115, 112, 59] := by decide +kernel
theorem l07_23 : lit (Str.ofString "&<> ") = [38, 60, 62, 32] := by decide +kernel
theorem l07_24 : lit (Str.ofString "from2_") = [102, 114, 111, 109, 50, 95] := by decide +kernel
theorem l07_25 : lit (Str.ofString "to2_") = [116, 111, 50, 95] := by decide +kernel
theorem l07_26 : lit (Str.ofString " id=\"") = [32, 105, 100, 61, 34] := by decide +kernel
theorem l07_27 : lit (Str.ofString "<td class=\"diff_header\"") = [60, 116, 100, 32, 99, 108, 97, 115, 115, 61, 34, 100, 105, 102, 102, 95, 104, 101, 97, 100, 101, 114, 34] := by decide +kernel
theorem l07_28 : lit (Str.ofString "</td><td nowrap=\"nowrap\">") = [60, 47, 116, 100, 62, 60, 116, 100, 32, 110, 111, 119, 114, 97, 112, 61, 34, 110, 111, 119, 114, 97, 112, 34, 62] := by decide +kernel
theorem l07_29 : lit (Str.ofString "</td>") = [60, 47, 116, 100, 62] := by decide +kernel
theorem l07_30 : lit (Str.ofString "\t\r") = [9, 13] := by decide +kernel
theorem l07_31 : lit (Str.ofString "%d") = [37, 100] := by decide +kernel
theorem l07_32 : lit (Str.ofString "&amp;") = [38, 97, 109, 112, 59] := by decide +kernel
theorem l07_33 : lit (Str.ofString "&gt;") = [38, 103, 116, 59] := by decide +kernel
theorem l07_34 : lit (Str.ofString "&nbsp;") = [38, 110, 98, 115, 112, 59] := by decide +kernel
theorem l07_35 : lit (Str.ofString "\x01") = [1] := by decide +kernel
theorem l07_36 : lit (Str.ofString "\">") = [34, 62] := by decide +kernel
noncomputable abbrev K07 (W : Wd) : Prop := W.K = K1 W.w.params

/-! ### the tabs of a line -/
theorem cls07 (hK : K07 W) : ClsOk W.K 111 := by
  refine ⟨?_, ?_, ?_, ?_, ?_, ?_⟩ <;> rw [hK] <;> rfl
/-- what expand_tabs gives -/
noncomputable def expT (n : Int) (l : List Nat) : List Nat := rstripL (fun c => [10].contains c) (repl 0 [32] (repl 32 [9] (expandL n.toNat 0 (repl 32 [0] l))))
theorem expandL_len (n : Nat) : ∀ (l : List Nat) (col : Nat), (expandL n col l).length ≤ l.length * max n 1
  | [], _ => by simp [expandL]
  | c :: l, col => by
    rw [expandL, List.length_cons, Nat.add_mul, Nat.one_mul]
    split
    · have h1 : (if 0 < n then n - col % n else 0) ≤ max n 1 := by split <;> (first | decide | exact Nat.le_trans (by assumption) (by decide) | lia | omega)
      have := expandL_len n l (col + if 0 < n then n - col % n else 0)
      rw [List.length_append, List.length_replicate]; (first | decide | exact Nat.le_trans (by assumption) (by decide) | lia | omega)
    · have := expandL_len n l (if c = 10 ∨ c = 13 then 0 else col + 1)
      rw [List.length_cons]; (first | decide | exact Nat.le_trans (by assumption) (by decide) | lia | omega)
theorem repl1_len (c d : Nat) (l : List Nat) : (repl c [d] l).length = l.length := by
  unfold repl
  induction l with
  | nil => rfl
  | cons a l ih => rw [List.flatMap_cons, List.length_append, ih, List.length_cons]; split <;> simp <;> (first | decide | exact Nat.le_trans (by assumption) (by decide) | lia | omega)
theorem rstripL_len (p : Nat → Bool) (l : List Nat) : (rstripL p l).length ≤ l.length := by unfold rstripL; rw [List.length_take]; (first | decide | exact Nat.le_trans (by assumption) (by decide) | lia | omega)
noncomputable abbrev tabsPos : Pos := ⟨29, 8, 33, 57⟩
noncomputable abbrev tabsQual : Str := Str.ofString "HtmlDiff._tab_newline_replace.<locals>.expand_tabs"




theorem c_tabs (hK : K07 W) (hh : A.handled = none) (hd : A.depth + 2 < recursionLimit) {x dx : Addr} {loc : List (Str × V)} {n : Int} (hx : (x, Ob.obj (instObj 111 dx)) ∈ own) (hdx : (dx, Ob.att loc) ∈ own) (hn : (Str.ofString "_tabsize", V.int n) ∈ loc)
    (htab : (55, Ob.prop (TabP tabsPos tabsQual)) ∈ own) (hn1 : -(100 : Int) ≤ n) (hn2 : n ≤ 100) {N : Nat} {ls1 ls2 : List (List Nat)} (h1 : ∀ l ∈ ls1, l.length ≤ N) (h2 : ∀ l ∈ ls2, l.length ≤ N) (hN : N * max n.toNat 1 ≤ 100000) (hl1 : ls1.length ≤ 1000) (hl2 : ls2.length ≤ 1000) :
    SLC W A (.ref 58) [.ref x, .lst (ls1.map fun l => .str (S l)), .lst (ls2.map fun l => .str (S l))] own (fun r o => r = .tup [.list (ls1.map fun l => .str (S (expT n l))), .list (ls2.map fun l => .str (S (expT n l)))] ∧ o = own) := by
  refine' do_callE [Str.ofString "self", Str.ofString "fromlines", Str.ofString "tolines"] [(Str.ofString "fromlines", .lst (ls1.map fun l => .str (S l))), (Str.ofString "tolines", .lst (ls2.map fun l => .str (S l)))]
    [(Str.ofString "expand_tabs", 2, none), (Str.ofString "self", 1, some (.ref x))] ?ho ?hcd (by omega) ?hb ?hcl ?ndc ?hkind ?hbind ?h ?c1 ?c2 ?c3
  case ho => exact K_of hK rfl
  case hcd => rw [hK]; rfl
  case hb => intro s vs _ hl; obtain ⟨_, _, _, rfl⟩ := len_3 hl; exact BindsTo.of_eq rfl
  case hcl => intro L; rfl
  case ndc => (first | dsimp only [List.map_cons, List.map_nil] | simp only [List.map_cons, List.map_nil]); decide +kernel
  case hkind => (first | dsimp only [List.map_cons, List.map_nil] | simp only [List.map_cons, List.map_nil]); decide +kernel
  case hbind =>
    intro fz vs L r
    cases r with | cons r1 r => cases r with | cons r2 r => cases r with | cons r3 r => cases r; exact ⟨⟨⟨_, rfl, r2⟩, ⟨_, rfl, r3⟩, trivial⟩, rfl, ⟨_, rfl, r1⟩, trivial⟩
  case c1 => rfl
  case c2 => rfl
  case c3 => rfl
  intro L
  dsimp only [lawS, nthS, fdB, fdS, clB, PySem.Challenge.pw_dm0066_07]
  (first | dsimp only [List.map_cons, List.map_nil, List.cons_append, List.nil_append] | simp only [List.map_cons, List.map_nil, List.cons_append, List.nil_append])
  refine @deeper_gen W A _ _ _ _ _ hh ?_
  intro A' hh' hd' hu'
  refine SXs_cons ?_
  refine SX_Def (qual := tabsQual) (by kernel_rfl) ?_
  refine make_fn (clos := [(Str.ofString "self", L + 1)]) rfl rfl rfl (by rw [hK]; rfl) (P := 55) (Upd.self (by (with_reducible repeat first | exact List.mem_cons_self | refine List.mem_cons_of_mem _ ?_ | assumption | exact mem_mid' | exact mem_mid (by assumption)))) fun f => ?_
  refine SS_cell rfl rfl rfl (by (with_reducible repeat first | exact Upd.here | exact Upd.mid | apply Upd.there)) ?_
  refine SXs_cons ?_
  refine SX_AssignCompMap (α := List Nat) hh' rfl (by decide +kernel) rfl (by decide +kernel) rfl ?_
  refine SE_Name ?_ (by decide +kernel)
  refine SN_loc rfl rfl (by (with_reducible repeat first | exact List.mem_cons_self | refine List.mem_cons_of_mem _ ?_ | assumption | exact mem_mid' | exact mem_mid (by assumption))) (by with_reducible rfl) (by (with_reducible repeat first | exact List.mem_cons_self | refine List.mem_cons_of_mem _ ?_ | assumption | exact mem_mid' | exact mem_mid (by assumption))) ?_
  refine it_list fun it => ⟨it, _, _, rfl, rfl, fun l => V.str (S l), fun _ => true, fun l => .str (S (expT n l)), ls1, by rw [List.map_map]; rfl, by ((rw [sizeLine_eq]; (try simp only [List.length_append, List.length_cons, List.length_nil, List.length_map]); (first | decide | exact Nat.le_trans (by assumption) (by decide) | lia | omega))), ?_, ?_⟩
  · intro C D it3 l r ys hl
    have hl1 := h1 l hl
    have e1 : l.length * max n.toNat 1 ≤ 100000 := Nat.le_trans (Nat.mul_le_mul_right _ hl1) hN
    have e2 : l.length ≤ 100000 := by
      have h1 : l.length * 1 ≤ l.length * max n.toNat 1 := Nat.mul_le_mul_left _ (by (first | decide | exact Nat.le_trans (by assumption) (by decide) | lia | omega))
      (first | decide | exact Nat.le_trans (by assumption) (by decide) | lia | omega)
    have e3 := expandL_len n.toNat (repl 32 [0] l) 0
    rw [repl1_len] at e3
    refine SA_Name ?_
    refine SS_loc rfl rfl (by (with_reducible repeat first | exact List.mem_cons_self | refine List.mem_cons_of_mem _ ?_ | assumption | exact mem_mid' | exact mem_mid (by assumption))) (by with_reducible rfl) (by (with_reducible repeat first | exact Put.here | exact Put.new | apply Put.there)) (by ((first | (dsimp only [List.map_cons, List.map_nil]; decide +kernel) | (simp only [List.map_cons, List.map_nil]; decide +kernel)))) (by (with_reducible repeat first | exact Upd.here | exact Upd.mid | apply Upd.there)) ?_
    refine STs_nil ?_
    refine ⟨rfl, ?_⟩
    rw [if_pos rfl]
    refine SE_Call ?_
    refine SE_Name ?_ (by decide +kernel)
    refine SN_cell rfl rfl rfl (by (with_reducible repeat first | exact List.mem_cons_self | refine List.mem_cons_of_mem _ ?_ | assumption | exact mem_mid' | exact mem_mid (by assumption))) ?_
    with_reducible refine ⟨_, rfl, ?_⟩
    refine SEs_cons ?_
    refine SE_Name ?_ (by decide +kernel)
    refine SN_loc rfl rfl (by (with_reducible repeat first | exact List.mem_cons_self | refine List.mem_cons_of_mem _ ?_ | assumption | exact mem_mid' | exact mem_mid (by assumption))) (by with_reducible rfl) (by (with_reducible repeat first | exact List.mem_cons_self | refine List.mem_cons_of_mem _ ?_ | assumption | exact mem_mid' | exact mem_mid (by assumption))) ?_
    refine SEs_nil ?_
    refine ⟨kp_fn (by (with_reducible repeat first | exact List.mem_cons_self | refine List.mem_cons_of_mem _ ?_ | assumption | exact mem_mid' | exact mem_mid (by assumption))), SLC.call ?_⟩
    refine' do_callN [Str.ofString "line"] (by decide) (by simp) (by (with_reducible repeat first | exact List.mem_cons_self | refine List.mem_cons_of_mem _ ?_ | assumption | exact mem_mid' | exact mem_mid (by assumption))) (by (first | decide | exact Nat.le_trans (by assumption) (by decide) | lia | omega)) ?hb ?hloc ?nd ?hh2 ?c1 ?c2 ?c3 ?c4
    case hb => intro s vs doc pm c' ctv hl; obtain ⟨_, rfl⟩ := len_1 hl; exact BindsTo.of_eq rfl
    case hloc => decide +kernel
    case nd => decide +kernel
    case c1 => rfl
    case c2 => rfl
    case c3 => rfl
    case c4 => decide +kernel
    intro L2 cdv
    simp only [List.zip_cons_cons, List.zip_nil_right]
    have hK' : K07 W.up := hK
    refine SXs_cons ?_
    refine SX_Assign ?_
    refine SE_Replace (Nat.le_refl _) (by (first | exact l07_0 | exact l07_1 | exact l07_2 | exact l07_3 | exact l07_4 | exact l07_5 | exact l07_6 | exact l07_7 | exact l07_8 | exact l07_9 | exact l07_10 | exact l07_11 | exact l07_12 | exact l07_13 | exact l07_14 | exact l07_15 | exact l07_16 | exact l07_17 | exact l07_18 | exact l07_19 | exact l07_20 | exact l07_21 | exact l07_22 | exact l07_23 | exact l07_24 | exact l07_25 | exact l07_26 | exact l07_27 | exact l07_28 | exact l07_29 | exact l07_30 | exact l07_31 | exact l07_32 | exact l07_33 | exact l07_34 | exact l07_35 | exact l07_36)) (by (first | exact l07_0 | exact l07_1 | exact l07_2 | exact l07_3 | exact l07_4 | exact l07_5 | exact l07_6 | exact l07_7 | exact l07_8 | exact l07_9 | exact l07_10 | exact l07_11 | exact l07_12 | exact l07_13 | exact l07_14 | exact l07_15 | exact l07_16 | exact l07_17 | exact l07_18 | exact l07_19 | exact l07_20 | exact l07_21 | exact l07_22 | exact l07_23 | exact l07_24 | exact l07_25 | exact l07_26 | exact l07_27 | exact l07_28 | exact l07_29 | exact l07_30 | exact l07_31 | exact l07_32 | exact l07_33 | exact l07_34 | exact l07_35 | exact l07_36)) (by decide +kernel) (by decide +kernel) ?_
    refine SE_Name ?_ (by decide +kernel)
    refine SN_loc rfl rfl (by (with_reducible repeat first | exact List.mem_cons_self | refine List.mem_cons_of_mem _ ?_ | assumption | exact mem_mid' | exact mem_mid (by assumption))) (by with_reducible rfl) (by (with_reducible repeat first | exact List.mem_cons_self | refine List.mem_cons_of_mem _ ?_ | assumption | exact mem_mid' | exact mem_mid (by assumption))) ?_
    with_reducible refine ⟨_, rfl, ?_⟩
    refine ⟨by (first | (first | decide | exact Nat.le_trans (by assumption) (by decide) | lia | omega) | (simp only [List.length_append, List.length_cons, List.length_nil, repl1_len]; (first | decide | exact Nat.le_trans (by assumption) (by decide) | lia | omega))), ?_⟩
    refine SS_loc rfl rfl (by (with_reducible repeat first | exact List.mem_cons_self | refine List.mem_cons_of_mem _ ?_ | assumption | exact mem_mid' | exact mem_mid (by assumption))) (by with_reducible rfl) (by (with_reducible repeat first | exact Put.here | exact Put.new | apply Put.there)) (by ((first | (dsimp only [List.map_cons, List.map_nil]; decide +kernel) | (simp only [List.map_cons, List.map_nil]; decide +kernel)))) (by (with_reducible repeat first | exact Upd.here | exact Upd.mid | apply Upd.there)) ?_
    refine SXs_cons ?_
    refine SX_Assign ?_
    refine SE_Meth ?_
    refine SE_Name ?_ (by decide +kernel)
    refine SN_loc rfl rfl (by (with_reducible repeat first | exact List.mem_cons_self | refine List.mem_cons_of_mem _ ?_ | assumption | exact mem_mid' | exact mem_mid (by assumption))) (by with_reducible rfl) (by (with_reducible repeat first | exact List.mem_cons_self | refine List.mem_cons_of_mem _ ?_ | assumption | exact mem_mid' | exact mem_mid (by assumption))) ?_
    refine mth_str (fun t s P h => gm_expand h) ?_
    refine SEs_cons ?_
    refine SE_Attribute ?_
    refine SE_Name ?_ (by decide +kernel)
    refine SN_free rfl rfl rfl (by (with_reducible repeat first | exact List.mem_cons_self | refine List.mem_cons_of_mem _ ?_ | assumption | exact mem_mid' | exact mem_mid (by assumption))) ?_ (by decide +kernel)
    refine get_att (cls07 hK') (by (with_reducible repeat first | exact List.mem_cons_self | refine List.mem_cons_of_mem _ ?_ | assumption | exact mem_mid' | exact mem_mid (by assumption))) (by (with_reducible repeat first | exact List.mem_cons_self | refine List.mem_cons_of_mem _ ?_ | assumption | exact mem_mid' | exact mem_mid (by assumption))) hn (by rw [hK']; rfl) handed_int ?_
    refine SEs_nil ?_
    with_reducible refine ⟨kp_builtin, ?_⟩
    refine call_expand (by (first | decide | exact Nat.le_trans (by assumption) (by decide) | lia | omega)) (by (first | decide | exact Nat.le_trans (by assumption) (by decide) | lia | omega)) (by rw [sizeLine_eq]; (first | decide | exact Nat.le_trans (by assumption) (by decide) | lia | omega)) ?_
    refine SS_loc rfl rfl (by (with_reducible repeat first | exact List.mem_cons_self | refine List.mem_cons_of_mem _ ?_ | assumption | exact mem_mid' | exact mem_mid (by assumption))) (by with_reducible rfl) (by (with_reducible repeat first | exact Put.here | exact Put.new | apply Put.there)) (by ((first | (dsimp only [List.map_cons, List.map_nil]; decide +kernel) | (simp only [List.map_cons, List.map_nil]; decide +kernel)))) (by (with_reducible repeat first | exact Upd.here | exact Upd.mid | apply Upd.there)) ?_
    refine SXs_cons ?_
    refine SX_Assign ?_
    refine SE_Replace (Nat.le_refl _) (by (first | exact l07_0 | exact l07_1 | exact l07_2 | exact l07_3 | exact l07_4 | exact l07_5 | exact l07_6 | exact l07_7 | exact l07_8 | exact l07_9 | exact l07_10 | exact l07_11 | exact l07_12 | exact l07_13 | exact l07_14 | exact l07_15 | exact l07_16 | exact l07_17 | exact l07_18 | exact l07_19 | exact l07_20 | exact l07_21 | exact l07_22 | exact l07_23 | exact l07_24 | exact l07_25 | exact l07_26 | exact l07_27 | exact l07_28 | exact l07_29 | exact l07_30 | exact l07_31 | exact l07_32 | exact l07_33 | exact l07_34 | exact l07_35 | exact l07_36)) (by (first | exact l07_0 | exact l07_1 | exact l07_2 | exact l07_3 | exact l07_4 | exact l07_5 | exact l07_6 | exact l07_7 | exact l07_8 | exact l07_9 | exact l07_10 | exact l07_11 | exact l07_12 | exact l07_13 | exact l07_14 | exact l07_15 | exact l07_16 | exact l07_17 | exact l07_18 | exact l07_19 | exact l07_20 | exact l07_21 | exact l07_22 | exact l07_23 | exact l07_24 | exact l07_25 | exact l07_26 | exact l07_27 | exact l07_28 | exact l07_29 | exact l07_30 | exact l07_31 | exact l07_32 | exact l07_33 | exact l07_34 | exact l07_35 | exact l07_36)) (by decide +kernel) (by decide +kernel) ?_
    refine SE_Name ?_ (by decide +kernel)
    refine SN_loc rfl rfl (by (with_reducible repeat first | exact List.mem_cons_self | refine List.mem_cons_of_mem _ ?_ | assumption | exact mem_mid' | exact mem_mid (by assumption))) (by with_reducible rfl) (by (with_reducible repeat first | exact List.mem_cons_self | refine List.mem_cons_of_mem _ ?_ | assumption | exact mem_mid' | exact mem_mid (by assumption))) ?_
    with_reducible refine ⟨_, rfl, ?_⟩
    refine ⟨by (first | (first | decide | exact Nat.le_trans (by assumption) (by decide) | lia | omega) | (simp only [List.length_append, List.length_cons, List.length_nil, repl1_len]; (first | decide | exact Nat.le_trans (by assumption) (by decide) | lia | omega))), ?_⟩
    refine SS_loc rfl rfl (by (with_reducible repeat first | exact List.mem_cons_self | refine List.mem_cons_of_mem _ ?_ | assumption | exact mem_mid' | exact mem_mid (by assumption))) (by with_reducible rfl) (by (with_reducible repeat first | exact Put.here | exact Put.new | apply Put.there)) (by ((first | (dsimp only [List.map_cons, List.map_nil]; decide +kernel) | (simp only [List.map_cons, List.map_nil]; decide +kernel)))) (by (with_reducible repeat first | exact Upd.here | exact Upd.mid | apply Upd.there)) ?_
    refine SXs_cons ?_
    refine SX_Return ?_
    refine SE_Meth ?_
    refine SE_Replace (Nat.le_refl _) (by (first | exact l07_0 | exact l07_1 | exact l07_2 | exact l07_3 | exact l07_4 | exact l07_5 | exact l07_6 | exact l07_7 | exact l07_8 | exact l07_9 | exact l07_10 | exact l07_11 | exact l07_12 | exact l07_13 | exact l07_14 | exact l07_15 | exact l07_16 | exact l07_17 | exact l07_18 | exact l07_19 | exact l07_20 | exact l07_21 | exact l07_22 | exact l07_23 | exact l07_24 | exact l07_25 | exact l07_26 | exact l07_27 | exact l07_28 | exact l07_29 | exact l07_30 | exact l07_31 | exact l07_32 | exact l07_33 | exact l07_34 | exact l07_35 | exact l07_36)) (by (first | exact l07_0 | exact l07_1 | exact l07_2 | exact l07_3 | exact l07_4 | exact l07_5 | exact l07_6 | exact l07_7 | exact l07_8 | exact l07_9 | exact l07_10 | exact l07_11 | exact l07_12 | exact l07_13 | exact l07_14 | exact l07_15 | exact l07_16 | exact l07_17 | exact l07_18 | exact l07_19 | exact l07_20 | exact l07_21 | exact l07_22 | exact l07_23 | exact l07_24 | exact l07_25 | exact l07_26 | exact l07_27 | exact l07_28 | exact l07_29 | exact l07_30 | exact l07_31 | exact l07_32 | exact l07_33 | exact l07_34 | exact l07_35 | exact l07_36)) (by decide +kernel) (by decide +kernel) ?_
    refine SE_Name ?_ (by decide +kernel)
    refine SN_loc rfl rfl (by (with_reducible repeat first | exact List.mem_cons_self | refine List.mem_cons_of_mem _ ?_ | assumption | exact mem_mid' | exact mem_mid (by assumption))) (by with_reducible rfl) (by (with_reducible repeat first | exact List.mem_cons_self | refine List.mem_cons_of_mem _ ?_ | assumption | exact mem_mid' | exact mem_mid (by assumption))) ?_
    with_reducible refine ⟨_, rfl, ?_⟩
    refine ⟨by (first | (first | decide | exact Nat.le_trans (by assumption) (by decide) | lia | omega) | (simp only [List.length_append, List.length_cons, List.length_nil, repl1_len]; (first | decide | exact Nat.le_trans (by assumption) (by decide) | lia | omega))), ?_⟩
    refine mth_str (fun t s P h => GM.rstrip h) ?_
    refine SEs_cons ?_
    refine SE_strL (by (first | exact l07_0 | exact l07_1 | exact l07_2 | exact l07_3 | exact l07_4 | exact l07_5 | exact l07_6 | exact l07_7 | exact l07_8 | exact l07_9 | exact l07_10 | exact l07_11 | exact l07_12 | exact l07_13 | exact l07_14 | exact l07_15 | exact l07_16 | exact l07_17 | exact l07_18 | exact l07_19 | exact l07_20 | exact l07_21 | exact l07_22 | exact l07_23 | exact l07_24 | exact l07_25 | exact l07_26 | exact l07_27 | exact l07_28 | exact l07_29 | exact l07_30 | exact l07_31 | exact l07_32 | exact l07_33 | exact l07_34 | exact l07_35 | exact l07_36)) ?_
    refine SEs_nil ?_
    with_reducible refine ⟨kp_builtin, ?_⟩
    refine call_rstripC (by rw [sizeLine_eq]; simp only [repl1_len]; (first | decide | exact Nat.le_trans (by assumption) (by decide) | lia | omega)) ?_
    exact ⟨_, .drop .refl, rfl, by (with_reducible repeat first | exact Wk.refl | exact Wk.nil | refine Wk.keep ObW.refl ?_ | refine Wk.keep (ObW.ns (by (with_reducible repeat first | exact List.Sublist.refl _ | exact List.nil_sublist _ | apply List.Sublist.cons_cons | apply List.Sublist.cons))) ?_ | apply Wk.drop)⟩
  rw [show ls1.filter (fun _ => true) = ls1 from List.filter_eq_self.mpr fun _ _ => rfl]
  intro C
  refine SS_loc (L := L) rfl rfl (by (with_reducible repeat first | exact List.mem_cons_self | refine List.mem_cons_of_mem _ ?_ | assumption | exact mem_mid' | exact mem_mid (by assumption))) rfl (by (with_reducible repeat first | exact Put.here | exact Put.new | apply Put.there)) (by ((first | (dsimp only [List.map_cons, List.map_nil]; decide +kernel) | (simp only [List.map_cons, List.map_nil]; decide +kernel)))) (by (with_reducible repeat first | exact Upd.here | exact Upd.mid | apply Upd.there)) ?_
  refine ⟨_, by (with_reducible repeat first | exact Wk.refl | exact Wk.nil | refine Wk.keep ObW.refl ?_ | refine Wk.keep (ObW.ns (by (with_reducible repeat first | exact List.Sublist.refl _ | exact List.nil_sublist _ | apply List.Sublist.cons_cons | apply List.Sublist.cons))) ?_ | apply Wk.drop), ?_⟩
  refine SXs_cons ?_
  refine SX_AssignCompMap (α := List Nat) hh' rfl (by decide +kernel) rfl (by decide +kernel) rfl ?_
  refine SE_Name ?_ (by decide +kernel)
  refine SN_loc rfl rfl (by (with_reducible repeat first | exact List.mem_cons_self | refine List.mem_cons_of_mem _ ?_ | assumption | exact mem_mid' | exact mem_mid (by assumption))) (by with_reducible rfl) (by (with_reducible repeat first | exact List.mem_cons_self | refine List.mem_cons_of_mem _ ?_ | assumption | exact mem_mid' | exact mem_mid (by assumption))) ?_
  refine it_list fun it => ⟨it, _, _, rfl, rfl, fun l => V.str (S l), fun _ => true, fun l => .str (S (expT n l)), ls2, by rw [List.map_map]; rfl, by ((rw [sizeLine_eq]; (try simp only [List.length_append, List.length_cons, List.length_nil, List.length_map]); (first | decide | exact Nat.le_trans (by assumption) (by decide) | lia | omega))), ?_, ?_⟩
  · intro C D it3 l r ys hl
    have hl1 := h2 l hl
    have e1 : l.length * max n.toNat 1 ≤ 100000 := Nat.le_trans (Nat.mul_le_mul_right _ hl1) hN
    have e2 : l.length ≤ 100000 := by
      have h1 : l.length * 1 ≤ l.length * max n.toNat 1 := Nat.mul_le_mul_left _ (by (first | decide | exact Nat.le_trans (by assumption) (by decide) | lia | omega))
      (first | decide | exact Nat.le_trans (by assumption) (by decide) | lia | omega)
    have e3 := expandL_len n.toNat (repl 32 [0] l) 0
    rw [repl1_len] at e3
    refine SA_Name ?_
    refine SS_loc rfl rfl (by (with_reducible repeat first | exact List.mem_cons_self | refine List.mem_cons_of_mem _ ?_ | assumption | exact mem_mid' | exact mem_mid (by assumption))) (by with_reducible rfl) (by (with_reducible repeat first | exact Put.here | exact Put.new | apply Put.there)) (by ((first | (dsimp only [List.map_cons, List.map_nil]; decide +kernel) | (simp only [List.map_cons, List.map_nil]; decide +kernel)))) (by (with_reducible repeat first | exact Upd.here | exact Upd.mid | apply Upd.there)) ?_
    refine STs_nil ?_
    refine ⟨rfl, ?_⟩
    rw [if_pos rfl]
    refine SE_Call ?_
    refine SE_Name ?_ (by decide +kernel)
    refine SN_cell rfl rfl rfl (by (with_reducible repeat first | exact List.mem_cons_self | refine List.mem_cons_of_mem _ ?_ | assumption | exact mem_mid' | exact mem_mid (by assumption))) ?_
    with_reducible refine ⟨_, rfl, ?_⟩
    refine SEs_cons ?_
    refine SE_Name ?_ (by decide +kernel)
    refine SN_loc rfl rfl (by (with_reducible repeat first | exact List.mem_cons_self | refine List.mem_cons_of_mem _ ?_ | assumption | exact mem_mid' | exact mem_mid (by assumption))) (by with_reducible rfl) (by (with_reducible repeat first | exact List.mem_cons_self | refine List.mem_cons_of_mem _ ?_ | assumption | exact mem_mid' | exact mem_mid (by assumption))) ?_
    refine SEs_nil ?_
    refine ⟨kp_fn (by (with_reducible repeat first | exact List.mem_cons_self | refine List.mem_cons_of_mem _ ?_ | assumption | exact mem_mid' | exact mem_mid (by assumption))), SLC.call ?_⟩
    refine' do_callN [Str.ofString "line"] (by decide) (by simp) (by (with_reducible repeat first | exact List.mem_cons_self | refine List.mem_cons_of_mem _ ?_ | assumption | exact mem_mid' | exact mem_mid (by assumption))) (by (first | decide | exact Nat.le_trans (by assumption) (by decide) | lia | omega)) ?hb ?hloc ?nd ?hh3 ?c1 ?c2 ?c3 ?c4
    case hb => intro s vs doc pm c' ctv hl; obtain ⟨_, rfl⟩ := len_1 hl; exact BindsTo.of_eq rfl
    case hloc => decide +kernel
    case nd => decide +kernel
    case c1 => rfl
    case c2 => rfl
    case c3 => rfl
    case c4 => decide +kernel
    intro L2 cdv
    simp only [List.zip_cons_cons, List.zip_nil_right]
    have hK' : K07 W.up := hK
    refine SXs_cons ?_
    refine SX_Assign ?_
    refine SE_Replace (Nat.le_refl _) (by (first | exact l07_0 | exact l07_1 | exact l07_2 | exact l07_3 | exact l07_4 | exact l07_5 | exact l07_6 | exact l07_7 | exact l07_8 | exact l07_9 | exact l07_10 | exact l07_11 | exact l07_12 | exact l07_13 | exact l07_14 | exact l07_15 | exact l07_16 | exact l07_17 | exact l07_18 | exact l07_19 | exact l07_20 | exact l07_21 | exact l07_22 | exact l07_23 | exact l07_24 | exact l07_25 | exact l07_26 | exact l07_27 | exact l07_28 | exact l07_29 | exact l07_30 | exact l07_31 | exact l07_32 | exact l07_33 | exact l07_34 | exact l07_35 | exact l07_36)) (by (first | exact l07_0 | exact l07_1 | exact l07_2 | exact l07_3 | exact l07_4 | exact l07_5 | exact l07_6 | exact l07_7 | exact l07_8 | exact l07_9 | exact l07_10 | exact l07_11 | exact l07_12 | exact l07_13 | exact l07_14 | exact l07_15 | exact l07_16 | exact l07_17 | exact l07_18 | exact l07_19 | exact l07_20 | exact l07_21 | exact l07_22 | exact l07_23 | exact l07_24 | exact l07_25 | exact l07_26 | exact l07_27 | exact l07_28 | exact l07_29 | exact l07_30 | exact l07_31 | exact l07_32 | exact l07_33 | exact l07_34 | exact l07_35 | exact l07_36)) (by decide +kernel) (by decide +kernel) ?_
    refine SE_Name ?_ (by decide +kernel)
    refine SN_loc rfl rfl (by (with_reducible repeat first | exact List.mem_cons_self | refine List.mem_cons_of_mem _ ?_ | assumption | exact mem_mid' | exact mem_mid (by assumption))) (by with_reducible rfl) (by (with_reducible repeat first | exact List.mem_cons_self | refine List.mem_cons_of_mem _ ?_ | assumption | exact mem_mid' | exact mem_mid (by assumption))) ?_
    with_reducible refine ⟨_, rfl, ?_⟩
    refine ⟨by (first | (first | decide | exact Nat.le_trans (by assumption) (by decide) | lia | omega) | (simp only [List.length_append, List.length_cons, List.length_nil, repl1_len]; (first | decide | exact Nat.le_trans (by assumption) (by decide) | lia | omega))), ?_⟩
    refine SS_loc rfl rfl (by (with_reducible repeat first | exact List.mem_cons_self | refine List.mem_cons_of_mem _ ?_ | assumption | exact mem_mid' | exact mem_mid (by assumption))) (by with_reducible rfl) (by (with_reducible repeat first | exact Put.here | exact Put.new | apply Put.there)) (by ((first | (dsimp only [List.map_cons, List.map_nil]; decide +kernel) | (simp only [List.map_cons, List.map_nil]; decide +kernel)))) (by (with_reducible repeat first | exact Upd.here | exact Upd.mid | apply Upd.there)) ?_
    refine SXs_cons ?_
    refine SX_Assign ?_
    refine SE_Meth ?_
    refine SE_Name ?_ (by decide +kernel)
    refine SN_loc rfl rfl (by (with_reducible repeat first | exact List.mem_cons_self | refine List.mem_cons_of_mem _ ?_ | assumption | exact mem_mid' | exact mem_mid (by assumption))) (by with_reducible rfl) (by (with_reducible repeat first | exact List.mem_cons_self | refine List.mem_cons_of_mem _ ?_ | assumption | exact mem_mid' | exact mem_mid (by assumption))) ?_
    refine mth_str (fun t s P h => gm_expand h) ?_
    refine SEs_cons ?_
    refine SE_Attribute ?_
    refine SE_Name ?_ (by decide +kernel)
    refine SN_free rfl rfl rfl (by (with_reducible repeat first | exact List.mem_cons_self | refine List.mem_cons_of_mem _ ?_ | assumption | exact mem_mid' | exact mem_mid (by assumption))) ?_ (by decide +kernel)
    refine get_att (cls07 hK') (by (with_reducible repeat first | exact List.mem_cons_self | refine List.mem_cons_of_mem _ ?_ | assumption | exact mem_mid' | exact mem_mid (by assumption))) (by (with_reducible repeat first | exact List.mem_cons_self | refine List.mem_cons_of_mem _ ?_ | assumption | exact mem_mid' | exact mem_mid (by assumption))) hn (by rw [hK']; rfl) handed_int ?_
    refine SEs_nil ?_
    with_reducible refine ⟨kp_builtin, ?_⟩
    refine call_expand (by (first | decide | exact Nat.le_trans (by assumption) (by decide) | lia | omega)) (by (first | decide | exact Nat.le_trans (by assumption) (by decide) | lia | omega)) (by rw [sizeLine_eq]; (first | decide | exact Nat.le_trans (by assumption) (by decide) | lia | omega)) ?_
    refine SS_loc rfl rfl (by (with_reducible repeat first | exact List.mem_cons_self | refine List.mem_cons_of_mem _ ?_ | assumption | exact mem_mid' | exact mem_mid (by assumption))) (by with_reducible rfl) (by (with_reducible repeat first | exact Put.here | exact Put.new | apply Put.there)) (by ((first | (dsimp only [List.map_cons, List.map_nil]; decide +kernel) | (simp only [List.map_cons, List.map_nil]; decide +kernel)))) (by (with_reducible repeat first | exact Upd.here | exact Upd.mid | apply Upd.there)) ?_
    refine SXs_cons ?_
    refine SX_Assign ?_
    refine SE_Replace (Nat.le_refl _) (by (first | exact l07_0 | exact l07_1 | exact l07_2 | exact l07_3 | exact l07_4 | exact l07_5 | exact l07_6 | exact l07_7 | exact l07_8 | exact l07_9 | exact l07_10 | exact l07_11 | exact l07_12 | exact l07_13 | exact l07_14 | exact l07_15 | exact l07_16 | exact l07_17 | exact l07_18 | exact l07_19 | exact l07_20 | exact l07_21 | exact l07_22 | exact l07_23 | exact l07_24 | exact l07_25 | exact l07_26 | exact l07_27 | exact l07_28 | exact l07_29 | exact l07_30 | exact l07_31 | exact l07_32 | exact l07_33 | exact l07_34 | exact l07_35 | exact l07_36)) (by (first | exact l07_0 | exact l07_1 | exact l07_2 | exact l07_3 | exact l07_4 | exact l07_5 | exact l07_6 | exact l07_7 | exact l07_8 | exact l07_9 | exact l07_10 | exact l07_11 | exact l07_12 | exact l07_13 | exact l07_14 | exact l07_15 | exact l07_16 | exact l07_17 | exact l07_18 | exact l07_19 | exact l07_20 | exact l07_21 | exact l07_22 | exact l07_23 | exact l07_24 | exact l07_25 | exact l07_26 | exact l07_27 | exact l07_28 | exact l07_29 | exact l07_30 | exact l07_31 | exact l07_32 | exact l07_33 | exact l07_34 | exact l07_35 | exact l07_36)) (by decide +kernel) (by decide +kernel) ?_
    refine SE_Name ?_ (by decide +kernel)
    refine SN_loc rfl rfl (by (with_reducible repeat first | exact List.mem_cons_self | refine List.mem_cons_of_mem _ ?_ | assumption | exact mem_mid' | exact mem_mid (by assumption))) (by with_reducible rfl) (by (with_reducible repeat first | exact List.mem_cons_self | refine List.mem_cons_of_mem _ ?_ | assumption | exact mem_mid' | exact mem_mid (by assumption))) ?_
    with_reducible refine ⟨_, rfl, ?_⟩
    refine ⟨by (first | (first | decide | exact Nat.le_trans (by assumption) (by decide) | lia | omega) | (simp only [List.length_append, List.length_cons, List.length_nil, repl1_len]; (first | decide | exact Nat.le_trans (by assumption) (by decide) | lia | omega))), ?_⟩
    refine SS_loc rfl rfl (by (with_reducible repeat first | exact List.mem_cons_self | refine List.mem_cons_of_mem _ ?_ | assumption | exact mem_mid' | exact mem_mid (by assumption))) (by with_reducible rfl) (by (with_reducible repeat first | exact Put.here | exact Put.new | apply Put.there)) (by ((first | (dsimp only [List.map_cons, List.map_nil]; decide +kernel) | (simp only [List.map_cons, List.map_nil]; decide +kernel)))) (by (with_reducible repeat first | exact Upd.here | exact Upd.mid | apply Upd.there)) ?_
    refine SXs_cons ?_
    refine SX_Return ?_
    refine SE_Meth ?_
    refine SE_Replace (Nat.le_refl _) (by (first | exact l07_0 | exact l07_1 | exact l07_2 | exact l07_3 | exact l07_4 | exact l07_5 | exact l07_6 | exact l07_7 | exact l07_8 | exact l07_9 | exact l07_10 | exact l07_11 | exact l07_12 | exact l07_13 | exact l07_14 | exact l07_15 | exact l07_16 | exact l07_17 | exact l07_18 | exact l07_19 | exact l07_20 | exact l07_21 | exact l07_22 | exact l07_23 | exact l07_24 | exact l07_25 | exact l07_26 | exact l07_27 | exact l07_28 | exact l07_29 | exact l07_30 | exact l07_31 | exact l07_32 | exact l07_33 | exact l07_34 | exact l07_35 | exact l07_36)) (by (first | exact l07_0 | exact l07_1 | exact l07_2 | exact l07_3 | exact l07_4 | exact l07_5 | exact l07_6 | exact l07_7 | exact l07_8 | exact l07_9 | exact l07_10 | exact l07_11 | exact l07_12 | exact l07_13 | exact l07_14 | exact l07_15 | exact l07_16 | exact l07_17 | exact l07_18 | exact l07_19 | exact l07_20 | exact l07_21 | exact l07_22 | exact l07_23 | exact l07_24 | exact l07_25 | exact l07_26 | exact l07_27 | exact l07_28 | exact l07_29 | exact l07_30 | exact l07_31 | exact l07_32 | exact l07_33 | exact l07_34 | exact l07_35 | exact l07_36)) (by decide +kernel) (by decide +kernel) ?_
    refine SE_Name ?_ (by decide +kernel)
    refine SN_loc rfl rfl (by (with_reducible repeat first | exact List.mem_cons_self | refine List.mem_cons_of_mem _ ?_ | assumption | exact mem_mid' | exact mem_mid (by assumption))) (by with_reducible rfl) (by (with_reducible repeat first | exact List.mem_cons_self | refine List.mem_cons_of_mem _ ?_ | assumption | exact mem_mid' | exact mem_mid (by assumption))) ?_
    with_reducible refine ⟨_, rfl, ?_⟩
    refine ⟨by (first | (first | decide | exact Nat.le_trans (by assumption) (by decide) | lia | omega) | (simp only [List.length_append, List.length_cons, List.length_nil, repl1_len]; (first | decide | exact Nat.le_trans (by assumption) (by decide) | lia | omega))), ?_⟩
    refine mth_str (fun t s P h => GM.rstrip h) ?_
    refine SEs_cons ?_
    refine SE_strL (by (first | exact l07_0 | exact l07_1 | exact l07_2 | exact l07_3 | exact l07_4 | exact l07_5 | exact l07_6 | exact l07_7 | exact l07_8 | exact l07_9 | exact l07_10 | exact l07_11 | exact l07_12 | exact l07_13 | exact l07_14 | exact l07_15 | exact l07_16 | exact l07_17 | exact l07_18 | exact l07_19 | exact l07_20 | exact l07_21 | exact l07_22 | exact l07_23 | exact l07_24 | exact l07_25 | exact l07_26 | exact l07_27 | exact l07_28 | exact l07_29 | exact l07_30 | exact l07_31 | exact l07_32 | exact l07_33 | exact l07_34 | exact l07_35 | exact l07_36)) ?_
    refine SEs_nil ?_
    with_reducible refine ⟨kp_builtin, ?_⟩
    refine call_rstripC (by rw [sizeLine_eq]; simp only [repl1_len]; (first | decide | exact Nat.le_trans (by assumption) (by decide) | lia | omega)) ?_
    exact ⟨_, .drop .refl, rfl, by (with_reducible repeat first | exact Wk.refl | exact Wk.nil | refine Wk.keep ObW.refl ?_ | refine Wk.keep (ObW.ns (by (with_reducible repeat first | exact List.Sublist.refl _ | exact List.nil_sublist _ | apply List.Sublist.cons_cons | apply List.Sublist.cons))) ?_ | apply Wk.drop)⟩
  rw [show ls2.filter (fun _ => true) = ls2 from List.filter_eq_self.mpr fun _ _ => rfl]
  intro C
  refine SS_loc (L := L) rfl rfl (by (with_reducible repeat first | exact List.mem_cons_self | refine List.mem_cons_of_mem _ ?_ | assumption | exact mem_mid' | exact mem_mid (by assumption))) rfl (by (with_reducible repeat first | exact Put.here | exact Put.new | apply Put.there)) (by ((first | (dsimp only [List.map_cons, List.map_nil]; decide +kernel) | (simp only [List.map_cons, List.map_nil]; decide +kernel)))) (by (with_reducible repeat first | exact Upd.here | exact Upd.mid | apply Upd.there)) ?_
  refine ⟨_, by (with_reducible repeat first | exact Wk.refl | exact Wk.nil | refine Wk.keep ObW.refl ?_ | refine Wk.keep (ObW.ns (by (with_reducible repeat first | exact List.Sublist.refl _ | exact List.nil_sublist _ | apply List.Sublist.cons_cons | apply List.Sublist.cons))) ?_ | apply Wk.drop), ?_⟩
  refine SXs_cons ?_
  refine SX_Return ?_
  refine SE_TupleF ?_
  refine SEs_cons ?_
  refine SE_Name ?_ (by decide +kernel)
  refine SN_loc rfl rfl (by (with_reducible repeat first | exact List.mem_cons_self | refine List.mem_cons_of_mem _ ?_ | assumption | exact mem_mid' | exact mem_mid (by assumption))) (by with_reducible rfl) (by (with_reducible repeat first | exact List.mem_cons_self | refine List.mem_cons_of_mem _ ?_ | assumption | exact mem_mid' | exact mem_mid (by assumption))) ?_
  refine SEs_cons ?_
  refine SE_Name ?_ (by decide +kernel)
  refine SN_loc rfl rfl (by (with_reducible repeat first | exact List.mem_cons_self | refine List.mem_cons_of_mem _ ?_ | assumption | exact mem_mid' | exact mem_mid (by assumption))) (by with_reducible rfl) (by (with_reducible repeat first | exact List.mem_cons_self | refine List.mem_cons_of_mem _ ?_ | assumption | exact mem_mid' | exact mem_mid (by assumption))) ?_
  refine SEs_nil ?_
  with_reducible refine ⟨_, by with_reducible ((first | exact AllDat.map _ | repeat first | exact AllDat.nil | with_reducible apply AllDat.cons)), by ((rw [sizeLine_eq]; simp)), ?_⟩
  exact ⟨_, by (with_reducible repeat first | exact Wk.refl | exact Wk.nil | refine Wk.keep ObW.refl ?_ | refine Wk.keep (ObW.ns (by (with_reducible repeat first | exact List.Sublist.refl _ | exact List.nil_sublist _ | apply List.Sublist.cons_cons | apply List.Sublist.cons))) ?_ | apply Wk.drop), rfl, rfl⟩
/-! ### the splitter, of a line without marks -/
noncomputable def pcF (w : Nat) : Nat → List Nat → List (List Nat)
  | 0, l => [l]
  | f + 1, l => if l.length ≤ w then [l] else l.take w :: pcF w f (l.drop w)
theorem pcF_len (w : Nat) (hw : 0 < w) : ∀ (f : Nat) (l : List Nat), (pcF w f l).length ≤ l.length + 1
  | 0, l => by simp [pcF]
  | f + 1, l => by
    rw [pcF]
    split
    · simp
    · have := pcF_len w hw f (l.drop w)
      rw [List.length_drop] at this
      rw [List.length_cons]; (first | decide | exact Nat.le_trans (by assumption) (by decide) | lia | omega)
noncomputable def rowsD (num : PyData) : List (List Nat) → List PyData
  | [] => []
  | p :: r => .tuple [num, .str (S p)] :: r.map fun q => .tuple [.str (S [62]), .str (S q)]
theorem rows_cons (num : PyData) (p : List Nat) (ps : List (List Nat)) (l : List V) : l ++ [V.tup [num, .str (S p)]] ++ (rowsD (.str (S [62])) ps).map V.dat = l ++ (rowsD num (p :: ps)).map V.dat := by
  have e : rowsD (.str (S [62])) ps = ps.map fun q => .tuple [.str (S [62]), .str (S q)] := by cases ps <;> rfl
  rw [e, List.append_assoc]; rfl
theorem cutL_take (l : List Nat) (w : Nat) : cutL l none (some (w : Int)) = l.take w := by
  unfold cutL
  simp only [Option.elim, clipAt_nat, List.drop_zero, Nat.sub_zero]
  rcases Nat.le_total w l.length with h | h
  · rw [Nat.min_eq_left h]
  · rw [Nat.min_eq_right h, List.take_of_length_le (Nat.le_refl _), List.take_of_length_le h]
theorem cutL_drop (l : List Nat) (w : Nat) : cutL l (some (w : Int)) none = l.drop w := by
  unfold cutL
  simp only [Option.elim, clipAt_nat]
  rcases Nat.le_total w l.length with h | h
  · rw [Nat.min_eq_left h, List.take_of_length_le (by rw [List.length_drop]; (first | decide | exact Nat.le_trans (by assumption) (by decide) | lia | omega))]
  · rw [Nat.min_eq_right h, List.drop_of_length_le (Nat.le_refl _), List.drop_of_length_le h]; simp
theorem at_nat {l : List Nat} {j : Nat} (h : j < l.length) : ∃ c, l[place (j : Int) l.length]? = some c ∧ c ∈ l := by
  unfold place
  rw [if_neg (by (first | decide | exact Nat.le_trans (by assumption) (by decide) | lia | omega))]
  refine ⟨l[j], by rw [show ((j : Nat) : Int).toNat = j by (first | decide | exact Nat.le_trans (by assumption) (by decide) | lia | omega), List.getElem?_eq_getElem h], List.getElem_mem h⟩
theorem c_split (hK : K07 W) {w : Nat} (hw : 0 < w) : ∀ (f : Nat) {text : List Nat}, text.length < f → (∀ c ∈ text, c ≠ 0 ∧ c ≠ 1) → ∀ {A : Around} {pre post : Own} {D x dx : Addr} {l : List V} {loc : List (Str × V)} {num : PyData}
    (hnum : ∀ (W : Wd) (A : Around) (own : Own) (Q : Bool → Own → Prop), Q true own → S1 W A RB truthy (.dat num) own Q)
    (hh : A.handled = none) (hd : A.depth + (text.length + 1) < recursionLimit) (h1 : (x, Ob.obj (instObj 111 dx)) ∈ pre ++ post) (h2 : (dx, Ob.att loc) ∈ pre ++ post) (h3 : (Str.ofString "_wrapcolumn", V.int w) ∈ loc)
    (h4 : Str.ofString "_split_line" ∉ loc.map (·.1)) (hz : text.length ≤ 100000) (hl : l.length + text.length ≤ 100000),
    SLC W A (.ref 65) [.ref x, .ref D, .dat num, .str (S text)] (pre ++ (D, .list l) :: post) (fun r o => r = .none ∧ o = pre ++ (D, .list (l ++ (rowsD num (pcF w f text)).map V.dat)) :: post) := by
  intro f
  induction f with
  | zero => intro text hf; exact absurd hf (Nat.not_lt_zero _)
  | succ f ih =>
    intro text hf hno A pre post D x dx l loc num hnum hh hd h1 h2 h3 h4 hz hl
    refine' do_callC [Str.ofString "self", Str.ofString "data_list", Str.ofString "line_num", Str.ofString "text"] ?ho ?hcd (by omega) ?hb ?hloc ?nd ?hh4 ?c1 ?c2 ?c3 ?c4
    case ho => exact K_of hK rfl
    case hcd => rw [hK]; rfl
    case hb => intro s vs _ hl; obtain ⟨_, _, _, _, rfl⟩ := len_4 hl; exact BindsTo.of_eq rfl
    case hloc => decide +kernel
    case nd => decide +kernel
    case c1 => rfl
    case c2 => rfl
    case c3 => rfl
    case c4 => decide +kernel
    intro L
    dsimp only [lawS, nthS, fdB, fdS, clB, PySem.Challenge.pw_dm0066_07]
    simp only [List.zip_cons_cons, List.zip_nil_right]
    have hcount : text.count 0 = 0 := List.count_eq_zero.mpr fun h => (hno 0 h).1 rfl
    refine SXs_cons ?_
    refine SX_If ?_
    refine ST_not ?_
    refine ST_plain ?_
    refine SE_Name ?_ (by decide +kernel)
    refine SN_loc rfl rfl (by (with_reducible repeat first | exact List.mem_cons_self | refine List.mem_cons_of_mem _ ?_ | assumption | exact mem_mid' | exact mem_mid (by assumption))) (by with_reducible rfl) (by (with_reducible repeat first | exact List.mem_cons_self | refine List.mem_cons_of_mem _ ?_ | assumption | exact mem_mid' | exact mem_mid (by assumption))) ?_
    refine hnum _ _ _ _ ?_
    with_reducible refine ite_nt ?_
    refine SXs_nil ?_
    refine SXs_cons ?_
    refine SX_Assign ?_
    refine SE_Call ?_
    refine SE_Name ?_ (by decide +kernel)
    refine SN_builtin rfl rfl rfl rfl (nsIn_of (by assumption) rfl) rfl (by decide +kernel) ?_
    with_reducible refine ⟨_, rfl, ?_⟩
    refine SEs_cons ?_
    refine SE_Name ?_ (by decide +kernel)
    refine SN_loc rfl rfl (by (with_reducible repeat first | exact List.mem_cons_self | refine List.mem_cons_of_mem _ ?_ | assumption | exact mem_mid' | exact mem_mid (by assumption))) (by with_reducible rfl) (by (with_reducible repeat first | exact List.mem_cons_self | refine List.mem_cons_of_mem _ ?_ | assumption | exact mem_mid' | exact mem_mid (by assumption))) ?_
    refine SEs_nil ?_
    with_reducible refine ⟨kp_builtin, ?_⟩
    refine call_lenS (by ((rw [sizeLine_eq]; (try simp only [List.length_append, List.length_cons, List.length_nil, List.length_map]); (first | decide | exact Nat.le_trans (by assumption) (by decide) | lia | omega)))) ?_
    refine SS_loc rfl rfl (by (with_reducible repeat first | exact List.mem_cons_self | refine List.mem_cons_of_mem _ ?_ | assumption | exact mem_mid' | exact mem_mid (by assumption))) (by with_reducible rfl) (by (with_reducible repeat first | exact Put.here | exact Put.new | apply Put.there)) (by ((first | (dsimp only [List.map_cons, List.map_nil]; decide +kernel) | (simp only [List.map_cons, List.map_nil]; decide +kernel)))) (by (with_reducible repeat first | exact Upd.here | exact Upd.mid | apply Upd.there)) ?_
    refine SXs_cons ?_
    refine SX_Assign ?_
    refine SE_Attribute ?_
    refine SE_Name ?_ (by decide +kernel)
    refine SN_loc rfl rfl (by (with_reducible repeat first | exact List.mem_cons_self | refine List.mem_cons_of_mem _ ?_ | assumption | exact mem_mid' | exact mem_mid (by assumption))) (by with_reducible rfl) (by (with_reducible repeat first | exact List.mem_cons_self | refine List.mem_cons_of_mem _ ?_ | assumption | exact mem_mid' | exact mem_mid (by assumption))) ?_
    refine get_att (cls07 hK) (by (with_reducible repeat first | exact List.mem_cons_self | refine List.mem_cons_of_mem _ ?_ | assumption | exact mem_mid' | exact mem_mid (by assumption))) (by (with_reducible repeat first | exact List.mem_cons_self | refine List.mem_cons_of_mem _ ?_ | assumption | exact mem_mid' | exact mem_mid (by assumption))) h3 (by rw [hK]; rfl) handed_int ?_
    refine SS_loc rfl rfl (by (with_reducible repeat first | exact List.mem_cons_self | refine List.mem_cons_of_mem _ ?_ | assumption | exact mem_mid' | exact mem_mid (by assumption))) (by with_reducible rfl) (by (with_reducible repeat first | exact Put.here | exact Put.new | apply Put.there)) (by ((first | (dsimp only [List.map_cons, List.map_nil]; decide +kernel) | (simp only [List.map_cons, List.map_nil]; decide +kernel)))) (by (with_reducible repeat first | exact Upd.here | exact Upd.mid | apply Upd.there)) ?_
    refine SXs_cons ?_
    refine SX_If ?_
    refine SG_or ?_
    refine ST_Compare ?_
    refine SE_Name ?_ (by decide +kernel)
    refine SN_loc rfl rfl (by (with_reducible repeat first | exact List.mem_cons_self | refine List.mem_cons_of_mem _ ?_ | assumption | exact mem_mid' | exact mem_mid (by assumption))) (by with_reducible rfl) (by (with_reducible repeat first | exact List.mem_cons_self | refine List.mem_cons_of_mem _ ?_ | assumption | exact mem_mid' | exact mem_mid (by assumption))) ?_
    refine SE_Name ?_ (by decide +kernel)
    refine SN_loc rfl rfl (by (with_reducible repeat first | exact List.mem_cons_self | refine List.mem_cons_of_mem _ ?_ | assumption | exact mem_mid' | exact mem_mid (by assumption))) (by with_reducible rfl) (by (with_reducible repeat first | exact List.mem_cons_self | refine List.mem_cons_of_mem _ ?_ | assumption | exact mem_mid' | exact mem_mid (by assumption))) ?_
    with_reducible refine cmp_le ?_
    with_reducible refine tr_bool ?_
    refine ite_dec (fun h5 => ?_) (fun h5 => ?_)
    · with_reducible refine ite_tt' ?_
      refine SXs_cons ?_
      refine SX_Expr ?_
      refine SE_Meth ?_
      refine SE_Name ?_ (by decide +kernel)
      refine SN_loc rfl rfl (by (with_reducible repeat first | exact List.mem_cons_self | refine List.mem_cons_of_mem _ ?_ | assumption | exact mem_mid' | exact mem_mid (by assumption))) (by with_reducible rfl) (by (with_reducible repeat first | exact List.mem_cons_self | refine List.mem_cons_of_mem _ ?_ | assumption | exact mem_mid' | exact mem_mid (by assumption))) ?_
      refine mth_list (by (with_reducible repeat first | exact List.mem_cons_self | refine List.mem_cons_of_mem _ ?_ | assumption | exact mem_mid' | exact mem_mid (by assumption))) PySem.F.slot_list_append PySem.F.type_list_append ?_
      refine SEs_cons ?_
      refine SE_TupleF ?_
      refine SEs_cons ?_
      refine SE_Name ?_ (by decide +kernel)
      refine SN_loc rfl rfl (by (with_reducible repeat first | exact List.mem_cons_self | refine List.mem_cons_of_mem _ ?_ | assumption | exact mem_mid' | exact mem_mid (by assumption))) (by with_reducible rfl) (by (with_reducible repeat first | exact List.mem_cons_self | refine List.mem_cons_of_mem _ ?_ | assumption | exact mem_mid' | exact mem_mid (by assumption))) ?_
      refine SEs_cons ?_
      refine SE_Name ?_ (by decide +kernel)
      refine SN_loc rfl rfl (by (with_reducible repeat first | exact List.mem_cons_self | refine List.mem_cons_of_mem _ ?_ | assumption | exact mem_mid' | exact mem_mid (by assumption))) (by with_reducible rfl) (by (with_reducible repeat first | exact List.mem_cons_self | refine List.mem_cons_of_mem _ ?_ | assumption | exact mem_mid' | exact mem_mid (by assumption))) ?_
      refine SEs_nil ?_
      with_reducible refine ⟨_, by with_reducible ((first | exact AllDat.map _ | repeat first | exact AllDat.nil | with_reducible apply AllDat.cons)), by ((rw [sizeLine_eq]; simp)), ?_⟩
      refine SEs_nil ?_
      with_reducible refine ⟨kp_builtin, ?_⟩
      refine call_append (by (with_reducible repeat first | exact Upd.here | exact Upd.mid | apply Upd.there)) (by ((rw [sizeLine_eq]; (try simp only [List.length_append, List.length_cons, List.length_nil, List.length_map]); (first | decide | exact Nat.le_trans (by assumption) (by decide) | lia | omega)))) ?_
      refine SXs_cons ?_
      refine SX_Return0 ?_
      refine ⟨_, .drop .refl, rfl, ?_⟩
      rw [pcF, if_pos (by (first | decide | exact Nat.le_trans (by assumption) (by decide) | lia | omega))]; rfl
    refine SG_or ?_
    refine ST_Compare ?_
    refine SE_BinOp ?_
    refine SE_Name ?_ (by decide +kernel)
    refine SN_loc rfl rfl (by (with_reducible repeat first | exact List.mem_cons_self | refine List.mem_cons_of_mem _ ?_ | assumption | exact mem_mid' | exact mem_mid (by assumption))) (by with_reducible rfl) (by (with_reducible repeat first | exact List.mem_cons_self | refine List.mem_cons_of_mem _ ?_ | assumption | exact mem_mid' | exact mem_mid (by assumption))) ?_
    refine SE_BinOp ?_
    refine SE_Meth ?_
    refine SE_Name ?_ (by decide +kernel)
    refine SN_loc rfl rfl (by (with_reducible repeat first | exact List.mem_cons_self | refine List.mem_cons_of_mem _ ?_ | assumption | exact mem_mid' | exact mem_mid (by assumption))) (by with_reducible rfl) (by (with_reducible repeat first | exact List.mem_cons_self | refine List.mem_cons_of_mem _ ?_ | assumption | exact mem_mid' | exact mem_mid (by assumption))) ?_
    refine mth_str (fun t s P h => GM.count h) ?_
    refine SEs_cons ?_
    refine SE_strL (by (first | exact l07_0 | exact l07_1 | exact l07_2 | exact l07_3 | exact l07_4 | exact l07_5 | exact l07_6 | exact l07_7 | exact l07_8 | exact l07_9 | exact l07_10 | exact l07_11 | exact l07_12 | exact l07_13 | exact l07_14 | exact l07_15 | exact l07_16 | exact l07_17 | exact l07_18 | exact l07_19 | exact l07_20 | exact l07_21 | exact l07_22 | exact l07_23 | exact l07_24 | exact l07_25 | exact l07_26 | exact l07_27 | exact l07_28 | exact l07_29 | exact l07_30 | exact l07_31 | exact l07_32 | exact l07_33 | exact l07_34 | exact l07_35 | exact l07_36)) ?_
    refine SEs_nil ?_
    with_reducible refine ⟨kp_builtin, ?_⟩
    refine call_countS ?_
    refine SE_int ?_
    with_reducible refine op_mulR (by decide) ?_
    with_reducible refine op_sub ?_
    refine SE_Name ?_ (by decide +kernel)
    refine SN_loc rfl rfl (by (with_reducible repeat first | exact List.mem_cons_self | refine List.mem_cons_of_mem _ ?_ | assumption | exact mem_mid' | exact mem_mid (by assumption))) (by with_reducible rfl) (by (with_reducible repeat first | exact List.mem_cons_self | refine List.mem_cons_of_mem _ ?_ | assumption | exact mem_mid' | exact mem_mid (by assumption))) ?_
    with_reducible refine cmp_le ?_
    with_reducible refine tr_bool ?_
    rw [hcount]
    refine ite_dec (fun h6 => absurd h6 (by (first | decide | exact Nat.le_trans (by assumption) (by decide) | lia | omega))) (fun h6 => ?_)
    refine SG_or_nil ?_
    with_reducible refine ite_ff' ?_
    refine SXs_nil ?_
    refine SXs_cons ?_
    refine SX_Assign ?_
    refine SE_int ?_
    refine SS_loc rfl rfl (by (with_reducible repeat first | exact List.mem_cons_self | refine List.mem_cons_of_mem _ ?_ | assumption | exact mem_mid' | exact mem_mid (by assumption))) (by with_reducible rfl) (by (with_reducible repeat first | exact Put.here | exact Put.new | apply Put.there)) (by ((first | (dsimp only [List.map_cons, List.map_nil]; decide +kernel) | (simp only [List.map_cons, List.map_nil]; decide +kernel)))) (by (with_reducible repeat first | exact Upd.here | exact Upd.mid | apply Upd.there)) ?_
    refine SXs_cons ?_
    refine SX_Assign ?_
    refine SE_int ?_
    refine SS_loc rfl rfl (by (with_reducible repeat first | exact List.mem_cons_self | refine List.mem_cons_of_mem _ ?_ | assumption | exact mem_mid' | exact mem_mid (by assumption))) (by with_reducible rfl) (by (with_reducible repeat first | exact Put.here | exact Put.new | apply Put.there)) (by ((first | (dsimp only [List.map_cons, List.map_nil]; decide +kernel) | (simp only [List.map_cons, List.map_nil]; decide +kernel)))) (by (with_reducible repeat first | exact Upd.here | exact Upd.mid | apply Upd.there)) ?_
    refine SXs_cons ?_
    refine SX_Assign ?_
    refine SE_strL (by (first | exact l07_0 | exact l07_1 | exact l07_2 | exact l07_3 | exact l07_4 | exact l07_5 | exact l07_6 | exact l07_7 | exact l07_8 | exact l07_9 | exact l07_10 | exact l07_11 | exact l07_12 | exact l07_13 | exact l07_14 | exact l07_15 | exact l07_16 | exact l07_17 | exact l07_18 | exact l07_19 | exact l07_20 | exact l07_21 | exact l07_22 | exact l07_23 | exact l07_24 | exact l07_25 | exact l07_26 | exact l07_27 | exact l07_28 | exact l07_29 | exact l07_30 | exact l07_31 | exact l07_32 | exact l07_33 | exact l07_34 | exact l07_35 | exact l07_36)) ?_
    refine SS_loc rfl rfl (by (with_reducible repeat first | exact List.mem_cons_self | refine List.mem_cons_of_mem _ ?_ | assumption | exact mem_mid' | exact mem_mid (by assumption))) (by with_reducible rfl) (by (with_reducible repeat first | exact Put.here | exact Put.new | apply Put.there)) (by ((first | (dsimp only [List.map_cons, List.map_nil]; decide +kernel) | (simp only [List.map_cons, List.map_nil]; decide +kernel)))) (by (with_reducible repeat first | exact Upd.here | exact Upd.mid | apply Upd.there)) ?_
    refine SXs_cons ?_
    refine SG.mono (Q := fun fl o => fl = Fl.next ∧
      o = (L, Ob.ns [(Str.ofString "self", V.ref x), (Str.ofString "data_list", V.ref D), (Str.ofString "line_num", V.dat num), (Str.ofString "text", V.str (S text)), (Str.ofString "size", V.int text.length), (Str.ofString "max", V.int w),
        (Str.ofString "i", V.int w), (Str.ofString "n", V.int w), (Str.ofString "mark", V.str (S []))]) :: (pre ++ (D, Ob.list l) :: post))
      (SX_While (fun m o => ∃ j : Nat, j + m = w ∧
      o = (L, Ob.ns [(Str.ofString "self", V.ref x), (Str.ofString "data_list", V.ref D), (Str.ofString "line_num", V.dat num), (Str.ofString "text", V.str (S text)), (Str.ofString "size", V.int text.length), (Str.ofString "max", V.int w),
        (Str.ofString "i", V.int j), (Str.ofString "n", V.int j), (Str.ofString "mark", V.str (S []))]) :: (pre ++ (D, Ob.list l) :: post)) w ?_ ?_) ?_
    · exact ⟨0, by (first | decide | exact Nat.le_trans (by assumption) (by decide) | lia | omega), rfl⟩
    · rintro m o ⟨j, hj, rfl⟩
      refine SG_and ?_
      refine ST_Compare ?_
      refine SE_Name ?_ (by decide +kernel)
      refine SN_loc rfl rfl (by (with_reducible repeat first | exact List.mem_cons_self | refine List.mem_cons_of_mem _ ?_ | assumption | exact mem_mid' | exact mem_mid (by assumption))) (by with_reducible rfl) (by (with_reducible repeat first | exact List.mem_cons_self | refine List.mem_cons_of_mem _ ?_ | assumption | exact mem_mid' | exact mem_mid (by assumption))) ?_
      refine SE_Name ?_ (by decide +kernel)
      refine SN_loc rfl rfl (by (with_reducible repeat first | exact List.mem_cons_self | refine List.mem_cons_of_mem _ ?_ | assumption | exact mem_mid' | exact mem_mid (by assumption))) (by with_reducible rfl) (by (with_reducible repeat first | exact List.mem_cons_self | refine List.mem_cons_of_mem _ ?_ | assumption | exact mem_mid' | exact mem_mid (by assumption))) ?_
      with_reducible refine cmp_lt ?_
      with_reducible refine tr_bool ?_
      refine ite_dec (fun h7 => ?_) (fun h7 => ?_)
      · refine SG_and ?_
        refine ST_Compare ?_
        refine SE_Name ?_ (by decide +kernel)
        refine SN_loc rfl rfl (by (with_reducible repeat first | exact List.mem_cons_self | refine List.mem_cons_of_mem _ ?_ | assumption | exact mem_mid' | exact mem_mid (by assumption))) (by with_reducible rfl) (by (with_reducible repeat first | exact List.mem_cons_self | refine List.mem_cons_of_mem _ ?_ | assumption | exact mem_mid' | exact mem_mid (by assumption))) ?_
        refine SE_Name ?_ (by decide +kernel)
        refine SN_loc rfl rfl (by (with_reducible repeat first | exact List.mem_cons_self | refine List.mem_cons_of_mem _ ?_ | assumption | exact mem_mid' | exact mem_mid (by assumption))) (by with_reducible rfl) (by (with_reducible repeat first | exact List.mem_cons_self | refine List.mem_cons_of_mem _ ?_ | assumption | exact mem_mid' | exact mem_mid (by assumption))) ?_
        with_reducible refine cmp_lt ?_
        with_reducible refine tr_bool ?_
        refine ite_dec (fun h8 => ?_) (fun h8 => absurd h8 (by (first | decide | exact Nat.le_trans (by assumption) (by decide) | lia | omega)))
        obtain ⟨c, hc, hcm⟩ := at_nat (l := text) (j := j) (by (first | decide | exact Nat.le_trans (by assumption) (by decide) | lia | omega))
        have hc0 := hno c hcm
        refine SG_and_nil ?_
        with_reducible refine ite_tt' ?_
        refine SXs_cons ?_
        refine SX_If ?_
        refine ST_Compare ?_
        refine SE_Subscript ?_
        refine SE_Name ?_ (by decide +kernel)
        refine SN_loc rfl rfl (by (with_reducible repeat first | exact List.mem_cons_self | refine List.mem_cons_of_mem _ ?_ | assumption | exact mem_mid' | exact mem_mid (by assumption))) (by with_reducible rfl) (by (with_reducible repeat first | exact List.mem_cons_self | refine List.mem_cons_of_mem _ ?_ | assumption | exact mem_mid' | exact mem_mid (by assumption))) ?_
        refine SE_Name ?_ (by decide +kernel)
        refine SN_loc rfl rfl (by (with_reducible repeat first | exact List.mem_cons_self | refine List.mem_cons_of_mem _ ?_ | assumption | exact mem_mid' | exact mem_mid (by assumption))) (by with_reducible rfl) (by (with_reducible repeat first | exact List.mem_cons_self | refine List.mem_cons_of_mem _ ?_ | assumption | exact mem_mid' | exact mem_mid (by assumption))) ?_
        refine sub_strS (by (first | decide | exact Nat.le_trans (by assumption) (by decide) | lia | omega)) (by (first | decide | exact Nat.le_trans (by assumption) (by decide) | lia | omega)) (by ((rw [sizeLine_eq]; (try simp only [List.length_append, List.length_cons, List.length_nil, List.length_map]); (first | decide | exact Nat.le_trans (by assumption) (by decide) | lia | omega)))) hc ?_
        refine SE_strL (by (first | exact l07_0 | exact l07_1 | exact l07_2 | exact l07_3 | exact l07_4 | exact l07_5 | exact l07_6 | exact l07_7 | exact l07_8 | exact l07_9 | exact l07_10 | exact l07_11 | exact l07_12 | exact l07_13 | exact l07_14 | exact l07_15 | exact l07_16 | exact l07_17 | exact l07_18 | exact l07_19 | exact l07_20 | exact l07_21 | exact l07_22 | exact l07_23 | exact l07_24 | exact l07_25 | exact l07_26 | exact l07_27 | exact l07_28 | exact l07_29 | exact l07_30 | exact l07_31 | exact l07_32 | exact l07_33 | exact l07_34 | exact l07_35 | exact l07_36)) ?_
        with_reducible refine cmp_eqSS ?_
        with_reducible refine tr_bool ?_
        refine ite_dec (fun h9 => absurd (List.cons.inj h9).1 hc0.1) (fun h9 => ?_)
        refine SXs_cons ?_
        refine SX_If ?_
        refine ST_Compare ?_
        refine SE_Subscript ?_
        refine SE_Name ?_ (by decide +kernel)
        refine SN_loc rfl rfl (by (with_reducible repeat first | exact List.mem_cons_self | refine List.mem_cons_of_mem _ ?_ | assumption | exact mem_mid' | exact mem_mid (by assumption))) (by with_reducible rfl) (by (with_reducible repeat first | exact List.mem_cons_self | refine List.mem_cons_of_mem _ ?_ | assumption | exact mem_mid' | exact mem_mid (by assumption))) ?_
        refine SE_Name ?_ (by decide +kernel)
        refine SN_loc rfl rfl (by (with_reducible repeat first | exact List.mem_cons_self | refine List.mem_cons_of_mem _ ?_ | assumption | exact mem_mid' | exact mem_mid (by assumption))) (by with_reducible rfl) (by (with_reducible repeat first | exact List.mem_cons_self | refine List.mem_cons_of_mem _ ?_ | assumption | exact mem_mid' | exact mem_mid (by assumption))) ?_
        refine sub_strS (by (first | decide | exact Nat.le_trans (by assumption) (by decide) | lia | omega)) (by (first | decide | exact Nat.le_trans (by assumption) (by decide) | lia | omega)) (by ((rw [sizeLine_eq]; (try simp only [List.length_append, List.length_cons, List.length_nil, List.length_map]); (first | decide | exact Nat.le_trans (by assumption) (by decide) | lia | omega)))) hc ?_
        refine SE_strL (by (first | exact l07_0 | exact l07_1 | exact l07_2 | exact l07_3 | exact l07_4 | exact l07_5 | exact l07_6 | exact l07_7 | exact l07_8 | exact l07_9 | exact l07_10 | exact l07_11 | exact l07_12 | exact l07_13 | exact l07_14 | exact l07_15 | exact l07_16 | exact l07_17 | exact l07_18 | exact l07_19 | exact l07_20 | exact l07_21 | exact l07_22 | exact l07_23 | exact l07_24 | exact l07_25 | exact l07_26 | exact l07_27 | exact l07_28 | exact l07_29 | exact l07_30 | exact l07_31 | exact l07_32 | exact l07_33 | exact l07_34 | exact l07_35 | exact l07_36)) ?_
        with_reducible refine cmp_eqSS ?_
        with_reducible refine tr_bool ?_
        refine ite_dec (fun h9 => absurd (List.cons.inj h9).1 hc0.2) (fun h9 => ?_)
        refine SXs_cons ?_
        refine SX_Aug ?_
        refine SN_loc rfl rfl (by (with_reducible repeat first | exact List.mem_cons_self | refine List.mem_cons_of_mem _ ?_ | assumption | exact mem_mid' | exact mem_mid (by assumption))) (by with_reducible rfl) (by (with_reducible repeat first | exact List.mem_cons_self | refine List.mem_cons_of_mem _ ?_ | assumption | exact mem_mid' | exact mem_mid (by assumption))) ?_
        refine SE_int ?_
        with_reducible refine op_iadd ?_
        refine SS_loc rfl rfl (by (with_reducible repeat first | exact List.mem_cons_self | refine List.mem_cons_of_mem _ ?_ | assumption | exact mem_mid' | exact mem_mid (by assumption))) (by with_reducible rfl) (by (with_reducible repeat first | exact Put.here | exact Put.new | apply Put.there)) (by ((first | (dsimp only [List.map_cons, List.map_nil]; decide +kernel) | (simp only [List.map_cons, List.map_nil]; decide +kernel)))) (by (with_reducible repeat first | exact Upd.here | exact Upd.mid | apply Upd.there)) ?_
        refine SXs_cons ?_
        refine SX_Aug ?_
        refine SN_loc rfl rfl (by (with_reducible repeat first | exact List.mem_cons_self | refine List.mem_cons_of_mem _ ?_ | assumption | exact mem_mid' | exact mem_mid (by assumption))) (by with_reducible rfl) (by (with_reducible repeat first | exact List.mem_cons_self | refine List.mem_cons_of_mem _ ?_ | assumption | exact mem_mid' | exact mem_mid (by assumption))) ?_
        refine SE_int ?_
        with_reducible refine op_iadd ?_
        refine SS_loc rfl rfl (by (with_reducible repeat first | exact List.mem_cons_self | refine List.mem_cons_of_mem _ ?_ | assumption | exact mem_mid' | exact mem_mid (by assumption))) (by with_reducible rfl) (by (with_reducible repeat first | exact Put.here | exact Put.new | apply Put.there)) (by ((first | (dsimp only [List.map_cons, List.map_nil]; decide +kernel) | (simp only [List.map_cons, List.map_nil]; decide +kernel)))) (by (with_reducible repeat first | exact Upd.here | exact Upd.mid | apply Upd.there)) ?_
        refine SXs_nil ?_
        refine SXs_nil ?_
        refine SXs_nil ?_
        rw [show (j : Int) + 1 = ((j + 1 : Nat) : Int) by (first | decide | exact Nat.le_trans (by assumption) (by decide) | lia | omega)]
        exact ⟨_, m - 1, by (with_reducible repeat first | exact Wk.refl | exact Wk.nil | refine Wk.keep ObW.refl ?_ | refine Wk.keep (ObW.ns (by (with_reducible repeat first | exact List.Sublist.refl _ | exact List.nil_sublist _ | apply List.Sublist.cons_cons | apply List.Sublist.cons))) ?_ | apply Wk.drop), by (first | decide | exact Nat.le_trans (by assumption) (by decide) | lia | omega), j + 1, by (first | decide | exact Nat.le_trans (by assumption) (by decide) | lia | omega), rfl⟩
      · with_reducible refine ite_ff' ?_
        have hj2 : j = w := by (first | decide | exact Nat.le_trans (by assumption) (by decide) | lia | omega)
        subst hj2
        exact ⟨rfl, rfl⟩
    · rintro _ o ⟨rfl, rfl⟩
      refine SXs_cons ?_
      refine SX_Assign ?_
      refine SE_SliceSS ?_
      refine SE_Name ?_ (by decide +kernel)
      refine SN_loc rfl rfl (by (with_reducible repeat first | exact List.mem_cons_self | refine List.mem_cons_of_mem _ ?_ | assumption | exact mem_mid' | exact mem_mid (by assumption))) (by with_reducible rfl) (by (with_reducible repeat first | exact List.mem_cons_self | refine List.mem_cons_of_mem _ ?_ | assumption | exact mem_mid' | exact mem_mid (by assumption))) ?_
      refine SPt_none ?_
      refine SPt_some ?_
      refine SE_Name ?_ (by decide +kernel)
      refine SN_loc rfl rfl (by (with_reducible repeat first | exact List.mem_cons_self | refine List.mem_cons_of_mem _ ?_ | assumption | exact mem_mid' | exact mem_mid (by assumption))) (by with_reducible rfl) (by (with_reducible repeat first | exact List.mem_cons_self | refine List.mem_cons_of_mem _ ?_ | assumption | exact mem_mid' | exact mem_mid (by assumption))) ?_
      with_reducible refine ⟨_, rfl, ?_⟩
      with_reducible refine ⟨_, rfl, ?_⟩
      refine ⟨by ((rw [sizeLine_eq]; (try simp only [List.length_append, List.length_cons, List.length_nil, List.length_map]); (first | decide | exact Nat.le_trans (by assumption) (by decide) | lia | omega))), ?_⟩
      rw [cutL_take]
      refine SS_loc rfl rfl (by (with_reducible repeat first | exact List.mem_cons_self | refine List.mem_cons_of_mem _ ?_ | assumption | exact mem_mid' | exact mem_mid (by assumption))) (by with_reducible rfl) (by (with_reducible repeat first | exact Put.here | exact Put.new | apply Put.there)) (by ((first | (dsimp only [List.map_cons, List.map_nil]; decide +kernel) | (simp only [List.map_cons, List.map_nil]; decide +kernel)))) (by (with_reducible repeat first | exact Upd.here | exact Upd.mid | apply Upd.there)) ?_
      refine SXs_cons ?_
      refine SX_Assign ?_
      refine SE_SliceSS ?_
      refine SE_Name ?_ (by decide +kernel)
      refine SN_loc rfl rfl (by (with_reducible repeat first | exact List.mem_cons_self | refine List.mem_cons_of_mem _ ?_ | assumption | exact mem_mid' | exact mem_mid (by assumption))) (by with_reducible rfl) (by (with_reducible repeat first | exact List.mem_cons_self | refine List.mem_cons_of_mem _ ?_ | assumption | exact mem_mid' | exact mem_mid (by assumption))) ?_
      refine SPt_some ?_
      refine SE_Name ?_ (by decide +kernel)
      refine SN_loc rfl rfl (by (with_reducible repeat first | exact List.mem_cons_self | refine List.mem_cons_of_mem _ ?_ | assumption | exact mem_mid' | exact mem_mid (by assumption))) (by with_reducible rfl) (by (with_reducible repeat first | exact List.mem_cons_self | refine List.mem_cons_of_mem _ ?_ | assumption | exact mem_mid' | exact mem_mid (by assumption))) ?_
      with_reducible refine ⟨_, rfl, ?_⟩
      refine SPt_none ?_
      with_reducible refine ⟨_, rfl, ?_⟩
      refine ⟨by ((rw [sizeLine_eq]; (try simp only [List.length_append, List.length_cons, List.length_nil, List.length_map]); (first | decide | exact Nat.le_trans (by assumption) (by decide) | lia | omega))), ?_⟩
      rw [cutL_drop]
      refine SS_loc rfl rfl (by (with_reducible repeat first | exact List.mem_cons_self | refine List.mem_cons_of_mem _ ?_ | assumption | exact mem_mid' | exact mem_mid (by assumption))) (by with_reducible rfl) (by (with_reducible repeat first | exact Put.here | exact Put.new | apply Put.there)) (by ((first | (dsimp only [List.map_cons, List.map_nil]; decide +kernel) | (simp only [List.map_cons, List.map_nil]; decide +kernel)))) (by (with_reducible repeat first | exact Upd.here | exact Upd.mid | apply Upd.there)) ?_
      refine SXs_cons ?_
      refine SX_If ?_
      refine ST_plain ?_
      refine SE_Name ?_ (by decide +kernel)
      refine SN_loc rfl rfl (by (with_reducible repeat first | exact List.mem_cons_self | refine List.mem_cons_of_mem _ ?_ | assumption | exact mem_mid' | exact mem_mid (by assumption))) (by with_reducible rfl) (by (with_reducible repeat first | exact List.mem_cons_self | refine List.mem_cons_of_mem _ ?_ | assumption | exact mem_mid' | exact mem_mid (by assumption))) ?_
      refine tr_strS (by ((rw [sizeLine_eq]; (try simp only [List.length_append, List.length_cons, List.length_nil, List.length_map]); (first | decide | exact Nat.le_trans (by assumption) (by decide) | lia | omega)))) ?_
      refine ite_dec (fun h7 => absurd rfl h7) (fun h7 => ?_)
      refine SXs_nil ?_
      refine SXs_cons ?_
      refine SX_Expr ?_
      refine SE_Meth ?_
      refine SE_Name ?_ (by decide +kernel)
      refine SN_loc rfl rfl (by (with_reducible repeat first | exact List.mem_cons_self | refine List.mem_cons_of_mem _ ?_ | assumption | exact mem_mid' | exact mem_mid (by assumption))) (by with_reducible rfl) (by (with_reducible repeat first | exact List.mem_cons_self | refine List.mem_cons_of_mem _ ?_ | assumption | exact mem_mid' | exact mem_mid (by assumption))) ?_
      refine mth_list (by (with_reducible repeat first | exact List.mem_cons_self | refine List.mem_cons_of_mem _ ?_ | assumption | exact mem_mid' | exact mem_mid (by assumption))) PySem.F.slot_list_append PySem.F.type_list_append ?_
      refine SEs_cons ?_
      refine SE_TupleF ?_
      refine SEs_cons ?_
      refine SE_Name ?_ (by decide +kernel)
      refine SN_loc rfl rfl (by (with_reducible repeat first | exact List.mem_cons_self | refine List.mem_cons_of_mem _ ?_ | assumption | exact mem_mid' | exact mem_mid (by assumption))) (by with_reducible rfl) (by (with_reducible repeat first | exact List.mem_cons_self | refine List.mem_cons_of_mem _ ?_ | assumption | exact mem_mid' | exact mem_mid (by assumption))) ?_
      refine SEs_cons ?_
      refine SE_Name ?_ (by decide +kernel)
      refine SN_loc rfl rfl (by (with_reducible repeat first | exact List.mem_cons_self | refine List.mem_cons_of_mem _ ?_ | assumption | exact mem_mid' | exact mem_mid (by assumption))) (by with_reducible rfl) (by (with_reducible repeat first | exact List.mem_cons_self | refine List.mem_cons_of_mem _ ?_ | assumption | exact mem_mid' | exact mem_mid (by assumption))) ?_
      refine SEs_nil ?_
      with_reducible refine ⟨_, by with_reducible ((first | exact AllDat.map _ | repeat first | exact AllDat.nil | with_reducible apply AllDat.cons)), by ((rw [sizeLine_eq]; simp)), ?_⟩
      refine SEs_nil ?_
      with_reducible refine ⟨kp_builtin, ?_⟩
      refine call_append (by (with_reducible repeat first | exact Upd.here | exact Upd.mid | apply Upd.there)) (by ((rw [sizeLine_eq]; (try simp only [List.length_append, List.length_cons, List.length_nil, List.length_map]); (first | decide | exact Nat.le_trans (by assumption) (by decide) | lia | omega)))) ?_
      refine SXs_cons ?_
      refine SX_Expr ?_
      refine SE_Meth ?_
      refine SE_Name ?_ (by decide +kernel)
      refine SN_loc rfl rfl (by (with_reducible repeat first | exact List.mem_cons_self | refine List.mem_cons_of_mem _ ?_ | assumption | exact mem_mid' | exact mem_mid (by assumption))) (by with_reducible rfl) (by (with_reducible repeat first | exact List.mem_cons_self | refine List.mem_cons_of_mem _ ?_ | assumption | exact mem_mid' | exact mem_mid (by assumption))) ?_
      refine mth_inst (cls07 hK) (by (with_reducible repeat first | exact List.mem_cons_self | refine List.mem_cons_of_mem _ ?_ | assumption | exact mem_mid' | exact mem_mid (by assumption))) (by (with_reducible repeat first | exact List.mem_cons_self | refine List.mem_cons_of_mem _ ?_ | assumption | exact mem_mid' | exact mem_mid (by assumption))) (by rw [hK]; rfl) (by rw [hK]; rfl) h4 ?_
      refine SEs_cons ?_
      refine SE_Name ?_ (by decide +kernel)
      refine SN_loc rfl rfl (by (with_reducible repeat first | exact List.mem_cons_self | refine List.mem_cons_of_mem _ ?_ | assumption | exact mem_mid' | exact mem_mid (by assumption))) (by with_reducible rfl) (by (with_reducible repeat first | exact List.mem_cons_self | refine List.mem_cons_of_mem _ ?_ | assumption | exact mem_mid' | exact mem_mid (by assumption))) ?_
      refine SEs_cons ?_
      refine SE_strL (by (first | exact l07_0 | exact l07_1 | exact l07_2 | exact l07_3 | exact l07_4 | exact l07_5 | exact l07_6 | exact l07_7 | exact l07_8 | exact l07_9 | exact l07_10 | exact l07_11 | exact l07_12 | exact l07_13 | exact l07_14 | exact l07_15 | exact l07_16 | exact l07_17 | exact l07_18 | exact l07_19 | exact l07_20 | exact l07_21 | exact l07_22 | exact l07_23 | exact l07_24 | exact l07_25 | exact l07_26 | exact l07_27 | exact l07_28 | exact l07_29 | exact l07_30 | exact l07_31 | exact l07_32 | exact l07_33 | exact l07_34 | exact l07_35 | exact l07_36)) ?_
      refine SEs_cons ?_
      refine SE_Name ?_ (by decide +kernel)
      refine SN_loc rfl rfl (by (with_reducible repeat first | exact List.mem_cons_self | refine List.mem_cons_of_mem _ ?_ | assumption | exact mem_mid' | exact mem_mid (by assumption))) (by with_reducible rfl) (by (with_reducible repeat first | exact List.mem_cons_self | refine List.mem_cons_of_mem _ ?_ | assumption | exact mem_mid' | exact mem_mid (by assumption))) ?_
      refine SEs_nil ?_
      refine ⟨kp_K (by rw [hK]; rfl), SLC.call (SLC.mono (ih (text := text.drop w) (by rw [List.length_drop]; (first | decide | exact Nat.le_trans (by assumption) (by decide) | lia | omega)) (fun c hc => hno c (List.mem_of_mem_drop hc)) (pre := (L, _) :: pre) (post := post) (A := A.deeper _) (fun W A own Q q => tr_strS (by ((rw [sizeLine_eq]; simp))) q) hh ?_ (by exact List.mem_cons_of_mem _ h1) (by exact List.mem_cons_of_mem _ h2) h3 h4 ?_ ?_) ?_)⟩
      · rw [depth_deeper, List.length_drop]; (first | decide | exact Nat.le_trans (by assumption) (by decide) | lia | omega)
      · rw [List.length_drop]; (first | decide | exact Nat.le_trans (by assumption) (by decide) | lia | omega)
      · simp only [List.length_append, List.length_cons, List.length_nil, List.length_drop]; (first | decide | exact Nat.le_trans (by assumption) (by decide) | lia | omega)
      · rintro r o ⟨rfl, rfl⟩
        refine SXs_nil ?_
        refine ⟨_, .drop .refl, rfl, ?_⟩
        show pre ++ _ = _
        rw [rows_cons, pcF, if_neg (by (first | decide | exact Nat.le_trans (by assumption) (by decide) | lia | omega))]
theorem len_5 {α β : Type} {l : List α} {a b c d e : β} (h : l.length = [a, b, c, d, e].length) : ∃ x y z u v, l = [x, y, z, u, v] := match l, h with | [x, y, z, u, v], _ => ⟨x, y, z, u, v, rfl⟩
noncomputable def figs (k : Nat) : List Nat := (Nat.toDigits 10 k).map Char.toNat
theorem decT_figs (n : Int) : decT n = (if n < 0 then [45] else []) ++ figs n.natAbs := by
  unfold decT figs
  have := text_ofNat n.natAbs
  have e : ((n.natAbs : Nat) : Int) = Int.ofNat n.natAbs := rfl
  rw [e, this]
theorem figs_len {k e : Nat} (he : 1 ≤ e) (h : k < 10 ^ e) : (figs k).length ≤ e := by
  unfold figs; rw [List.length_map]; exact digits10_le he h
/-! ### a cell -/
noncomputable def idT (a b : List Nat) : List Nat := [32, 105, 100, 61, 34] ++ a ++ b ++ [34]
noncomputable def cellT (i n t : List Nat) : List Nat := [60, 116, 100, 32, 99, 108, 97, 115, 115, 61, 34, 100, 105, 102, 102, 95, 104, 101, 97, 100, 101, 114, 34] ++ i ++ [62] ++ n ++ [60, 47, 116, 100, 62, 60, 116, 100, 32, 110, 111, 119, 114, 97, 112, 61, 34, 110, 111, 119, 114, 97, 112, 34, 62] ++ t ++ [60, 47, 116, 100, 62]
theorem FrO.mono {own own' : Own} (h : ∀ p ∈ own, p ∈ own') : ∀ {l : List Env}, FrO own l → FrO own' l
  | [], _ => trivial
  | _ :: _, ⟨h1, ⟨L, loc, hf, hm⟩, hr⟩ => ⟨h1, ⟨L, loc, hf, h _ hm⟩, FrO.mono h hr⟩
noncomputable def repls (t : List Nat) : List Nat := repl 32 [38, 110, 98, 115, 112, 59] (repl 60 [38, 108, 116, 59] (repl 62 [38, 103, 116, 59] (repl 38 [38, 97, 109, 112, 59] t)))





theorem c_fmtS (hK : K07 W) (hh : A.handled = none) (hd : A.depth < recursionLimit) {fs : List Env} (hfr : A.frames = some fs) (hF : FrO own fs) {x : Addr} {sd : Int} {fl : PyData} {l text : List Nat} (hl : l.length ≤ 100) (ht : text.length ≤ 40) :
    SLC W A (.ref 86) [.ref x, .int sd, .dat fl, .str (S l), .str (S text)] own (fun r o => r = .str (S (cellT [] l (rstripL Unicode.isSpace (repls text)))) ∧ o = own) := by
  refine' do_callU [Str.ofString "self", Str.ofString "side", Str.ofString "flag", Str.ofString "linenum", Str.ofString "text"] (by decide) (by simp) ?ho ?hcd hd ?hb ?hloc ?nd ?hh5 ?c1 ?c2 ?c3 ?c4
  case ho => exact K_of hK rfl
  case hcd => rw [hK]; rfl
  case hb => intro s vs _ hl; obtain ⟨_, _, _, _, _, rfl⟩ := len_5 hl; exact BindsTo.of_eq rfl
  case hloc => decide +kernel
  case nd => decide +kernel
  case c1 => rfl
  case c2 => rfl
  case c3 => rfl
  case c4 => decide +kernel
  intro L
  dsimp only [lawS, nthS, fdB, fdS, clB, PySem.Challenge.pw_dm0066_07]
  simp only [List.zip_cons_cons, List.zip_nil_right]
  have hK' : K07 W.up := hK
  have r1 := repl_len 38 [38, 97, 109, 112, 59] text
  have r2 := repl_len 62 [38, 103, 116, 59] (repl 38 [38, 97, 109, 112, 59] text)
  have r3 := repl_len 60 [38, 108, 116, 59] (repl 62 [38, 103, 116, 59] (repl 38 [38, 97, 109, 112, 59] text))
  have r4 := repl_len 32 [38, 110, 98, 115, 112, 59] (repl 60 [38, 108, 116, 59] (repl 62 [38, 103, 116, 59] (repl 38 [38, 97, 109, 112, 59] text)))
  simp only [List.length_cons, List.length_nil] at r1 r2 r3 r4
  have r5 := rstripL_len Unicode.isSpace (repl 32 [38, 110, 98, 115, 112, 59] (repl 60 [38, 108, 116, 59] (repl 62 [38, 103, 116, 59] (repl 38 [38, 97, 109, 112, 59] text))))
  refine SXs_cons ?_
  refine SX_TryX (T := "TypeError") (X := "TypeError") (L := L) (Around.frames_deeper hfr) ⟨(fun e => nomatch e), ⟨L, _, rfl, List.mem_cons_self⟩, hF.mono fun p hp => List.mem_cons_of_mem _ hp⟩ rfl rfl rfl rfl rfl (nsIn_of hK' rfl) (by decide +kernel) (by decide +kernel) (by decide +kernel) (isSubtype_of_subB (by decide +kernel)) (isSubtype_of_subB (by decide +kernel)) (isSubtype_of_subB (by decide +kernel)) ?_ ?_
  · exact raise_assign (l := l) (loc := _) hh (by (first | exact l07_0 | exact l07_1 | exact l07_2 | exact l07_3 | exact l07_4 | exact l07_5 | exact l07_6 | exact l07_7 | exact l07_8 | exact l07_9 | exact l07_10 | exact l07_11 | exact l07_12 | exact l07_13 | exact l07_14 | exact l07_15 | exact l07_16 | exact l07_17 | exact l07_18 | exact l07_19 | exact l07_20 | exact l07_21 | exact l07_22 | exact l07_23 | exact l07_24 | exact l07_25 | exact l07_26 | exact l07_27 | exact l07_28 | exact l07_29 | exact l07_30 | exact l07_31 | exact l07_32 | exact l07_33 | exact l07_34 | exact l07_35 | exact l07_36)) rfl rfl List.mem_cons_self rfl (by (with_reducible repeat first | exact List.mem_cons_self | refine List.mem_cons_of_mem _ ?_ | assumption | exact mem_mid' | exact mem_mid (by assumption))) (by decide +kernel)
  intro A'
  refine SXs_cons ?_
  refine SX_Assign ?_
  refine SE_strL (by (first | exact l07_0 | exact l07_1 | exact l07_2 | exact l07_3 | exact l07_4 | exact l07_5 | exact l07_6 | exact l07_7 | exact l07_8 | exact l07_9 | exact l07_10 | exact l07_11 | exact l07_12 | exact l07_13 | exact l07_14 | exact l07_15 | exact l07_16 | exact l07_17 | exact l07_18 | exact l07_19 | exact l07_20 | exact l07_21 | exact l07_22 | exact l07_23 | exact l07_24 | exact l07_25 | exact l07_26 | exact l07_27 | exact l07_28 | exact l07_29 | exact l07_30 | exact l07_31 | exact l07_32 | exact l07_33 | exact l07_34 | exact l07_35 | exact l07_36)) ?_
  refine SS_loc rfl rfl (by (with_reducible repeat first | exact List.mem_cons_self | refine List.mem_cons_of_mem _ ?_ | assumption | exact mem_mid' | exact mem_mid (by assumption))) (by with_reducible rfl) (by (with_reducible repeat first | exact Put.here | exact Put.new | apply Put.there)) (by ((first | (dsimp only [List.map_cons, List.map_nil]; decide +kernel) | (simp only [List.map_cons, List.map_nil]; decide +kernel)))) (by (with_reducible repeat first | exact Upd.here | exact Upd.mid | apply Upd.there)) ?_
  refine SXs_nil ?_
  refine SXs_cons ?_
  refine SX_Assign ?_
  refine SE_Replace (Nat.le_refl _) (by (first | exact l07_0 | exact l07_1 | exact l07_2 | exact l07_3 | exact l07_4 | exact l07_5 | exact l07_6 | exact l07_7 | exact l07_8 | exact l07_9 | exact l07_10 | exact l07_11 | exact l07_12 | exact l07_13 | exact l07_14 | exact l07_15 | exact l07_16 | exact l07_17 | exact l07_18 | exact l07_19 | exact l07_20 | exact l07_21 | exact l07_22 | exact l07_23 | exact l07_24 | exact l07_25 | exact l07_26 | exact l07_27 | exact l07_28 | exact l07_29 | exact l07_30 | exact l07_31 | exact l07_32 | exact l07_33 | exact l07_34 | exact l07_35 | exact l07_36)) (by (first | exact l07_0 | exact l07_1 | exact l07_2 | exact l07_3 | exact l07_4 | exact l07_5 | exact l07_6 | exact l07_7 | exact l07_8 | exact l07_9 | exact l07_10 | exact l07_11 | exact l07_12 | exact l07_13 | exact l07_14 | exact l07_15 | exact l07_16 | exact l07_17 | exact l07_18 | exact l07_19 | exact l07_20 | exact l07_21 | exact l07_22 | exact l07_23 | exact l07_24 | exact l07_25 | exact l07_26 | exact l07_27 | exact l07_28 | exact l07_29 | exact l07_30 | exact l07_31 | exact l07_32 | exact l07_33 | exact l07_34 | exact l07_35 | exact l07_36)) (by decide +kernel) (by decide +kernel) ?_
  refine SE_Replace (Nat.le_refl _) (by (first | exact l07_0 | exact l07_1 | exact l07_2 | exact l07_3 | exact l07_4 | exact l07_5 | exact l07_6 | exact l07_7 | exact l07_8 | exact l07_9 | exact l07_10 | exact l07_11 | exact l07_12 | exact l07_13 | exact l07_14 | exact l07_15 | exact l07_16 | exact l07_17 | exact l07_18 | exact l07_19 | exact l07_20 | exact l07_21 | exact l07_22 | exact l07_23 | exact l07_24 | exact l07_25 | exact l07_26 | exact l07_27 | exact l07_28 | exact l07_29 | exact l07_30 | exact l07_31 | exact l07_32 | exact l07_33 | exact l07_34 | exact l07_35 | exact l07_36)) (by (first | exact l07_0 | exact l07_1 | exact l07_2 | exact l07_3 | exact l07_4 | exact l07_5 | exact l07_6 | exact l07_7 | exact l07_8 | exact l07_9 | exact l07_10 | exact l07_11 | exact l07_12 | exact l07_13 | exact l07_14 | exact l07_15 | exact l07_16 | exact l07_17 | exact l07_18 | exact l07_19 | exact l07_20 | exact l07_21 | exact l07_22 | exact l07_23 | exact l07_24 | exact l07_25 | exact l07_26 | exact l07_27 | exact l07_28 | exact l07_29 | exact l07_30 | exact l07_31 | exact l07_32 | exact l07_33 | exact l07_34 | exact l07_35 | exact l07_36)) (by decide +kernel) (by decide +kernel) ?_
  refine SE_Replace (Nat.le_refl _) (by (first | exact l07_0 | exact l07_1 | exact l07_2 | exact l07_3 | exact l07_4 | exact l07_5 | exact l07_6 | exact l07_7 | exact l07_8 | exact l07_9 | exact l07_10 | exact l07_11 | exact l07_12 | exact l07_13 | exact l07_14 | exact l07_15 | exact l07_16 | exact l07_17 | exact l07_18 | exact l07_19 | exact l07_20 | exact l07_21 | exact l07_22 | exact l07_23 | exact l07_24 | exact l07_25 | exact l07_26 | exact l07_27 | exact l07_28 | exact l07_29 | exact l07_30 | exact l07_31 | exact l07_32 | exact l07_33 | exact l07_34 | exact l07_35 | exact l07_36)) (by (first | exact l07_0 | exact l07_1 | exact l07_2 | exact l07_3 | exact l07_4 | exact l07_5 | exact l07_6 | exact l07_7 | exact l07_8 | exact l07_9 | exact l07_10 | exact l07_11 | exact l07_12 | exact l07_13 | exact l07_14 | exact l07_15 | exact l07_16 | exact l07_17 | exact l07_18 | exact l07_19 | exact l07_20 | exact l07_21 | exact l07_22 | exact l07_23 | exact l07_24 | exact l07_25 | exact l07_26 | exact l07_27 | exact l07_28 | exact l07_29 | exact l07_30 | exact l07_31 | exact l07_32 | exact l07_33 | exact l07_34 | exact l07_35 | exact l07_36)) (by decide +kernel) (by decide +kernel) ?_
  refine SE_Name ?_ (by decide +kernel)
  refine SN_loc rfl rfl (by (with_reducible repeat first | exact List.mem_cons_self | refine List.mem_cons_of_mem _ ?_ | assumption | exact mem_mid' | exact mem_mid (by assumption))) (by with_reducible rfl) (by (with_reducible repeat first | exact List.mem_cons_self | refine List.mem_cons_of_mem _ ?_ | assumption | exact mem_mid' | exact mem_mid (by assumption))) ?_
  with_reducible refine ⟨_, rfl, by (first | (first | decide | exact Nat.le_trans (by assumption) (by decide) | lia | omega) | (simp only [List.length_append, List.length_cons, List.length_nil]; (first | decide | exact Nat.le_trans (by assumption) (by decide) | lia | omega))), ?_⟩
  with_reducible refine ⟨_, rfl, by (first | (first | decide | exact Nat.le_trans (by assumption) (by decide) | lia | omega) | (simp only [List.length_append, List.length_cons, List.length_nil]; (first | decide | exact Nat.le_trans (by assumption) (by decide) | lia | omega))), ?_⟩
  with_reducible refine ⟨_, rfl, by (first | (first | decide | exact Nat.le_trans (by assumption) (by decide) | lia | omega) | (simp only [List.length_append, List.length_cons, List.length_nil]; (first | decide | exact Nat.le_trans (by assumption) (by decide) | lia | omega))), ?_⟩
  refine SS_loc rfl rfl (by (with_reducible repeat first | exact List.mem_cons_self | refine List.mem_cons_of_mem _ ?_ | assumption | exact mem_mid' | exact mem_mid (by assumption))) (by with_reducible rfl) (by (with_reducible repeat first | exact Put.here | exact Put.new | apply Put.there)) (by ((first | (dsimp only [List.map_cons, List.map_nil]; decide +kernel) | (simp only [List.map_cons, List.map_nil]; decide +kernel)))) (by (with_reducible repeat first | exact Upd.here | exact Upd.mid | apply Upd.there)) ?_
  refine SXs_cons ?_
  refine SX_Assign ?_
  refine SE_Meth ?_
  refine SE_Replace (Nat.le_refl _) (by (first | exact l07_0 | exact l07_1 | exact l07_2 | exact l07_3 | exact l07_4 | exact l07_5 | exact l07_6 | exact l07_7 | exact l07_8 | exact l07_9 | exact l07_10 | exact l07_11 | exact l07_12 | exact l07_13 | exact l07_14 | exact l07_15 | exact l07_16 | exact l07_17 | exact l07_18 | exact l07_19 | exact l07_20 | exact l07_21 | exact l07_22 | exact l07_23 | exact l07_24 | exact l07_25 | exact l07_26 | exact l07_27 | exact l07_28 | exact l07_29 | exact l07_30 | exact l07_31 | exact l07_32 | exact l07_33 | exact l07_34 | exact l07_35 | exact l07_36)) (by (first | exact l07_0 | exact l07_1 | exact l07_2 | exact l07_3 | exact l07_4 | exact l07_5 | exact l07_6 | exact l07_7 | exact l07_8 | exact l07_9 | exact l07_10 | exact l07_11 | exact l07_12 | exact l07_13 | exact l07_14 | exact l07_15 | exact l07_16 | exact l07_17 | exact l07_18 | exact l07_19 | exact l07_20 | exact l07_21 | exact l07_22 | exact l07_23 | exact l07_24 | exact l07_25 | exact l07_26 | exact l07_27 | exact l07_28 | exact l07_29 | exact l07_30 | exact l07_31 | exact l07_32 | exact l07_33 | exact l07_34 | exact l07_35 | exact l07_36)) (by decide +kernel) (by decide +kernel) ?_
  refine SE_Name ?_ (by decide +kernel)
  refine SN_loc rfl rfl (by (with_reducible repeat first | exact List.mem_cons_self | refine List.mem_cons_of_mem _ ?_ | assumption | exact mem_mid' | exact mem_mid (by assumption))) (by with_reducible rfl) (by (with_reducible repeat first | exact List.mem_cons_self | refine List.mem_cons_of_mem _ ?_ | assumption | exact mem_mid' | exact mem_mid (by assumption))) ?_
  with_reducible refine ⟨_, rfl, by (first | (first | decide | exact Nat.le_trans (by assumption) (by decide) | lia | omega) | (simp only [List.length_append, List.length_cons, List.length_nil]; (first | decide | exact Nat.le_trans (by assumption) (by decide) | lia | omega))), ?_⟩
  refine mth_str (fun t s P h => GM.rstrip h) ?_
  refine SEs_nil ?_
  with_reducible refine ⟨kp_builtin, ?_⟩
  refine call_rstrip (by ((rw [sizeLine_eq]; (try simp only [List.length_append, List.length_cons, List.length_nil, List.length_map]); (first | decide | exact Nat.le_trans (by assumption) (by decide) | lia | omega)))) ?_
  refine SS_loc rfl rfl (by (with_reducible repeat first | exact List.mem_cons_self | refine List.mem_cons_of_mem _ ?_ | assumption | exact mem_mid' | exact mem_mid (by assumption))) (by with_reducible rfl) (by (with_reducible repeat first | exact Put.here | exact Put.new | apply Put.there)) (by ((first | (dsimp only [List.map_cons, List.map_nil]; decide +kernel) | (simp only [List.map_cons, List.map_nil]; decide +kernel)))) (by (with_reducible repeat first | exact Upd.here | exact Upd.mid | apply Upd.there)) ?_
  refine SXs_cons ?_
  refine SX_Return ?_
  refine SE_JoinedStr ?_
  refine SJ_cons ?_
  refine SE_strL (by (first | exact l07_0 | exact l07_1 | exact l07_2 | exact l07_3 | exact l07_4 | exact l07_5 | exact l07_6 | exact l07_7 | exact l07_8 | exact l07_9 | exact l07_10 | exact l07_11 | exact l07_12 | exact l07_13 | exact l07_14 | exact l07_15 | exact l07_16 | exact l07_17 | exact l07_18 | exact l07_19 | exact l07_20 | exact l07_21 | exact l07_22 | exact l07_23 | exact l07_24 | exact l07_25 | exact l07_26 | exact l07_27 | exact l07_28 | exact l07_29 | exact l07_30 | exact l07_31 | exact l07_32 | exact l07_33 | exact l07_34 | exact l07_35 | exact l07_36)) ?_
  with_reducible refine ⟨_, rfl, by (first | (first | decide | exact Nat.le_trans (by assumption) (by decide) | lia | omega) | (simp only [List.length_append, List.length_cons, List.length_nil]; (first | decide | exact Nat.le_trans (by assumption) (by decide) | lia | omega))), ?_⟩
  refine SJ_cons ?_
  refine SE_FieldS ?_
  refine SE_Name ?_ (by decide +kernel)
  refine SN_loc rfl rfl (by (with_reducible repeat first | exact List.mem_cons_self | refine List.mem_cons_of_mem _ ?_ | assumption | exact mem_mid' | exact mem_mid (by assumption))) (by with_reducible rfl) (by (with_reducible repeat first | exact List.mem_cons_self | refine List.mem_cons_of_mem _ ?_ | assumption | exact mem_mid' | exact mem_mid (by assumption))) ?_
  with_reducible refine ⟨_, rfl, by (first | (first | decide | exact Nat.le_trans (by assumption) (by decide) | lia | omega) | (simp only [List.length_append, List.length_cons, List.length_nil]; (first | decide | exact Nat.le_trans (by assumption) (by decide) | lia | omega))), ?_⟩
  with_reducible refine ⟨_, rfl, by (first | (first | decide | exact Nat.le_trans (by assumption) (by decide) | lia | omega) | (simp only [List.length_append, List.length_cons, List.length_nil]; (first | decide | exact Nat.le_trans (by assumption) (by decide) | lia | omega))), ?_⟩
  refine SJ_cons ?_
  refine SE_strL (by (first | exact l07_0 | exact l07_1 | exact l07_2 | exact l07_3 | exact l07_4 | exact l07_5 | exact l07_6 | exact l07_7 | exact l07_8 | exact l07_9 | exact l07_10 | exact l07_11 | exact l07_12 | exact l07_13 | exact l07_14 | exact l07_15 | exact l07_16 | exact l07_17 | exact l07_18 | exact l07_19 | exact l07_20 | exact l07_21 | exact l07_22 | exact l07_23 | exact l07_24 | exact l07_25 | exact l07_26 | exact l07_27 | exact l07_28 | exact l07_29 | exact l07_30 | exact l07_31 | exact l07_32 | exact l07_33 | exact l07_34 | exact l07_35 | exact l07_36)) ?_
  with_reducible refine ⟨_, rfl, by (first | (first | decide | exact Nat.le_trans (by assumption) (by decide) | lia | omega) | (simp only [List.length_append, List.length_cons, List.length_nil]; (first | decide | exact Nat.le_trans (by assumption) (by decide) | lia | omega))), ?_⟩
  refine SJ_cons ?_
  refine SE_FieldS ?_
  refine SE_Name ?_ (by decide +kernel)
  refine SN_loc rfl rfl (by (with_reducible repeat first | exact List.mem_cons_self | refine List.mem_cons_of_mem _ ?_ | assumption | exact mem_mid' | exact mem_mid (by assumption))) (by with_reducible rfl) (by (with_reducible repeat first | exact List.mem_cons_self | refine List.mem_cons_of_mem _ ?_ | assumption | exact mem_mid' | exact mem_mid (by assumption))) ?_
  with_reducible refine ⟨_, rfl, by (first | (first | decide | exact Nat.le_trans (by assumption) (by decide) | lia | omega) | (simp only [List.length_append, List.length_cons, List.length_nil]; (first | decide | exact Nat.le_trans (by assumption) (by decide) | lia | omega))), ?_⟩
  with_reducible refine ⟨_, rfl, by (first | (first | decide | exact Nat.le_trans (by assumption) (by decide) | lia | omega) | (simp only [List.length_append, List.length_cons, List.length_nil]; (first | decide | exact Nat.le_trans (by assumption) (by decide) | lia | omega))), ?_⟩
  refine SJ_cons ?_
  refine SE_strL (by (first | exact l07_0 | exact l07_1 | exact l07_2 | exact l07_3 | exact l07_4 | exact l07_5 | exact l07_6 | exact l07_7 | exact l07_8 | exact l07_9 | exact l07_10 | exact l07_11 | exact l07_12 | exact l07_13 | exact l07_14 | exact l07_15 | exact l07_16 | exact l07_17 | exact l07_18 | exact l07_19 | exact l07_20 | exact l07_21 | exact l07_22 | exact l07_23 | exact l07_24 | exact l07_25 | exact l07_26 | exact l07_27 | exact l07_28 | exact l07_29 | exact l07_30 | exact l07_31 | exact l07_32 | exact l07_33 | exact l07_34 | exact l07_35 | exact l07_36)) ?_
  with_reducible refine ⟨_, rfl, by (first | (first | decide | exact Nat.le_trans (by assumption) (by decide) | lia | omega) | (simp only [List.length_append, List.length_cons, List.length_nil]; (first | decide | exact Nat.le_trans (by assumption) (by decide) | lia | omega))), ?_⟩
  refine SJ_cons ?_
  refine SE_FieldS ?_
  refine SE_Name ?_ (by decide +kernel)
  refine SN_loc rfl rfl (by (with_reducible repeat first | exact List.mem_cons_self | refine List.mem_cons_of_mem _ ?_ | assumption | exact mem_mid' | exact mem_mid (by assumption))) (by with_reducible rfl) (by (with_reducible repeat first | exact List.mem_cons_self | refine List.mem_cons_of_mem _ ?_ | assumption | exact mem_mid' | exact mem_mid (by assumption))) ?_
  with_reducible refine ⟨_, rfl, by (first | (first | decide | exact Nat.le_trans (by assumption) (by decide) | lia | omega) | (simp only [List.length_append, List.length_cons, List.length_nil]; (first | decide | exact Nat.le_trans (by assumption) (by decide) | lia | omega))), ?_⟩
  with_reducible refine ⟨_, rfl, by (first | (first | decide | exact Nat.le_trans (by assumption) (by decide) | lia | omega) | (simp only [List.length_append, List.length_cons, List.length_nil]; (first | decide | exact Nat.le_trans (by assumption) (by decide) | lia | omega))), ?_⟩
  refine SJ_cons ?_
  refine SE_strL (by (first | exact l07_0 | exact l07_1 | exact l07_2 | exact l07_3 | exact l07_4 | exact l07_5 | exact l07_6 | exact l07_7 | exact l07_8 | exact l07_9 | exact l07_10 | exact l07_11 | exact l07_12 | exact l07_13 | exact l07_14 | exact l07_15 | exact l07_16 | exact l07_17 | exact l07_18 | exact l07_19 | exact l07_20 | exact l07_21 | exact l07_22 | exact l07_23 | exact l07_24 | exact l07_25 | exact l07_26 | exact l07_27 | exact l07_28 | exact l07_29 | exact l07_30 | exact l07_31 | exact l07_32 | exact l07_33 | exact l07_34 | exact l07_35 | exact l07_36)) ?_
  with_reducible refine ⟨_, rfl, by (first | (first | decide | exact Nat.le_trans (by assumption) (by decide) | lia | omega) | (simp only [List.length_append, List.length_cons, List.length_nil]; (first | decide | exact Nat.le_trans (by assumption) (by decide) | lia | omega))), ?_⟩
  refine SJ_nil ?_
  exact ⟨_, .drop .refl, by simp [cellT, repls], rfl⟩
theorem c_fmtI (hK : K07 W) (hh : A.handled = none) (hd : A.depth < recursionLimit) {x dx : Addr} {loc : List (Str × V)} {p0 p1 : List Nat} {sd : Int} {fl : PyData} {n : Int} {text p : List Nat} (hx : (x, Ob.obj (instObj 111 dx)) ∈ own) (hdx : (dx, Ob.att loc) ∈ own) (hpf : (Str.ofString "_prefix", V.lst [.str (S p0), .str (S p1)]) ∈ loc)
    (hp : [PyData.str (S p0), PyData.str (S p1)][place sd 2]? = some (.str (S p))) (hsd : 0 ≤ sd ∧ sd ≤ 1) (hpl : p.length ≤ 100) (hn : n.natAbs < 10 ^ 60) (ht : text.length ≤ 40) :
    SLC W A (.ref 86) [.ref x, .int sd, .dat fl, .int n, .str (S text)] own (fun r o => r = .str (S (cellT (idT p (decT n)) (decT n) (rstripL Unicode.isSpace (repls text)))) ∧ o = own) := by
  refine' do_callU [Str.ofString "self", Str.ofString "side", Str.ofString "flag", Str.ofString "linenum", Str.ofString "text"] (by decide) (by simp) ?ho ?hcd hd ?hb ?hloc ?nd ?hh6 ?c1 ?c2 ?c3 ?c4
  case ho => exact K_of hK rfl
  case hcd => rw [hK]; rfl
  case hb => intro s vs _ hl; obtain ⟨_, _, _, _, _, rfl⟩ := len_5 hl; exact BindsTo.of_eq rfl
  case hloc => decide +kernel
  case nd => decide +kernel
  case c1 => rfl
  case c2 => rfl
  case c3 => rfl
  case c4 => decide +kernel
  intro L
  dsimp only [lawS, nthS, fdB, fdS, clB, PySem.Challenge.pw_dm0066_07]
  simp only [List.zip_cons_cons, List.zip_nil_right]
  have hK' : K07 W.up := hK
  have r1 := repl_len 38 [38, 97, 109, 112, 59] text
  have r2 := repl_len 62 [38, 103, 116, 59] (repl 38 [38, 97, 109, 112, 59] text)
  have r3 := repl_len 60 [38, 108, 116, 59] (repl 62 [38, 103, 116, 59] (repl 38 [38, 97, 109, 112, 59] text))
  have r4 := repl_len 32 [38, 110, 98, 115, 112, 59] (repl 60 [38, 108, 116, 59] (repl 62 [38, 103, 116, 59] (repl 38 [38, 97, 109, 112, 59] text)))
  simp only [List.length_cons, List.length_nil] at r1 r2 r3 r4
  have r5 := rstripL_len Unicode.isSpace (repl 32 [38, 110, 98, 115, 112, 59] (repl 60 [38, 108, 116, 59] (repl 62 [38, 103, 116, 59] (repl 38 [38, 97, 109, 112, 59] text))))
  have r6 : (decT n).length ≤ 61 := by
    have := figs_len (by decide) hn
    rw [decT_figs, List.length_append]
    split
    · (first | dsimp only [List.length_cons, List.length_nil] | simp only [List.length_cons, List.length_nil]); (first | decide | exact Nat.le_trans (by assumption) (by decide) | lia | omega)
    · (first | dsimp only [List.length_nil] | simp only [List.length_nil]); (first | decide | exact Nat.le_trans (by assumption) (by decide) | lia | omega)
  have r7 : n.natAbs.log2 < 1920 := by
    by_cases h0 : n.natAbs = 0
    · rw [h0]; decide
    · exact (Nat.log2_lt h0).mpr (Nat.lt_trans hn (by decide +kernel))
  refine SXs_cons ?_
  refine SX_TryN ?_
  refine SXs_cons ?_
  refine SX_Assign ?_
  refine SE_BinOp ?_
  refine SE_strL (by (first | exact l07_0 | exact l07_1 | exact l07_2 | exact l07_3 | exact l07_4 | exact l07_5 | exact l07_6 | exact l07_7 | exact l07_8 | exact l07_9 | exact l07_10 | exact l07_11 | exact l07_12 | exact l07_13 | exact l07_14 | exact l07_15 | exact l07_16 | exact l07_17 | exact l07_18 | exact l07_19 | exact l07_20 | exact l07_21 | exact l07_22 | exact l07_23 | exact l07_24 | exact l07_25 | exact l07_26 | exact l07_27 | exact l07_28 | exact l07_29 | exact l07_30 | exact l07_31 | exact l07_32 | exact l07_33 | exact l07_34 | exact l07_35 | exact l07_36)) ?_
  refine SE_Name ?_ (by decide +kernel)
  refine SN_loc rfl rfl (by (with_reducible repeat first | exact List.mem_cons_self | refine List.mem_cons_of_mem _ ?_ | assumption | exact mem_mid' | exact mem_mid (by assumption))) (by with_reducible rfl) (by (with_reducible repeat first | exact List.mem_cons_self | refine List.mem_cons_of_mem _ ?_ | assumption | exact mem_mid' | exact mem_mid (by assumption))) ?_
  refine op_fmtD r7 (by (first | decide | exact Nat.le_trans (by assumption) (by decide) | lia | omega)) ?_
  refine SS_loc rfl rfl (by (with_reducible repeat first | exact List.mem_cons_self | refine List.mem_cons_of_mem _ ?_ | assumption | exact mem_mid' | exact mem_mid (by assumption))) (by with_reducible rfl) (by (with_reducible repeat first | exact Put.here | exact Put.new | apply Put.there)) (by ((first | (dsimp only [List.map_cons, List.map_nil]; decide +kernel) | (simp only [List.map_cons, List.map_nil]; decide +kernel)))) (by (with_reducible repeat first | exact Upd.here | exact Upd.mid | apply Upd.there)) ?_
  refine SXs_cons ?_
  refine SX_Assign ?_
  refine SE_JoinedStr ?_
  refine SJ_cons ?_
  refine SE_strL (by (first | exact l07_0 | exact l07_1 | exact l07_2 | exact l07_3 | exact l07_4 | exact l07_5 | exact l07_6 | exact l07_7 | exact l07_8 | exact l07_9 | exact l07_10 | exact l07_11 | exact l07_12 | exact l07_13 | exact l07_14 | exact l07_15 | exact l07_16 | exact l07_17 | exact l07_18 | exact l07_19 | exact l07_20 | exact l07_21 | exact l07_22 | exact l07_23 | exact l07_24 | exact l07_25 | exact l07_26 | exact l07_27 | exact l07_28 | exact l07_29 | exact l07_30 | exact l07_31 | exact l07_32 | exact l07_33 | exact l07_34 | exact l07_35 | exact l07_36)) ?_
  with_reducible refine ⟨_, rfl, by (first | (first | decide | exact Nat.le_trans (by assumption) (by decide) | lia | omega) | (simp only [List.length_append, List.length_cons, List.length_nil]; (first | decide | exact Nat.le_trans (by assumption) (by decide) | lia | omega))), ?_⟩
  refine SJ_cons ?_
  refine SE_FieldS ?_
  refine SE_Subscript ?_
  refine SE_Attribute ?_
  refine SE_Name ?_ (by decide +kernel)
  refine SN_loc rfl rfl (by (with_reducible repeat first | exact List.mem_cons_self | refine List.mem_cons_of_mem _ ?_ | assumption | exact mem_mid' | exact mem_mid (by assumption))) (by with_reducible rfl) (by (with_reducible repeat first | exact List.mem_cons_self | refine List.mem_cons_of_mem _ ?_ | assumption | exact mem_mid' | exact mem_mid (by assumption))) ?_
  refine get_att (cls07 hK') (by (with_reducible repeat first | exact List.mem_cons_self | refine List.mem_cons_of_mem _ ?_ | assumption | exact mem_mid' | exact mem_mid (by assumption))) (by (with_reducible repeat first | exact List.mem_cons_self | refine List.mem_cons_of_mem _ ?_ | assumption | exact mem_mid' | exact mem_mid (by assumption))) hpf (by rw [hK']; rfl) handed_lst ?_
  refine SE_Name ?_ (by decide +kernel)
  refine SN_loc rfl rfl (by (with_reducible repeat first | exact List.mem_cons_self | refine List.mem_cons_of_mem _ ?_ | assumption | exact mem_mid' | exact mem_mid (by assumption))) (by with_reducible rfl) (by (with_reducible repeat first | exact List.mem_cons_self | refine List.mem_cons_of_mem _ ?_ | assumption | exact mem_mid' | exact mem_mid (by assumption))) ?_
  refine sub_lst (by (first | dsimp only [List.length_cons, List.length_nil] | simp only [List.length_cons, List.length_nil]); (first | decide | exact Nat.le_trans (by assumption) (by decide) | lia | omega)) (by (first | dsimp only [List.length_cons, List.length_nil] | simp only [List.length_cons, List.length_nil]); (first | decide | exact Nat.le_trans (by assumption) (by decide) | lia | omega)) (by ((rw [sizeLine_eq]; simp))) hp ?_
  with_reducible refine ⟨_, rfl, by (first | (first | decide | exact Nat.le_trans (by assumption) (by decide) | lia | omega) | (simp only [List.length_append, List.length_cons, List.length_nil]; (first | decide | exact Nat.le_trans (by assumption) (by decide) | lia | omega))), ?_⟩
  with_reducible refine ⟨_, rfl, by (first | (first | decide | exact Nat.le_trans (by assumption) (by decide) | lia | omega) | (simp only [List.length_append, List.length_cons, List.length_nil]; (first | decide | exact Nat.le_trans (by assumption) (by decide) | lia | omega))), ?_⟩
  refine SJ_cons ?_
  refine SE_FieldS ?_
  refine SE_Name ?_ (by decide +kernel)
  refine SN_loc rfl rfl (by (with_reducible repeat first | exact List.mem_cons_self | refine List.mem_cons_of_mem _ ?_ | assumption | exact mem_mid' | exact mem_mid (by assumption))) (by with_reducible rfl) (by (with_reducible repeat first | exact List.mem_cons_self | refine List.mem_cons_of_mem _ ?_ | assumption | exact mem_mid' | exact mem_mid (by assumption))) ?_
  with_reducible refine ⟨_, rfl, by (first | (first | decide | exact Nat.le_trans (by assumption) (by decide) | lia | omega) | (simp only [List.length_append, List.length_cons, List.length_nil]; (first | decide | exact Nat.le_trans (by assumption) (by decide) | lia | omega))), ?_⟩
  with_reducible refine ⟨_, rfl, by (first | (first | decide | exact Nat.le_trans (by assumption) (by decide) | lia | omega) | (simp only [List.length_append, List.length_cons, List.length_nil]; (first | decide | exact Nat.le_trans (by assumption) (by decide) | lia | omega))), ?_⟩
  refine SJ_cons ?_
  refine SE_strL (by (first | exact l07_0 | exact l07_1 | exact l07_2 | exact l07_3 | exact l07_4 | exact l07_5 | exact l07_6 | exact l07_7 | exact l07_8 | exact l07_9 | exact l07_10 | exact l07_11 | exact l07_12 | exact l07_13 | exact l07_14 | exact l07_15 | exact l07_16 | exact l07_17 | exact l07_18 | exact l07_19 | exact l07_20 | exact l07_21 | exact l07_22 | exact l07_23 | exact l07_24 | exact l07_25 | exact l07_26 | exact l07_27 | exact l07_28 | exact l07_29 | exact l07_30 | exact l07_31 | exact l07_32 | exact l07_33 | exact l07_34 | exact l07_35 | exact l07_36)) ?_
  with_reducible refine ⟨_, rfl, by (first | (first | decide | exact Nat.le_trans (by assumption) (by decide) | lia | omega) | (simp only [List.length_append, List.length_cons, List.length_nil]; (first | decide | exact Nat.le_trans (by assumption) (by decide) | lia | omega))), ?_⟩
  refine SJ_nil ?_
  refine SS_loc rfl rfl (by (with_reducible repeat first | exact List.mem_cons_self | refine List.mem_cons_of_mem _ ?_ | assumption | exact mem_mid' | exact mem_mid (by assumption))) (by with_reducible rfl) (by (with_reducible repeat first | exact Put.here | exact Put.new | apply Put.there)) (by ((first | (dsimp only [List.map_cons, List.map_nil]; decide +kernel) | (simp only [List.map_cons, List.map_nil]; decide +kernel)))) (by (with_reducible repeat first | exact Upd.here | exact Upd.mid | apply Upd.there)) ?_
  refine SXs_nil ?_
  refine SXs_cons ?_
  refine SX_Assign ?_
  refine SE_Replace (Nat.le_refl _) (by (first | exact l07_0 | exact l07_1 | exact l07_2 | exact l07_3 | exact l07_4 | exact l07_5 | exact l07_6 | exact l07_7 | exact l07_8 | exact l07_9 | exact l07_10 | exact l07_11 | exact l07_12 | exact l07_13 | exact l07_14 | exact l07_15 | exact l07_16 | exact l07_17 | exact l07_18 | exact l07_19 | exact l07_20 | exact l07_21 | exact l07_22 | exact l07_23 | exact l07_24 | exact l07_25 | exact l07_26 | exact l07_27 | exact l07_28 | exact l07_29 | exact l07_30 | exact l07_31 | exact l07_32 | exact l07_33 | exact l07_34 | exact l07_35 | exact l07_36)) (by (first | exact l07_0 | exact l07_1 | exact l07_2 | exact l07_3 | exact l07_4 | exact l07_5 | exact l07_6 | exact l07_7 | exact l07_8 | exact l07_9 | exact l07_10 | exact l07_11 | exact l07_12 | exact l07_13 | exact l07_14 | exact l07_15 | exact l07_16 | exact l07_17 | exact l07_18 | exact l07_19 | exact l07_20 | exact l07_21 | exact l07_22 | exact l07_23 | exact l07_24 | exact l07_25 | exact l07_26 | exact l07_27 | exact l07_28 | exact l07_29 | exact l07_30 | exact l07_31 | exact l07_32 | exact l07_33 | exact l07_34 | exact l07_35 | exact l07_36)) (by decide +kernel) (by decide +kernel) ?_
  refine SE_Replace (Nat.le_refl _) (by (first | exact l07_0 | exact l07_1 | exact l07_2 | exact l07_3 | exact l07_4 | exact l07_5 | exact l07_6 | exact l07_7 | exact l07_8 | exact l07_9 | exact l07_10 | exact l07_11 | exact l07_12 | exact l07_13 | exact l07_14 | exact l07_15 | exact l07_16 | exact l07_17 | exact l07_18 | exact l07_19 | exact l07_20 | exact l07_21 | exact l07_22 | exact l07_23 | exact l07_24 | exact l07_25 | exact l07_26 | exact l07_27 | exact l07_28 | exact l07_29 | exact l07_30 | exact l07_31 | exact l07_32 | exact l07_33 | exact l07_34 | exact l07_35 | exact l07_36)) (by (first | exact l07_0 | exact l07_1 | exact l07_2 | exact l07_3 | exact l07_4 | exact l07_5 | exact l07_6 | exact l07_7 | exact l07_8 | exact l07_9 | exact l07_10 | exact l07_11 | exact l07_12 | exact l07_13 | exact l07_14 | exact l07_15 | exact l07_16 | exact l07_17 | exact l07_18 | exact l07_19 | exact l07_20 | exact l07_21 | exact l07_22 | exact l07_23 | exact l07_24 | exact l07_25 | exact l07_26 | exact l07_27 | exact l07_28 | exact l07_29 | exact l07_30 | exact l07_31 | exact l07_32 | exact l07_33 | exact l07_34 | exact l07_35 | exact l07_36)) (by decide +kernel) (by decide +kernel) ?_
  refine SE_Replace (Nat.le_refl _) (by (first | exact l07_0 | exact l07_1 | exact l07_2 | exact l07_3 | exact l07_4 | exact l07_5 | exact l07_6 | exact l07_7 | exact l07_8 | exact l07_9 | exact l07_10 | exact l07_11 | exact l07_12 | exact l07_13 | exact l07_14 | exact l07_15 | exact l07_16 | exact l07_17 | exact l07_18 | exact l07_19 | exact l07_20 | exact l07_21 | exact l07_22 | exact l07_23 | exact l07_24 | exact l07_25 | exact l07_26 | exact l07_27 | exact l07_28 | exact l07_29 | exact l07_30 | exact l07_31 | exact l07_32 | exact l07_33 | exact l07_34 | exact l07_35 | exact l07_36)) (by (first | exact l07_0 | exact l07_1 | exact l07_2 | exact l07_3 | exact l07_4 | exact l07_5 | exact l07_6 | exact l07_7 | exact l07_8 | exact l07_9 | exact l07_10 | exact l07_11 | exact l07_12 | exact l07_13 | exact l07_14 | exact l07_15 | exact l07_16 | exact l07_17 | exact l07_18 | exact l07_19 | exact l07_20 | exact l07_21 | exact l07_22 | exact l07_23 | exact l07_24 | exact l07_25 | exact l07_26 | exact l07_27 | exact l07_28 | exact l07_29 | exact l07_30 | exact l07_31 | exact l07_32 | exact l07_33 | exact l07_34 | exact l07_35 | exact l07_36)) (by decide +kernel) (by decide +kernel) ?_
  refine SE_Name ?_ (by decide +kernel)
  refine SN_loc rfl rfl (by (with_reducible repeat first | exact List.mem_cons_self | refine List.mem_cons_of_mem _ ?_ | assumption | exact mem_mid' | exact mem_mid (by assumption))) (by with_reducible rfl) (by (with_reducible repeat first | exact List.mem_cons_self | refine List.mem_cons_of_mem _ ?_ | assumption | exact mem_mid' | exact mem_mid (by assumption))) ?_
  with_reducible refine ⟨_, rfl, by (first | (first | decide | exact Nat.le_trans (by assumption) (by decide) | lia | omega) | (simp only [List.length_append, List.length_cons, List.length_nil]; (first | decide | exact Nat.le_trans (by assumption) (by decide) | lia | omega))), ?_⟩
  with_reducible refine ⟨_, rfl, by (first | (first | decide | exact Nat.le_trans (by assumption) (by decide) | lia | omega) | (simp only [List.length_append, List.length_cons, List.length_nil]; (first | decide | exact Nat.le_trans (by assumption) (by decide) | lia | omega))), ?_⟩
  with_reducible refine ⟨_, rfl, by (first | (first | decide | exact Nat.le_trans (by assumption) (by decide) | lia | omega) | (simp only [List.length_append, List.length_cons, List.length_nil]; (first | decide | exact Nat.le_trans (by assumption) (by decide) | lia | omega))), ?_⟩
  refine SS_loc rfl rfl (by (with_reducible repeat first | exact List.mem_cons_self | refine List.mem_cons_of_mem _ ?_ | assumption | exact mem_mid' | exact mem_mid (by assumption))) (by with_reducible rfl) (by (with_reducible repeat first | exact Put.here | exact Put.new | apply Put.there)) (by ((first | (dsimp only [List.map_cons, List.map_nil]; decide +kernel) | (simp only [List.map_cons, List.map_nil]; decide +kernel)))) (by (with_reducible repeat first | exact Upd.here | exact Upd.mid | apply Upd.there)) ?_
  refine SXs_cons ?_
  refine SX_Assign ?_
  refine SE_Meth ?_
  refine SE_Replace (Nat.le_refl _) (by (first | exact l07_0 | exact l07_1 | exact l07_2 | exact l07_3 | exact l07_4 | exact l07_5 | exact l07_6 | exact l07_7 | exact l07_8 | exact l07_9 | exact l07_10 | exact l07_11 | exact l07_12 | exact l07_13 | exact l07_14 | exact l07_15 | exact l07_16 | exact l07_17 | exact l07_18 | exact l07_19 | exact l07_20 | exact l07_21 | exact l07_22 | exact l07_23 | exact l07_24 | exact l07_25 | exact l07_26 | exact l07_27 | exact l07_28 | exact l07_29 | exact l07_30 | exact l07_31 | exact l07_32 | exact l07_33 | exact l07_34 | exact l07_35 | exact l07_36)) (by (first | exact l07_0 | exact l07_1 | exact l07_2 | exact l07_3 | exact l07_4 | exact l07_5 | exact l07_6 | exact l07_7 | exact l07_8 | exact l07_9 | exact l07_10 | exact l07_11 | exact l07_12 | exact l07_13 | exact l07_14 | exact l07_15 | exact l07_16 | exact l07_17 | exact l07_18 | exact l07_19 | exact l07_20 | exact l07_21 | exact l07_22 | exact l07_23 | exact l07_24 | exact l07_25 | exact l07_26 | exact l07_27 | exact l07_28 | exact l07_29 | exact l07_30 | exact l07_31 | exact l07_32 | exact l07_33 | exact l07_34 | exact l07_35 | exact l07_36)) (by decide +kernel) (by decide +kernel) ?_
  refine SE_Name ?_ (by decide +kernel)
  refine SN_loc rfl rfl (by (with_reducible repeat first | exact List.mem_cons_self | refine List.mem_cons_of_mem _ ?_ | assumption | exact mem_mid' | exact mem_mid (by assumption))) (by with_reducible rfl) (by (with_reducible repeat first | exact List.mem_cons_self | refine List.mem_cons_of_mem _ ?_ | assumption | exact mem_mid' | exact mem_mid (by assumption))) ?_
  with_reducible refine ⟨_, rfl, by (first | (first | decide | exact Nat.le_trans (by assumption) (by decide) | lia | omega) | (simp only [List.length_append, List.length_cons, List.length_nil]; (first | decide | exact Nat.le_trans (by assumption) (by decide) | lia | omega))), ?_⟩
  refine mth_str (fun t s P h => GM.rstrip h) ?_
  refine SEs_nil ?_
  with_reducible refine ⟨kp_builtin, ?_⟩
  refine call_rstrip (by ((rw [sizeLine_eq]; (try simp only [List.length_append, List.length_cons, List.length_nil, List.length_map]); (first | decide | exact Nat.le_trans (by assumption) (by decide) | lia | omega)))) ?_
  refine SS_loc rfl rfl (by (with_reducible repeat first | exact List.mem_cons_self | refine List.mem_cons_of_mem _ ?_ | assumption | exact mem_mid' | exact mem_mid (by assumption))) (by with_reducible rfl) (by (with_reducible repeat first | exact Put.here | exact Put.new | apply Put.there)) (by ((first | (dsimp only [List.map_cons, List.map_nil]; decide +kernel) | (simp only [List.map_cons, List.map_nil]; decide +kernel)))) (by (with_reducible repeat first | exact Upd.here | exact Upd.mid | apply Upd.there)) ?_
  refine SXs_cons ?_
  refine SX_Return ?_
  refine SE_JoinedStr ?_
  refine SJ_cons ?_
  refine SE_strL (by (first | exact l07_0 | exact l07_1 | exact l07_2 | exact l07_3 | exact l07_4 | exact l07_5 | exact l07_6 | exact l07_7 | exact l07_8 | exact l07_9 | exact l07_10 | exact l07_11 | exact l07_12 | exact l07_13 | exact l07_14 | exact l07_15 | exact l07_16 | exact l07_17 | exact l07_18 | exact l07_19 | exact l07_20 | exact l07_21 | exact l07_22 | exact l07_23 | exact l07_24 | exact l07_25 | exact l07_26 | exact l07_27 | exact l07_28 | exact l07_29 | exact l07_30 | exact l07_31 | exact l07_32 | exact l07_33 | exact l07_34 | exact l07_35 | exact l07_36)) ?_
  with_reducible refine ⟨_, rfl, by (first | (first | decide | exact Nat.le_trans (by assumption) (by decide) | lia | omega) | (simp only [List.length_append, List.length_cons, List.length_nil]; (first | decide | exact Nat.le_trans (by assumption) (by decide) | lia | omega))), ?_⟩
  refine SJ_cons ?_
  refine SE_FieldS ?_
  refine SE_Name ?_ (by decide +kernel)
  refine SN_loc rfl rfl (by (with_reducible repeat first | exact List.mem_cons_self | refine List.mem_cons_of_mem _ ?_ | assumption | exact mem_mid' | exact mem_mid (by assumption))) (by with_reducible rfl) (by (with_reducible repeat first | exact List.mem_cons_self | refine List.mem_cons_of_mem _ ?_ | assumption | exact mem_mid' | exact mem_mid (by assumption))) ?_
  with_reducible refine ⟨_, rfl, by (first | (first | decide | exact Nat.le_trans (by assumption) (by decide) | lia | omega) | (simp only [List.length_append, List.length_cons, List.length_nil]; (first | decide | exact Nat.le_trans (by assumption) (by decide) | lia | omega))), ?_⟩
  with_reducible refine ⟨_, rfl, by (first | (first | decide | exact Nat.le_trans (by assumption) (by decide) | lia | omega) | (simp only [List.length_append, List.length_cons, List.length_nil]; (first | decide | exact Nat.le_trans (by assumption) (by decide) | lia | omega))), ?_⟩
  refine SJ_cons ?_
  refine SE_strL (by (first | exact l07_0 | exact l07_1 | exact l07_2 | exact l07_3 | exact l07_4 | exact l07_5 | exact l07_6 | exact l07_7 | exact l07_8 | exact l07_9 | exact l07_10 | exact l07_11 | exact l07_12 | exact l07_13 | exact l07_14 | exact l07_15 | exact l07_16 | exact l07_17 | exact l07_18 | exact l07_19 | exact l07_20 | exact l07_21 | exact l07_22 | exact l07_23 | exact l07_24 | exact l07_25 | exact l07_26 | exact l07_27 | exact l07_28 | exact l07_29 | exact l07_30 | exact l07_31 | exact l07_32 | exact l07_33 | exact l07_34 | exact l07_35 | exact l07_36)) ?_
  with_reducible refine ⟨_, rfl, by (first | (first | decide | exact Nat.le_trans (by assumption) (by decide) | lia | omega) | (simp only [List.length_append, List.length_cons, List.length_nil]; (first | decide | exact Nat.le_trans (by assumption) (by decide) | lia | omega))), ?_⟩
  refine SJ_cons ?_
  refine SE_FieldS ?_
  refine SE_Name ?_ (by decide +kernel)
  refine SN_loc rfl rfl (by (with_reducible repeat first | exact List.mem_cons_self | refine List.mem_cons_of_mem _ ?_ | assumption | exact mem_mid' | exact mem_mid (by assumption))) (by with_reducible rfl) (by (with_reducible repeat first | exact List.mem_cons_self | refine List.mem_cons_of_mem _ ?_ | assumption | exact mem_mid' | exact mem_mid (by assumption))) ?_
  with_reducible refine ⟨_, rfl, by (first | (first | decide | exact Nat.le_trans (by assumption) (by decide) | lia | omega) | (simp only [List.length_append, List.length_cons, List.length_nil]; (first | decide | exact Nat.le_trans (by assumption) (by decide) | lia | omega))), ?_⟩
  with_reducible refine ⟨_, rfl, by (first | (first | decide | exact Nat.le_trans (by assumption) (by decide) | lia | omega) | (simp only [List.length_append, List.length_cons, List.length_nil]; (first | decide | exact Nat.le_trans (by assumption) (by decide) | lia | omega))), ?_⟩
  refine SJ_cons ?_
  refine SE_strL (by (first | exact l07_0 | exact l07_1 | exact l07_2 | exact l07_3 | exact l07_4 | exact l07_5 | exact l07_6 | exact l07_7 | exact l07_8 | exact l07_9 | exact l07_10 | exact l07_11 | exact l07_12 | exact l07_13 | exact l07_14 | exact l07_15 | exact l07_16 | exact l07_17 | exact l07_18 | exact l07_19 | exact l07_20 | exact l07_21 | exact l07_22 | exact l07_23 | exact l07_24 | exact l07_25 | exact l07_26 | exact l07_27 | exact l07_28 | exact l07_29 | exact l07_30 | exact l07_31 | exact l07_32 | exact l07_33 | exact l07_34 | exact l07_35 | exact l07_36)) ?_
  with_reducible refine ⟨_, rfl, by (first | (first | decide | exact Nat.le_trans (by assumption) (by decide) | lia | omega) | (simp only [List.length_append, List.length_cons, List.length_nil]; (first | decide | exact Nat.le_trans (by assumption) (by decide) | lia | omega))), ?_⟩
  refine SJ_cons ?_
  refine SE_FieldS ?_
  refine SE_Name ?_ (by decide +kernel)
  refine SN_loc rfl rfl (by (with_reducible repeat first | exact List.mem_cons_self | refine List.mem_cons_of_mem _ ?_ | assumption | exact mem_mid' | exact mem_mid (by assumption))) (by with_reducible rfl) (by (with_reducible repeat first | exact List.mem_cons_self | refine List.mem_cons_of_mem _ ?_ | assumption | exact mem_mid' | exact mem_mid (by assumption))) ?_
  with_reducible refine ⟨_, rfl, by (first | (first | decide | exact Nat.le_trans (by assumption) (by decide) | lia | omega) | (simp only [List.length_append, List.length_cons, List.length_nil]; (first | decide | exact Nat.le_trans (by assumption) (by decide) | lia | omega))), ?_⟩
  with_reducible refine ⟨_, rfl, by (first | (first | decide | exact Nat.le_trans (by assumption) (by decide) | lia | omega) | (simp only [List.length_append, List.length_cons, List.length_nil]; (first | decide | exact Nat.le_trans (by assumption) (by decide) | lia | omega))), ?_⟩
  refine SJ_cons ?_
  refine SE_strL (by (first | exact l07_0 | exact l07_1 | exact l07_2 | exact l07_3 | exact l07_4 | exact l07_5 | exact l07_6 | exact l07_7 | exact l07_8 | exact l07_9 | exact l07_10 | exact l07_11 | exact l07_12 | exact l07_13 | exact l07_14 | exact l07_15 | exact l07_16 | exact l07_17 | exact l07_18 | exact l07_19 | exact l07_20 | exact l07_21 | exact l07_22 | exact l07_23 | exact l07_24 | exact l07_25 | exact l07_26 | exact l07_27 | exact l07_28 | exact l07_29 | exact l07_30 | exact l07_31 | exact l07_32 | exact l07_33 | exact l07_34 | exact l07_35 | exact l07_36)) ?_
  with_reducible refine ⟨_, rfl, by (first | (first | decide | exact Nat.le_trans (by assumption) (by decide) | lia | omega) | (simp only [List.length_append, List.length_cons, List.length_nil]; (first | decide | exact Nat.le_trans (by assumption) (by decide) | lia | omega))), ?_⟩
  refine SJ_nil ?_
  exact ⟨_, .drop .refl, by simp [cellT, idT, repls], rfl⟩
/-! ### making a sheet -/
noncomputable abbrev attrK (n w : Int) : List (Str × V) := [(Str.ofString "_tabsize", V.int n), (Str.ofString "_wrapcolumn", V.int w), (Str.ofString "_linejunk", V.none), (Str.ofString "_charjunk", V.ref 29)]
theorem c_initK (hK : K07 W) (hh : A.handled = none) (hd : A.depth < recursionLimit) {x dx : Addr} {n w : Int} :
    SLCK W A (.ref 44) [.ref x] [Str.ofString "tabsize", Str.ofString "wrapcolumn"] [.int n, .int w] ((x, .obj (instObj 111 dx)) :: (dx, .att []) :: own) (fun r o => r = .none ∧ o = (x, .obj (instObj 111 dx)) :: (dx, .att (attrK n w)) :: own) := by
  refine' do_callDK [Str.ofString "self", Str.ofString "tabsize", Str.ofString "wrapcolumn", Str.ofString "linejunk", Str.ofString "charjunk"] [.none, .ref 29] [V.none, V.ref 29] ?hdf ?ho ?hcd hd ?hb ?hloc ?nd ?hh7 ?c1 ?c2 ?c3 ?c4
  case ho => exact K_of hK rfl
  case hcd => rw [hK]; rfl
  case hb => intro s vs ks X hl hk; obtain ⟨_, rfl⟩ := len_1 hl; obtain ⟨_, _, rfl⟩ := len_2 hk; exact binds_K X rfl (K_of hK rfl) rfl rfl rfl
  case hdf => intro fz; exact .cons (.dat .none) (.cons (.val _) .nil)
  case hloc => decide +kernel
  case nd => decide +kernel
  case c1 => rfl
  case c2 => rfl
  case c3 => rfl
  case c4 => decide +kernel
  intro L
  dsimp only [lawS, nthS, fdB, fdS, clB, PySem.Challenge.pw_dm0066_07]
  simp only [List.zip_cons_cons, List.zip_nil_right, List.cons_append, List.nil_append]
  refine SXs_cons ?_
  refine SX_AssignAttr ?_
  refine SE_Name ?_ (by decide +kernel)
  refine SN_loc rfl rfl (by (with_reducible repeat first | exact List.mem_cons_self | refine List.mem_cons_of_mem _ ?_ | assumption | exact mem_mid' | exact mem_mid (by assumption))) (by with_reducible rfl) (by (with_reducible repeat first | exact List.mem_cons_self | refine List.mem_cons_of_mem _ ?_ | assumption | exact mem_mid' | exact mem_mid (by assumption))) ?_
  refine SE_Name ?_ (by decide +kernel)
  refine SN_loc rfl rfl (by (with_reducible repeat first | exact List.mem_cons_self | refine List.mem_cons_of_mem _ ?_ | assumption | exact mem_mid' | exact mem_mid (by assumption))) (by with_reducible rfl) (by (with_reducible repeat first | exact List.mem_cons_self | refine List.mem_cons_of_mem _ ?_ | assumption | exact mem_mid' | exact mem_mid (by assumption))) ?_
  with_reducible refine ⟨_, rfl, ?_⟩
  refine do_setattr (cls07 hK) (by rw [hK]; rfl) (by (with_reducible repeat first | exact List.mem_cons_self | refine List.mem_cons_of_mem _ ?_ | assumption | exact mem_mid' | exact mem_mid (by assumption))) (by (with_reducible repeat first | exact List.mem_cons_self | refine List.mem_cons_of_mem _ ?_ | assumption | exact mem_mid' | exact mem_mid (by assumption))) (by (with_reducible repeat first | exact Put.here | exact Put.new | apply Put.there)) (by ((first | (dsimp only [List.map_cons, List.map_nil]; decide +kernel) | (simp only [List.map_cons, List.map_nil]; decide +kernel)))) (by simp) (by (with_reducible repeat first | exact Upd.here | exact Upd.mid | apply Upd.there)) ?_
  refine SXs_cons ?_
  refine SX_AssignAttr ?_
  refine SE_Name ?_ (by decide +kernel)
  refine SN_loc rfl rfl (by (with_reducible repeat first | exact List.mem_cons_self | refine List.mem_cons_of_mem _ ?_ | assumption | exact mem_mid' | exact mem_mid (by assumption))) (by with_reducible rfl) (by (with_reducible repeat first | exact List.mem_cons_self | refine List.mem_cons_of_mem _ ?_ | assumption | exact mem_mid' | exact mem_mid (by assumption))) ?_
  refine SE_Name ?_ (by decide +kernel)
  refine SN_loc rfl rfl (by (with_reducible repeat first | exact List.mem_cons_self | refine List.mem_cons_of_mem _ ?_ | assumption | exact mem_mid' | exact mem_mid (by assumption))) (by with_reducible rfl) (by (with_reducible repeat first | exact List.mem_cons_self | refine List.mem_cons_of_mem _ ?_ | assumption | exact mem_mid' | exact mem_mid (by assumption))) ?_
  with_reducible refine ⟨_, rfl, ?_⟩
  refine do_setattr (cls07 hK) (by rw [hK]; rfl) (by (with_reducible repeat first | exact List.mem_cons_self | refine List.mem_cons_of_mem _ ?_ | assumption | exact mem_mid' | exact mem_mid (by assumption))) (by (with_reducible repeat first | exact List.mem_cons_self | refine List.mem_cons_of_mem _ ?_ | assumption | exact mem_mid' | exact mem_mid (by assumption))) (by (with_reducible repeat first | exact Put.here | exact Put.new | apply Put.there)) (by ((first | (dsimp only [List.map_cons, List.map_nil]; decide +kernel) | (simp only [List.map_cons, List.map_nil]; decide +kernel)))) (by simp) (by (with_reducible repeat first | exact Upd.here | exact Upd.mid | apply Upd.there)) ?_
  refine SXs_cons ?_
  refine SX_AssignAttr ?_
  refine SE_Name ?_ (by decide +kernel)
  refine SN_loc rfl rfl (by (with_reducible repeat first | exact List.mem_cons_self | refine List.mem_cons_of_mem _ ?_ | assumption | exact mem_mid' | exact mem_mid (by assumption))) (by with_reducible rfl) (by (with_reducible repeat first | exact List.mem_cons_self | refine List.mem_cons_of_mem _ ?_ | assumption | exact mem_mid' | exact mem_mid (by assumption))) ?_
  refine SE_Name ?_ (by decide +kernel)
  refine SN_loc rfl rfl (by (with_reducible repeat first | exact List.mem_cons_self | refine List.mem_cons_of_mem _ ?_ | assumption | exact mem_mid' | exact mem_mid (by assumption))) (by with_reducible rfl) (by (with_reducible repeat first | exact List.mem_cons_self | refine List.mem_cons_of_mem _ ?_ | assumption | exact mem_mid' | exact mem_mid (by assumption))) ?_
  with_reducible refine ⟨_, rfl, ?_⟩
  refine do_setattr (cls07 hK) (by rw [hK]; rfl) (by (with_reducible repeat first | exact List.mem_cons_self | refine List.mem_cons_of_mem _ ?_ | assumption | exact mem_mid' | exact mem_mid (by assumption))) (by (with_reducible repeat first | exact List.mem_cons_self | refine List.mem_cons_of_mem _ ?_ | assumption | exact mem_mid' | exact mem_mid (by assumption))) (by (with_reducible repeat first | exact Put.here | exact Put.new | apply Put.there)) (by ((first | (dsimp only [List.map_cons, List.map_nil]; decide +kernel) | (simp only [List.map_cons, List.map_nil]; decide +kernel)))) (by simp) (by (with_reducible repeat first | exact Upd.here | exact Upd.mid | apply Upd.there)) ?_
  refine SXs_cons ?_
  refine SX_AssignAttr ?_
  refine SE_Name ?_ (by decide +kernel)
  refine SN_loc rfl rfl (by (with_reducible repeat first | exact List.mem_cons_self | refine List.mem_cons_of_mem _ ?_ | assumption | exact mem_mid' | exact mem_mid (by assumption))) (by with_reducible rfl) (by (with_reducible repeat first | exact List.mem_cons_self | refine List.mem_cons_of_mem _ ?_ | assumption | exact mem_mid' | exact mem_mid (by assumption))) ?_
  refine SE_Name ?_ (by decide +kernel)
  refine SN_loc rfl rfl (by (with_reducible repeat first | exact List.mem_cons_self | refine List.mem_cons_of_mem _ ?_ | assumption | exact mem_mid' | exact mem_mid (by assumption))) (by with_reducible rfl) (by (with_reducible repeat first | exact List.mem_cons_self | refine List.mem_cons_of_mem _ ?_ | assumption | exact mem_mid' | exact mem_mid (by assumption))) ?_
  with_reducible refine ⟨_, rfl, ?_⟩
  refine do_setattr (cls07 hK) (by rw [hK]; rfl) (by (with_reducible repeat first | exact List.mem_cons_self | refine List.mem_cons_of_mem _ ?_ | assumption | exact mem_mid' | exact mem_mid (by assumption))) (by (with_reducible repeat first | exact List.mem_cons_self | refine List.mem_cons_of_mem _ ?_ | assumption | exact mem_mid' | exact mem_mid (by assumption))) (by (with_reducible repeat first | exact Put.here | exact Put.new | apply Put.there)) (by ((first | (dsimp only [List.map_cons, List.map_nil]; decide +kernel) | (simp only [List.map_cons, List.map_nil]; decide +kernel)))) (by simp) (by (with_reducible repeat first | exact Upd.here | exact Upd.mid | apply Upd.there)) ?_
  refine SXs_nil ?_
  exact ⟨_, .drop .refl, rfl, rfl⟩
theorem do_sheetK (hK : K07 W) (hh : A.handled = none) (hd : A.depth + 1 < recursionLimit) {n w : Int} {Q : V → Own → Prop} (h : ∀ x dx, Q (.ref x) ((x, .obj (instObj 111 dx)) :: (dx, .att (attrK n w)) :: own)) :
    SL W A RV (fun ks => call (.ref 111) [] ([Str.ofString "tabsize", Str.ofString "wrapcolumn"].zip ks)) [.int n, .int w] own Q :=
  do_makeK (cls07 hK) (by rw [hK]; rfl) (by rw [hK]; rfl) fun A' e1 e2 e3 x dx fz s vs ks H ht r1 r2 => codeAny_mono (c_initK hK (e1.trans hh) (by (first | decide | exact Nat.le_trans (by assumption) (by decide) | lia | omega)) fz s vs ks H ht r1 r2) fun r s' p => by
    rcases r with e | (v | _ | _ | _) <;> first | exact p.elim | skip
    obtain ⟨fz', b, own', k, H', r, rfl, rfl⟩ := p
    exact ⟨fz', _, _, k, H', r, rfl, h x dx⟩
/-! ### the lines -/
noncomputable def tails : List (List Nat) := [[], [10], [13, 10], [10, 10], [13]]
noncomputable def words : List (List Nat) := [[97], [32], [98], [38], [9], [60], [9], [32], [0, 43], [9], [62], [38, 108, 116, 59], [0], [121, 122], [34]]
/-- a line's body: signs of the words, at most so many columns at nine columns a tab -/
noncomputable def wdt : List Nat → Nat
  | [] => 0
  | c :: l => (if c = 9 then 9 else 1) + wdt l
theorem wdt_app (a b : List Nat) : wdt (a ++ b) = wdt a + wdt b := by
  induction a with
  | nil => simp [wdt]
  | cons c a ih => rw [List.cons_append, wdt, wdt, ih]; (first | decide | exact Nat.le_trans (by assumption) (by decide) | lia | omega)
noncomputable def BodyOk (n : Nat) (l : List Nat) : Prop := wdt l ≤ 9 * n ∧ ∀ c ∈ l, c ∈ [97, 32, 98, 38, 9, 60, 0, 43, 62, 108, 116, 59, 121, 122, 34]
noncomputable def LineOk (l : List Nat) : Prop := ∃ b t, l = b ++ t ∧ BodyOk 9 b ∧ t ∈ tails
noncomputable abbrev strD (l : List Nat) : PyData := .str (S l)
theorem word_at {k : Int} (h0 : 0 ≤ k) (h1 : k < 15) : ∃ w : List Nat, (words.map strD)[place k 15]? = some (strD w) ∧ BodyOk 1 w ∧ w.length ≤ 4 := by
  have key : ∀ m : Fin 15, ∃ w : List Nat, (words.map strD)[m.val]? = some (strD w) ∧ BodyOk 1 w ∧ w.length ≤ 4 := by
    intro m
    have h2 : ∀ m : Fin 15, wdt (words[m.val]'(m.isLt)) ≤ 9 * 1 ∧ (∀ c ∈ words[m.val]'(m.isLt), c ∈ [97, 32, 98, 38, 9, 60, 0, 43, 62, 108, 116, 59, 121, 122, 34]) ∧ (words[m.val]'(m.isLt)).length ≤ 4 := by decide +kernel
    exact ⟨words[m.val]'(m.isLt), by rw [List.getElem?_map, List.getElem?_eq_getElem]; rfl, ⟨(h2 m).1, (h2 m).2.1⟩, (h2 m).2.2⟩
  obtain ⟨w, h⟩ := key ⟨k.toNat, by (first | decide | exact Nat.le_trans (by assumption) (by decide) | lia | omega)⟩
  exact ⟨w, by unfold place; rw [if_neg (by (first | decide | exact Nat.le_trans (by assumption) (by decide) | lia | omega))]; exact h.1, h.2⟩
theorem tail_at {k : Int} (h0 : 0 ≤ k) (h1 : k < 5) : ∃ t : List Nat, (tails.map strD)[place k 5]? = some (strD t) ∧ t ∈ tails := by
  have key : ∀ m : Fin 5, ∃ t : List Nat, (tails.map strD)[m.val]? = some (strD t) ∧ t ∈ tails := by
    intro m
    exact ⟨tails[m.val]'(m.isLt), by rw [List.getElem?_map, List.getElem?_eq_getElem]; rfl, List.getElem_mem _⟩
  obtain ⟨w, h⟩ := key ⟨k.toNat, by (first | decide | exact Nat.le_trans (by assumption) (by decide) | lia | omega)⟩
  exact ⟨w, by unfold place; rw [if_neg (by (first | decide | exact Nat.le_trans (by assumption) (by decide) | lia | omega))]; exact h.1, h.2⟩
theorem tail_len {t : List Nat} (h : t ∈ tails) : t.length ≤ 2 := by
  have : ∀ t ∈ tails, t.length ≤ 2 := by decide +kernel
  exact this t h
theorem wdt_len : ∀ l : List Nat, l.length ≤ wdt l
  | [] => Nat.le_refl _
  | c :: l => by
    have := wdt_len l
    rw [wdt, List.length_cons]; split <;> (first | decide | exact Nat.le_trans (by assumption) (by decide) | lia | omega)
/-! ### the lines -/
theorem ST_pure {e : Expr} {c : Bool} {Q : Bool → Own → Prop} (h : ST W A env e own fun c' o => c' = c ∧ o = own) (q : Q c own) : ST W A env e own Q := SG.mono h (by rintro _ _ ⟨rfl, rfl⟩; exact q)
theorem body_app {n m : Nat} {a b : List Nat} (h1 : BodyOk n a) (h2 : BodyOk m b) : BodyOk (n + m) (a ++ b) := by
  refine ⟨?_, fun c hc => ?_⟩
  · rw [wdt_app]; have := h1.1; have := h2.1; (first | decide | exact Nat.le_trans (by assumption) (by decide) | lia | omega)
  · rcases List.mem_append.mp hc with hc | hc; exact h1.2 c hc; exact h2.2 c hc
theorem body_mono {n m : Nat} {a : List Nat} (h : BodyOk n a) (hm : n ≤ m) : BodyOk m a := ⟨by have := h.1; (first | decide | exact Nat.le_trans (by assumption) (by decide) | lia | omega), h.2⟩
theorem body_nil {n : Nat} : BodyOk n [] := ⟨by rw [wdt]; (first | decide | exact Nat.le_trans (by assumption) (by decide) | lia | omega), fun c hc => nomatch hc⟩
theorem body_len {n : Nat} {a : List Nat} (h : BodyOk n a) : a.length ≤ 9 * n := by have := wdt_len a; have := h.1; (first | decide | exact Nat.le_trans (by assumption) (by decide) | lia | omega)
set_option maxHeartbeats 8000000 in
theorem c_lines (hK : K07 W) (hh : A.handled = none) (hd : A.depth < recursionLimit) (xs : List Int) (hn : xs.length ≤ 100) :
    SLC W A (.ref 122) [.lst (xs.map .int)] own (fun r o => ∃ l0 l1 : List (List Nat), r = .lst [.list (l0.map strD), .list (l1.map strD)] ∧ o = own ∧ (∀ l ∈ l0, LineOk l) ∧ (∀ l ∈ l1, LineOk l) ∧ l0.length ≤ 101 ∧ l1.length ≤ 101) := by
  refine' do_callC [Str.ofString "draws"] ?ho ?hcd hd ?hb ?hloc ?nd ?hh8 ?c1 ?c2 ?c3 ?c4
  case ho => exact K_of hK rfl
  case hcd => rw [hK]; rfl
  case hb => intro s vs _ hl; obtain ⟨_, rfl⟩ := len_1 hl; exact BindsTo.of_eq rfl
  case hloc => decide +kernel
  case nd => decide +kernel
  case c1 => rfl
  case c2 => rfl
  case c3 => rfl
  case c4 => decide +kernel
  intro L
  dsimp only [lawS, nthS, fdB, fdS, clB, PySem.Challenge.pw_dm0066_07]
  simp only [List.zip_cons_cons, List.zip_nil_right]
  refine @deeper_gen W A _ _ _ _ _ hh ?_
  intro A' hh' hd' hu'
  refine SXs_cons ?_
  refine SX_Assign ?_
  refine SE_ListF ?_
  refine SEs_cons ?_
  refine SE_strL (by (first | exact l07_0 | exact l07_1 | exact l07_2 | exact l07_3 | exact l07_4 | exact l07_5 | exact l07_6 | exact l07_7 | exact l07_8 | exact l07_9 | exact l07_10 | exact l07_11 | exact l07_12 | exact l07_13 | exact l07_14 | exact l07_15 | exact l07_16 | exact l07_17 | exact l07_18 | exact l07_19 | exact l07_20 | exact l07_21 | exact l07_22 | exact l07_23 | exact l07_24 | exact l07_25 | exact l07_26 | exact l07_27 | exact l07_28 | exact l07_29 | exact l07_30 | exact l07_31 | exact l07_32 | exact l07_33 | exact l07_34 | exact l07_35 | exact l07_36)) ?_
  refine SEs_cons ?_
  refine SE_strL (by (first | exact l07_0 | exact l07_1 | exact l07_2 | exact l07_3 | exact l07_4 | exact l07_5 | exact l07_6 | exact l07_7 | exact l07_8 | exact l07_9 | exact l07_10 | exact l07_11 | exact l07_12 | exact l07_13 | exact l07_14 | exact l07_15 | exact l07_16 | exact l07_17 | exact l07_18 | exact l07_19 | exact l07_20 | exact l07_21 | exact l07_22 | exact l07_23 | exact l07_24 | exact l07_25 | exact l07_26 | exact l07_27 | exact l07_28 | exact l07_29 | exact l07_30 | exact l07_31 | exact l07_32 | exact l07_33 | exact l07_34 | exact l07_35 | exact l07_36)) ?_
  refine SEs_cons ?_
  refine SE_strL (by (first | exact l07_0 | exact l07_1 | exact l07_2 | exact l07_3 | exact l07_4 | exact l07_5 | exact l07_6 | exact l07_7 | exact l07_8 | exact l07_9 | exact l07_10 | exact l07_11 | exact l07_12 | exact l07_13 | exact l07_14 | exact l07_15 | exact l07_16 | exact l07_17 | exact l07_18 | exact l07_19 | exact l07_20 | exact l07_21 | exact l07_22 | exact l07_23 | exact l07_24 | exact l07_25 | exact l07_26 | exact l07_27 | exact l07_28 | exact l07_29 | exact l07_30 | exact l07_31 | exact l07_32 | exact l07_33 | exact l07_34 | exact l07_35 | exact l07_36)) ?_
  refine SEs_cons ?_
  refine SE_strL (by (first | exact l07_0 | exact l07_1 | exact l07_2 | exact l07_3 | exact l07_4 | exact l07_5 | exact l07_6 | exact l07_7 | exact l07_8 | exact l07_9 | exact l07_10 | exact l07_11 | exact l07_12 | exact l07_13 | exact l07_14 | exact l07_15 | exact l07_16 | exact l07_17 | exact l07_18 | exact l07_19 | exact l07_20 | exact l07_21 | exact l07_22 | exact l07_23 | exact l07_24 | exact l07_25 | exact l07_26 | exact l07_27 | exact l07_28 | exact l07_29 | exact l07_30 | exact l07_31 | exact l07_32 | exact l07_33 | exact l07_34 | exact l07_35 | exact l07_36)) ?_
  refine SEs_cons ?_
  refine SE_strL (by (first | exact l07_0 | exact l07_1 | exact l07_2 | exact l07_3 | exact l07_4 | exact l07_5 | exact l07_6 | exact l07_7 | exact l07_8 | exact l07_9 | exact l07_10 | exact l07_11 | exact l07_12 | exact l07_13 | exact l07_14 | exact l07_15 | exact l07_16 | exact l07_17 | exact l07_18 | exact l07_19 | exact l07_20 | exact l07_21 | exact l07_22 | exact l07_23 | exact l07_24 | exact l07_25 | exact l07_26 | exact l07_27 | exact l07_28 | exact l07_29 | exact l07_30 | exact l07_31 | exact l07_32 | exact l07_33 | exact l07_34 | exact l07_35 | exact l07_36)) ?_
  refine SEs_cons ?_
  refine SE_strL (by (first | exact l07_0 | exact l07_1 | exact l07_2 | exact l07_3 | exact l07_4 | exact l07_5 | exact l07_6 | exact l07_7 | exact l07_8 | exact l07_9 | exact l07_10 | exact l07_11 | exact l07_12 | exact l07_13 | exact l07_14 | exact l07_15 | exact l07_16 | exact l07_17 | exact l07_18 | exact l07_19 | exact l07_20 | exact l07_21 | exact l07_22 | exact l07_23 | exact l07_24 | exact l07_25 | exact l07_26 | exact l07_27 | exact l07_28 | exact l07_29 | exact l07_30 | exact l07_31 | exact l07_32 | exact l07_33 | exact l07_34 | exact l07_35 | exact l07_36)) ?_
  refine SEs_cons ?_
  refine SE_strL (by (first | exact l07_0 | exact l07_1 | exact l07_2 | exact l07_3 | exact l07_4 | exact l07_5 | exact l07_6 | exact l07_7 | exact l07_8 | exact l07_9 | exact l07_10 | exact l07_11 | exact l07_12 | exact l07_13 | exact l07_14 | exact l07_15 | exact l07_16 | exact l07_17 | exact l07_18 | exact l07_19 | exact l07_20 | exact l07_21 | exact l07_22 | exact l07_23 | exact l07_24 | exact l07_25 | exact l07_26 | exact l07_27 | exact l07_28 | exact l07_29 | exact l07_30 | exact l07_31 | exact l07_32 | exact l07_33 | exact l07_34 | exact l07_35 | exact l07_36)) ?_
  refine SEs_cons ?_
  refine SE_strL (by (first | exact l07_0 | exact l07_1 | exact l07_2 | exact l07_3 | exact l07_4 | exact l07_5 | exact l07_6 | exact l07_7 | exact l07_8 | exact l07_9 | exact l07_10 | exact l07_11 | exact l07_12 | exact l07_13 | exact l07_14 | exact l07_15 | exact l07_16 | exact l07_17 | exact l07_18 | exact l07_19 | exact l07_20 | exact l07_21 | exact l07_22 | exact l07_23 | exact l07_24 | exact l07_25 | exact l07_26 | exact l07_27 | exact l07_28 | exact l07_29 | exact l07_30 | exact l07_31 | exact l07_32 | exact l07_33 | exact l07_34 | exact l07_35 | exact l07_36)) ?_
  refine SEs_cons ?_
  refine SE_strL (by (first | exact l07_0 | exact l07_1 | exact l07_2 | exact l07_3 | exact l07_4 | exact l07_5 | exact l07_6 | exact l07_7 | exact l07_8 | exact l07_9 | exact l07_10 | exact l07_11 | exact l07_12 | exact l07_13 | exact l07_14 | exact l07_15 | exact l07_16 | exact l07_17 | exact l07_18 | exact l07_19 | exact l07_20 | exact l07_21 | exact l07_22 | exact l07_23 | exact l07_24 | exact l07_25 | exact l07_26 | exact l07_27 | exact l07_28 | exact l07_29 | exact l07_30 | exact l07_31 | exact l07_32 | exact l07_33 | exact l07_34 | exact l07_35 | exact l07_36)) ?_
  refine SEs_cons ?_
  refine SE_strL (by (first | exact l07_0 | exact l07_1 | exact l07_2 | exact l07_3 | exact l07_4 | exact l07_5 | exact l07_6 | exact l07_7 | exact l07_8 | exact l07_9 | exact l07_10 | exact l07_11 | exact l07_12 | exact l07_13 | exact l07_14 | exact l07_15 | exact l07_16 | exact l07_17 | exact l07_18 | exact l07_19 | exact l07_20 | exact l07_21 | exact l07_22 | exact l07_23 | exact l07_24 | exact l07_25 | exact l07_26 | exact l07_27 | exact l07_28 | exact l07_29 | exact l07_30 | exact l07_31 | exact l07_32 | exact l07_33 | exact l07_34 | exact l07_35 | exact l07_36)) ?_
  refine SEs_cons ?_
  refine SE_strL (by (first | exact l07_0 | exact l07_1 | exact l07_2 | exact l07_3 | exact l07_4 | exact l07_5 | exact l07_6 | exact l07_7 | exact l07_8 | exact l07_9 | exact l07_10 | exact l07_11 | exact l07_12 | exact l07_13 | exact l07_14 | exact l07_15 | exact l07_16 | exact l07_17 | exact l07_18 | exact l07_19 | exact l07_20 | exact l07_21 | exact l07_22 | exact l07_23 | exact l07_24 | exact l07_25 | exact l07_26 | exact l07_27 | exact l07_28 | exact l07_29 | exact l07_30 | exact l07_31 | exact l07_32 | exact l07_33 | exact l07_34 | exact l07_35 | exact l07_36)) ?_
  refine SEs_cons ?_
  refine SE_strL (by (first | exact l07_0 | exact l07_1 | exact l07_2 | exact l07_3 | exact l07_4 | exact l07_5 | exact l07_6 | exact l07_7 | exact l07_8 | exact l07_9 | exact l07_10 | exact l07_11 | exact l07_12 | exact l07_13 | exact l07_14 | exact l07_15 | exact l07_16 | exact l07_17 | exact l07_18 | exact l07_19 | exact l07_20 | exact l07_21 | exact l07_22 | exact l07_23 | exact l07_24 | exact l07_25 | exact l07_26 | exact l07_27 | exact l07_28 | exact l07_29 | exact l07_30 | exact l07_31 | exact l07_32 | exact l07_33 | exact l07_34 | exact l07_35 | exact l07_36)) ?_
  refine SEs_cons ?_
  refine SE_strL (by (first | exact l07_0 | exact l07_1 | exact l07_2 | exact l07_3 | exact l07_4 | exact l07_5 | exact l07_6 | exact l07_7 | exact l07_8 | exact l07_9 | exact l07_10 | exact l07_11 | exact l07_12 | exact l07_13 | exact l07_14 | exact l07_15 | exact l07_16 | exact l07_17 | exact l07_18 | exact l07_19 | exact l07_20 | exact l07_21 | exact l07_22 | exact l07_23 | exact l07_24 | exact l07_25 | exact l07_26 | exact l07_27 | exact l07_28 | exact l07_29 | exact l07_30 | exact l07_31 | exact l07_32 | exact l07_33 | exact l07_34 | exact l07_35 | exact l07_36)) ?_
  refine SEs_cons ?_
  refine SE_strL (by (first | exact l07_0 | exact l07_1 | exact l07_2 | exact l07_3 | exact l07_4 | exact l07_5 | exact l07_6 | exact l07_7 | exact l07_8 | exact l07_9 | exact l07_10 | exact l07_11 | exact l07_12 | exact l07_13 | exact l07_14 | exact l07_15 | exact l07_16 | exact l07_17 | exact l07_18 | exact l07_19 | exact l07_20 | exact l07_21 | exact l07_22 | exact l07_23 | exact l07_24 | exact l07_25 | exact l07_26 | exact l07_27 | exact l07_28 | exact l07_29 | exact l07_30 | exact l07_31 | exact l07_32 | exact l07_33 | exact l07_34 | exact l07_35 | exact l07_36)) ?_
  refine SEs_cons ?_
  refine SE_strL (by (first | exact l07_0 | exact l07_1 | exact l07_2 | exact l07_3 | exact l07_4 | exact l07_5 | exact l07_6 | exact l07_7 | exact l07_8 | exact l07_9 | exact l07_10 | exact l07_11 | exact l07_12 | exact l07_13 | exact l07_14 | exact l07_15 | exact l07_16 | exact l07_17 | exact l07_18 | exact l07_19 | exact l07_20 | exact l07_21 | exact l07_22 | exact l07_23 | exact l07_24 | exact l07_25 | exact l07_26 | exact l07_27 | exact l07_28 | exact l07_29 | exact l07_30 | exact l07_31 | exact l07_32 | exact l07_33 | exact l07_34 | exact l07_35 | exact l07_36)) ?_
  refine SEs_nil ?_
  with_reducible refine ⟨_, by with_reducible ((first | exact AllDat.map _ | repeat first | exact AllDat.nil | with_reducible apply AllDat.cons)), by ((rw [sizeLine_eq]; simp)), ?_⟩
  refine SS_loc rfl rfl (by (with_reducible repeat first | exact List.mem_cons_self | refine List.mem_cons_of_mem _ ?_ | assumption | exact mem_mid' | exact mem_mid (by assumption))) (by with_reducible rfl) (by (with_reducible repeat first | exact Put.here | exact Put.new | apply Put.there)) (by ((first | (dsimp only [List.map_cons, List.map_nil]; decide +kernel) | (simp only [List.map_cons, List.map_nil]; decide +kernel)))) (by (with_reducible repeat first | exact Upd.here | exact Upd.mid | apply Upd.there)) ?_
  refine SXs_cons ?_
  refine SX_AssignSw (names := [Str.ofString "sides", Str.ofString "line", Str.ofString "room"]) hh' rfl ?_
  refine SE_Tuple ?_
  refine SEs_cons ?_
  refine SE_List (by ((rw [sizeLine_eq]; simp))) ?_
  refine SEs_cons ?_
  refine SE_List (by ((rw [sizeLine_eq]; simp))) ?_
  refine SEs_nil ?_
  refine ⟨by ((rw [sizeLine_eq]; simp)), fun D0 => ?_⟩
  refine SEs_cons ?_
  refine SE_List (by ((rw [sizeLine_eq]; simp))) ?_
  refine SEs_nil ?_
  refine ⟨by ((rw [sizeLine_eq]; simp)), fun D1 => ?_⟩
  refine SEs_nil ?_
  refine ⟨by ((rw [sizeLine_eq]; simp)), fun D => ?_⟩
  refine SEs_cons ?_
  refine SE_strL (by (first | exact l07_0 | exact l07_1 | exact l07_2 | exact l07_3 | exact l07_4 | exact l07_5 | exact l07_6 | exact l07_7 | exact l07_8 | exact l07_9 | exact l07_10 | exact l07_11 | exact l07_12 | exact l07_13 | exact l07_14 | exact l07_15 | exact l07_16 | exact l07_17 | exact l07_18 | exact l07_19 | exact l07_20 | exact l07_21 | exact l07_22 | exact l07_23 | exact l07_24 | exact l07_25 | exact l07_26 | exact l07_27 | exact l07_28 | exact l07_29 | exact l07_30 | exact l07_31 | exact l07_32 | exact l07_33 | exact l07_34 | exact l07_35 | exact l07_36)) ?_
  refine SEs_cons ?_
  refine SE_int ?_
  refine SEs_nil ?_
  refine ⟨by ((rw [sizeLine_eq]; simp)), fun tt => ⟨tt, _, rfl, by (with_reducible repeat first | exact List.mem_cons_self | refine List.mem_cons_of_mem _ ?_ | assumption | exact mem_mid' | exact mem_mid (by assumption)), rfl, ?_⟩⟩
  simp only [List.reverse_cons, List.reverse_nil, List.nil_append, List.cons_append]
  refine SSs_cons ?_
  refine SS_loc rfl rfl (by (with_reducible repeat first | exact List.mem_cons_self | refine List.mem_cons_of_mem _ ?_ | assumption | exact mem_mid' | exact mem_mid (by assumption))) (by with_reducible rfl) (by (with_reducible repeat first | exact Put.here | exact Put.new | apply Put.there)) (by ((first | (dsimp only [List.map_cons, List.map_nil]; decide +kernel) | (simp only [List.map_cons, List.map_nil]; decide +kernel)))) (by (with_reducible repeat first | exact Upd.here | exact Upd.mid | apply Upd.there)) ?_
  refine SSs_cons ?_
  refine SS_loc rfl rfl (by (with_reducible repeat first | exact List.mem_cons_self | refine List.mem_cons_of_mem _ ?_ | assumption | exact mem_mid' | exact mem_mid (by assumption))) (by with_reducible rfl) (by (with_reducible repeat first | exact Put.here | exact Put.new | apply Put.there)) (by ((first | (dsimp only [List.map_cons, List.map_nil]; decide +kernel) | (simp only [List.map_cons, List.map_nil]; decide +kernel)))) (by (with_reducible repeat first | exact Upd.here | exact Upd.mid | apply Upd.there)) ?_
  refine SSs_cons ?_
  refine SS_loc rfl rfl (by (with_reducible repeat first | exact List.mem_cons_self | refine List.mem_cons_of_mem _ ?_ | assumption | exact mem_mid' | exact mem_mid (by assumption))) (by with_reducible rfl) (by (with_reducible repeat first | exact Put.here | exact Put.new | apply Put.there)) (by ((first | (dsimp only [List.map_cons, List.map_nil]; decide +kernel) | (simp only [List.map_cons, List.map_nil]; decide +kernel)))) (by (with_reducible repeat first | exact Upd.here | exact Upd.mid | apply Upd.there)) ?_
  refine SSs_nil ?_
  have hsg : (words.map strD) = [PyData.str (S [97]), PyData.str (S [32]), PyData.str (S [98]), PyData.str (S [38]), PyData.str (S [9]), PyData.str (S [60]), PyData.str (S [9]), PyData.str (S [32]), PyData.str (S [0, 43]), PyData.str (S [9]), PyData.str (S [62]), PyData.str (S [38, 108, 116, 59]), PyData.str (S [0]), PyData.str (S [121, 122]), PyData.str (S [34])] := rfl
  have htl : (tails.map strD) = [PyData.str (S []), PyData.str (S [10]), PyData.str (S [13, 10]), PyData.str (S [10, 10]), PyData.str (S [13])] := rfl
  rw [← hsg]
  refine SG.wk (own' := (D, Ob.list [.ref D0, .ref D1]) :: (D1, Ob.list (([] : List (List Nat)).map strD |>.map V.dat)) :: (D0, Ob.list (([] : List (List Nat)).map strD |>.map V.dat)) :: (L, Ob.ns [(Str.ofString "draws", .lst (xs.map .int)), (Str.ofString "signs", .lst (words.map strD)), (Str.ofString "room", .int 9), (Str.ofString "line", .str (S [])), (Str.ofString "sides", .ref D)]) :: own) (by (with_reducible repeat first | exact Wk.refl | exact Wk.nil | refine Wk.keep ObW.refl ?_ | refine Wk.keep (ObW.ns (by (with_reducible repeat first | exact List.Sublist.refl _ | exact List.nil_sublist _ | apply List.Sublist.cons_cons | apply List.Sublist.cons))) ?_ | apply Wk.drop)) ?_
  refine SXs_cons ?_
  refine SX_For hh' ?_
  refine SE_Name ?_ (by decide +kernel)
  refine SN_loc rfl rfl (by (with_reducible repeat first | exact List.mem_cons_self | refine List.mem_cons_of_mem _ ?_ | assumption | exact mem_mid' | exact mem_mid (by assumption))) (by with_reducible rfl) (by (with_reducible repeat first | exact List.mem_cons_self | refine List.mem_cons_of_mem _ ?_ | assumption | exact mem_mid' | exact mem_mid (by assumption))) ?_
  refine it_list fun it => ⟨it, _, _, rfl, rfl, fun l o => ∃ (post : List Int) (l0 l1 : List (List Nat)) (line : List Nat) (room : Nat), l = (post.map PyData.int).map V.dat ∧
    o = (D, Ob.list [.ref D0, .ref D1]) :: (D1, Ob.list ((l1.map strD).map V.dat)) :: (D0, Ob.list ((l0.map strD).map V.dat)) :: (L, Ob.ns [(Str.ofString "draws", .lst (xs.map .int)), (Str.ofString "signs", .lst (words.map strD)), (Str.ofString "room", .int room), (Str.ofString "line", .str (S line)), (Str.ofString "sides", .ref D)]) :: own ∧
    (∀ l ∈ l0, LineOk l) ∧ (∀ l ∈ l1, LineOk l) ∧ BodyOk (9 - room) line ∧ 1 ≤ room ∧ room ≤ 9 ∧ l0.length + l1.length + post.length ≤ xs.length, ?_, ?_, ?_⟩
  · exact ⟨xs, [], [], [], 9, rfl, rfl, by simp, by simp, body_nil, by decide, by decide, by simp⟩
  · rintro v r o ⟨post, l0, l1, line, room, hl, rfl, ok0, ok1, okl, hr1, hr2, hlen⟩
    cases post with
    | nil => cases hl
    | cons n post =>
      injection hl with e1 e2
      subst e1 e2
      simp only [List.length_cons] at hlen
      have okl1 := body_len okl
      refine SA_Name ?_
      refine SS_loc rfl rfl (by (with_reducible repeat first | exact List.mem_cons_self | refine List.mem_cons_of_mem _ ?_ | assumption | exact mem_mid' | exact mem_mid (by assumption))) (by with_reducible rfl) (by (with_reducible repeat first | exact Put.here | exact Put.new | apply Put.there)) (by ((first | (dsimp only [List.map_cons, List.map_nil]; decide +kernel) | (simp only [List.map_cons, List.map_nil]; decide +kernel)))) (by (with_reducible repeat first | exact Upd.here | exact Upd.mid | apply Upd.there)) ?_
      refine SXs_cons ?_
      refine SG.mono (Q := fun fl o => fl = Fl.next ∧ ∃ (line : List Nat) (room : Nat), BodyOk (9 - room) line ∧ room ≤ 9 ∧ (¬ n % 16 = 15 → True) ∧ (1 ≤ room ∨ room = 0) ∧ Wk o ((it, Ob.it ((post.map PyData.int).map V.dat)) :: (D, Ob.list [.ref D0, .ref D1]) :: (D1, Ob.list ((l1.map strD).map V.dat)) :: (D0, Ob.list ((l0.map strD).map V.dat)) :: (L, Ob.ns [(Str.ofString "draws", .lst (xs.map .int)), (Str.ofString "signs", .lst (words.map strD)), (Str.ofString "room", .int room), (Str.ofString "line", .str (S line)), (Str.ofString "sides", .ref D), (Str.ofString "x", .int n)]) :: own)) ?_ ?_
      · refine SX_If ?_
        refine ST_Compare ?_
        refine SE_BinOp ?_
        refine SE_Name ?_ (by decide +kernel)
        refine SN_loc rfl rfl (by (with_reducible repeat first | exact List.mem_cons_self | refine List.mem_cons_of_mem _ ?_ | assumption | exact mem_mid' | exact mem_mid (by assumption))) (by with_reducible rfl) (by (with_reducible repeat first | exact List.mem_cons_self | refine List.mem_cons_of_mem _ ?_ | assumption | exact mem_mid' | exact mem_mid (by assumption))) ?_
        refine SE_int ?_
        refine op_mod (by decide) ?_
        refine SE_int ?_
        with_reducible refine cmp_lt ?_
        with_reducible refine tr_bool ?_
        refine ite_dec (fun h1 => ?_) (fun h1 => ?_)
        · obtain ⟨w, hw, hb, hwl⟩ := word_at (k := n % 16) (by (first | decide | exact Nat.le_trans (by assumption) (by decide) | lia | omega)) h1
          refine SXs_cons ?_
          refine SX_Assign ?_
          refine SE_BinOp ?_
          refine SE_Name ?_ (by decide +kernel)
          refine SN_loc rfl rfl (by (with_reducible repeat first | exact List.mem_cons_self | refine List.mem_cons_of_mem _ ?_ | assumption | exact mem_mid' | exact mem_mid (by assumption))) (by with_reducible rfl) (by (with_reducible repeat first | exact List.mem_cons_self | refine List.mem_cons_of_mem _ ?_ | assumption | exact mem_mid' | exact mem_mid (by assumption))) ?_
          refine SE_Subscript ?_
          refine SE_Name ?_ (by decide +kernel)
          refine SN_loc rfl rfl (by (with_reducible repeat first | exact List.mem_cons_self | refine List.mem_cons_of_mem _ ?_ | assumption | exact mem_mid' | exact mem_mid (by assumption))) (by with_reducible rfl) (by (with_reducible repeat first | exact List.mem_cons_self | refine List.mem_cons_of_mem _ ?_ | assumption | exact mem_mid' | exact mem_mid (by assumption))) ?_
          refine SE_BinOp ?_
          refine SE_Name ?_ (by decide +kernel)
          refine SN_loc rfl rfl (by (with_reducible repeat first | exact List.mem_cons_self | refine List.mem_cons_of_mem _ ?_ | assumption | exact mem_mid' | exact mem_mid (by assumption))) (by with_reducible rfl) (by (with_reducible repeat first | exact List.mem_cons_self | refine List.mem_cons_of_mem _ ?_ | assumption | exact mem_mid' | exact mem_mid (by assumption))) ?_
          refine SE_int ?_
          refine op_mod (by decide) ?_
          refine sub_lst (l := words.map strD) (by rw [List.length_map]; show -(15 : Int) ≤ _; (first | decide | exact Nat.le_trans (by assumption) (by decide) | lia | omega)) (by rw [List.length_map]; show _ < (15 : Int); (first | decide | exact Nat.le_trans (by assumption) (by decide) | lia | omega)) (by rw [List.length_map]; decide) hw ?_
          with_reducible refine op_catS (by ((rw [sizeLine_eq]; (try simp only [List.length_append, List.length_cons, List.length_nil, List.length_map]); (first | decide | exact Nat.le_trans (by assumption) (by decide) | lia | omega)))) ?_
          refine SS_loc rfl rfl (by (with_reducible repeat first | exact List.mem_cons_self | refine List.mem_cons_of_mem _ ?_ | assumption | exact mem_mid' | exact mem_mid (by assumption))) (by with_reducible rfl) (by (with_reducible repeat first | exact Put.here | exact Put.new | apply Put.there)) (by ((first | (dsimp only [List.map_cons, List.map_nil]; decide +kernel) | (simp only [List.map_cons, List.map_nil]; decide +kernel)))) (by (with_reducible repeat first | exact Upd.here | exact Upd.mid | apply Upd.there)) ?_
          refine SXs_cons ?_
          refine SX_Aug ?_
          refine SN_loc rfl rfl (by (with_reducible repeat first | exact List.mem_cons_self | refine List.mem_cons_of_mem _ ?_ | assumption | exact mem_mid' | exact mem_mid (by assumption))) (by with_reducible rfl) (by (with_reducible repeat first | exact List.mem_cons_self | refine List.mem_cons_of_mem _ ?_ | assumption | exact mem_mid' | exact mem_mid (by assumption))) ?_
          refine SE_int ?_
          with_reducible refine op_isub ?_
          refine SS_loc rfl rfl (by (with_reducible repeat first | exact List.mem_cons_self | refine List.mem_cons_of_mem _ ?_ | assumption | exact mem_mid' | exact mem_mid (by assumption))) (by with_reducible rfl) (by (with_reducible repeat first | exact Put.here | exact Put.new | apply Put.there)) (by ((first | (dsimp only [List.map_cons, List.map_nil]; decide +kernel) | (simp only [List.map_cons, List.map_nil]; decide +kernel)))) (by (with_reducible repeat first | exact Upd.here | exact Upd.mid | apply Upd.there)) ?_
          refine SXs_nil ?_
          rw [show (room : Int) - 1 = ((room - 1 : Nat) : Int) by (first | decide | exact Nat.le_trans (by assumption) (by decide) | lia | omega)]
          exact ⟨rfl, line ++ w, room - 1, body_mono (body_app okl hb) (by (first | decide | exact Nat.le_trans (by assumption) (by decide) | lia | omega)), by (first | decide | exact Nat.le_trans (by assumption) (by decide) | lia | omega), fun _ => trivial, by (first | decide | exact Nat.le_trans (by assumption) (by decide) | lia | omega), by (with_reducible repeat first | exact Wk.refl | exact Wk.nil | refine Wk.keep ObW.refl ?_ | refine Wk.keep (ObW.ns (by (with_reducible repeat first | exact List.Sublist.refl _ | exact List.nil_sublist _ | apply List.Sublist.cons_cons | apply List.Sublist.cons))) ?_ | apply Wk.drop)⟩
        · refine SXs_nil ?_
          exact ⟨rfl, line, room, okl, hr2, fun _ => trivial, by (first | decide | exact Nat.le_trans (by assumption) (by decide) | lia | omega), by (with_reducible repeat first | exact Wk.refl | exact Wk.nil | refine Wk.keep ObW.refl ?_ | refine Wk.keep (ObW.ns (by (with_reducible repeat first | exact List.Sublist.refl _ | exact List.nil_sublist _ | apply List.Sublist.cons_cons | apply List.Sublist.cons))) ?_ | apply Wk.drop)⟩
      rintro fl o ⟨rfl, line, room, okl, hr2, _, hr0, wk⟩
      refine SG.wk wk ?_
      clear wk
      have okl1 := body_len okl
      have okl9 : BodyOk 9 line := body_mono okl (by (first | decide | exact Nat.le_trans (by assumption) (by decide) | lia | omega))
      refine SXs_cons ?_
      refine SG.mono (Q := fun fl o => fl = Fl.next ∧ ∃ (l0' l1' : List (List Nat)) (line : List Nat) (room : Nat), (∀ l ∈ l0', LineOk l) ∧ (∀ l ∈ l1', LineOk l) ∧ BodyOk (9 - room) line ∧ 1 ≤ room ∧ room ≤ 9 ∧ l0'.length + l1'.length ≤ l0.length + l1.length + 1 ∧ Wk o ((it, Ob.it ((post.map PyData.int).map V.dat)) :: (D, Ob.list [.ref D0, .ref D1]) :: (D1, Ob.list ((l1'.map strD).map V.dat)) :: (D0, Ob.list ((l0'.map strD).map V.dat)) :: (L, Ob.ns [(Str.ofString "draws", .lst (xs.map .int)), (Str.ofString "signs", .lst (words.map strD)), (Str.ofString "room", .int room), (Str.ofString "line", .str (S line)), (Str.ofString "sides", .ref D)]) :: own)) ?_ ?_
      · refine SX_If (ST_pure (c := decide (n % 16 = 15 ∨ room = 0)) ?_ ?_)
        · refine SG_or ?_
          refine ST_Compare ?_
          refine SE_BinOp ?_
          refine SE_Name ?_ (by decide +kernel)
          refine SN_loc rfl rfl (by (with_reducible repeat first | exact List.mem_cons_self | refine List.mem_cons_of_mem _ ?_ | assumption | exact mem_mid' | exact mem_mid (by assumption))) (by with_reducible rfl) (by (with_reducible repeat first | exact List.mem_cons_self | refine List.mem_cons_of_mem _ ?_ | assumption | exact mem_mid' | exact mem_mid (by assumption))) ?_
          refine SE_int ?_
          refine op_mod (by decide) ?_
          refine SE_int ?_
          with_reducible refine cmp_eqI ?_
          with_reducible refine tr_bool ?_
          refine ite_dec (fun h1 => ?_) (fun h1 => ?_)
          · exact ⟨by simp [h1], rfl⟩
          · refine SG_or ?_
            refine ST_Compare ?_
            refine SE_Name ?_ (by decide +kernel)
            refine SN_loc rfl rfl (by (with_reducible repeat first | exact List.mem_cons_self | refine List.mem_cons_of_mem _ ?_ | assumption | exact mem_mid' | exact mem_mid (by assumption))) (by with_reducible rfl) (by (with_reducible repeat first | exact List.mem_cons_self | refine List.mem_cons_of_mem _ ?_ | assumption | exact mem_mid' | exact mem_mid (by assumption))) ?_
            refine SE_int ?_
            with_reducible refine cmp_eqI ?_
            with_reducible refine tr_bool ?_
            refine ite_dec (fun h2 => ?_) (fun h2 => ?_)
            · skip
              exact ⟨by have : room = 0 := by (first | decide | exact Nat.le_trans (by assumption) (by decide) | lia | omega)
                        simp [this], rfl⟩
            · refine SG_or_nil ?_
              exact ⟨by have : ¬ room = 0 := by (first | decide | exact Nat.le_trans (by assumption) (by decide) | lia | omega)
                        simp [this, h1], rfl⟩
        refine ite_dec (fun h1 => ?_) (fun h1 => ?_)
        · obtain ⟨tl, htl1, htl2⟩ := tail_at (k := n / 32 % 5) (by (first | decide | exact Nat.le_trans (by assumption) (by decide) | lia | omega)) (by (first | decide | exact Nat.le_trans (by assumption) (by decide) | lia | omega))
          have okt := tail_len htl2
          have okn : LineOk (line ++ tl) := ⟨line, tl, rfl, okl9, htl2⟩
          refine SXs_cons ?_
          refine SX_Expr ?_
          refine SE_Meth ?_
          refine SE_Subscript ?_
          refine SE_Name ?_ (by decide +kernel)
          refine SN_loc rfl rfl (by (with_reducible repeat first | exact List.mem_cons_self | refine List.mem_cons_of_mem _ ?_ | assumption | exact mem_mid' | exact mem_mid (by assumption))) (by with_reducible rfl) (by (with_reducible repeat first | exact List.mem_cons_self | refine List.mem_cons_of_mem _ ?_ | assumption | exact mem_mid' | exact mem_mid (by assumption))) ?_
          refine SE_BinOp ?_
          refine SE_BinOp ?_
          refine SE_Name ?_ (by decide +kernel)
          refine SN_loc rfl rfl (by (with_reducible repeat first | exact List.mem_cons_self | refine List.mem_cons_of_mem _ ?_ | assumption | exact mem_mid' | exact mem_mid (by assumption))) (by with_reducible rfl) (by (with_reducible repeat first | exact List.mem_cons_self | refine List.mem_cons_of_mem _ ?_ | assumption | exact mem_mid' | exact mem_mid (by assumption))) ?_
          refine SE_int ?_
          refine op_div (by decide) (by decide) ?_
          refine SE_int ?_
          refine op_mod (by decide) ?_
          rcases (by (first | decide | exact Nat.le_trans (by assumption) (by decide) | lia | omega) : n / 16 % 2 = 0 ∨ n / 16 % 2 = 1) with h | h
          · refine sub_own (d := .ref D0) (by (with_reducible repeat first | exact List.mem_cons_self | refine List.mem_cons_of_mem _ ?_ | assumption | exact mem_mid' | exact mem_mid (by assumption))) (by (first | dsimp only [List.length_cons, List.length_nil] | simp only [List.length_cons, List.length_nil]); (first | decide | exact Nat.le_trans (by assumption) (by decide) | lia | omega)) (by (first | dsimp only [List.length_cons, List.length_nil] | simp only [List.length_cons, List.length_nil]); (first | decide | exact Nat.le_trans (by assumption) (by decide) | lia | omega)) (by ((rw [sizeLine_eq]; simp))) (by rw [h]; rfl) ?_
            refine mth_list (by (with_reducible repeat first | exact List.mem_cons_self | refine List.mem_cons_of_mem _ ?_ | assumption | exact mem_mid' | exact mem_mid (by assumption))) PySem.F.slot_list_append PySem.F.type_list_append ?_
            refine SEs_cons ?_
            refine SE_BinOp ?_
            refine SE_Name ?_ (by decide +kernel)
            refine SN_loc rfl rfl (by (with_reducible repeat first | exact List.mem_cons_self | refine List.mem_cons_of_mem _ ?_ | assumption | exact mem_mid' | exact mem_mid (by assumption))) (by with_reducible rfl) (by (with_reducible repeat first | exact List.mem_cons_self | refine List.mem_cons_of_mem _ ?_ | assumption | exact mem_mid' | exact mem_mid (by assumption))) ?_
            refine SE_Subscript ?_
            refine SE_ListF ?_
            refine SEs_cons ?_
            refine SE_strL (by (first | exact l07_0 | exact l07_1 | exact l07_2 | exact l07_3 | exact l07_4 | exact l07_5 | exact l07_6 | exact l07_7 | exact l07_8 | exact l07_9 | exact l07_10 | exact l07_11 | exact l07_12 | exact l07_13 | exact l07_14 | exact l07_15 | exact l07_16 | exact l07_17 | exact l07_18 | exact l07_19 | exact l07_20 | exact l07_21 | exact l07_22 | exact l07_23 | exact l07_24 | exact l07_25 | exact l07_26 | exact l07_27 | exact l07_28 | exact l07_29 | exact l07_30 | exact l07_31 | exact l07_32 | exact l07_33 | exact l07_34 | exact l07_35 | exact l07_36)) ?_
            refine SEs_cons ?_
            refine SE_strL (by (first | exact l07_0 | exact l07_1 | exact l07_2 | exact l07_3 | exact l07_4 | exact l07_5 | exact l07_6 | exact l07_7 | exact l07_8 | exact l07_9 | exact l07_10 | exact l07_11 | exact l07_12 | exact l07_13 | exact l07_14 | exact l07_15 | exact l07_16 | exact l07_17 | exact l07_18 | exact l07_19 | exact l07_20 | exact l07_21 | exact l07_22 | exact l07_23 | exact l07_24 | exact l07_25 | exact l07_26 | exact l07_27 | exact l07_28 | exact l07_29 | exact l07_30 | exact l07_31 | exact l07_32 | exact l07_33 | exact l07_34 | exact l07_35 | exact l07_36)) ?_
            refine SEs_cons ?_
            refine SE_strL (by (first | exact l07_0 | exact l07_1 | exact l07_2 | exact l07_3 | exact l07_4 | exact l07_5 | exact l07_6 | exact l07_7 | exact l07_8 | exact l07_9 | exact l07_10 | exact l07_11 | exact l07_12 | exact l07_13 | exact l07_14 | exact l07_15 | exact l07_16 | exact l07_17 | exact l07_18 | exact l07_19 | exact l07_20 | exact l07_21 | exact l07_22 | exact l07_23 | exact l07_24 | exact l07_25 | exact l07_26 | exact l07_27 | exact l07_28 | exact l07_29 | exact l07_30 | exact l07_31 | exact l07_32 | exact l07_33 | exact l07_34 | exact l07_35 | exact l07_36)) ?_
            refine SEs_cons ?_
            refine SE_strL (by (first | exact l07_0 | exact l07_1 | exact l07_2 | exact l07_3 | exact l07_4 | exact l07_5 | exact l07_6 | exact l07_7 | exact l07_8 | exact l07_9 | exact l07_10 | exact l07_11 | exact l07_12 | exact l07_13 | exact l07_14 | exact l07_15 | exact l07_16 | exact l07_17 | exact l07_18 | exact l07_19 | exact l07_20 | exact l07_21 | exact l07_22 | exact l07_23 | exact l07_24 | exact l07_25 | exact l07_26 | exact l07_27 | exact l07_28 | exact l07_29 | exact l07_30 | exact l07_31 | exact l07_32 | exact l07_33 | exact l07_34 | exact l07_35 | exact l07_36)) ?_
            refine SEs_cons ?_
            refine SE_strL (by (first | exact l07_0 | exact l07_1 | exact l07_2 | exact l07_3 | exact l07_4 | exact l07_5 | exact l07_6 | exact l07_7 | exact l07_8 | exact l07_9 | exact l07_10 | exact l07_11 | exact l07_12 | exact l07_13 | exact l07_14 | exact l07_15 | exact l07_16 | exact l07_17 | exact l07_18 | exact l07_19 | exact l07_20 | exact l07_21 | exact l07_22 | exact l07_23 | exact l07_24 | exact l07_25 | exact l07_26 | exact l07_27 | exact l07_28 | exact l07_29 | exact l07_30 | exact l07_31 | exact l07_32 | exact l07_33 | exact l07_34 | exact l07_35 | exact l07_36)) ?_
            refine SEs_nil ?_
            with_reducible refine ⟨_, by with_reducible ((first | exact AllDat.map _ | repeat first | exact AllDat.nil | with_reducible apply AllDat.cons)), by ((rw [sizeLine_eq]; simp)), ?_⟩
            refine SE_BinOp ?_
            refine SE_BinOp ?_
            refine SE_Name ?_ (by decide +kernel)
            refine SN_loc rfl rfl (by (with_reducible repeat first | exact List.mem_cons_self | refine List.mem_cons_of_mem _ ?_ | assumption | exact mem_mid' | exact mem_mid (by assumption))) (by with_reducible rfl) (by (with_reducible repeat first | exact List.mem_cons_self | refine List.mem_cons_of_mem _ ?_ | assumption | exact mem_mid' | exact mem_mid (by assumption))) ?_
            refine SE_int ?_
            refine op_div (by decide) (by decide) ?_
            refine SE_int ?_
            refine op_mod (by decide) ?_
            refine sub_lst (by (first | dsimp only [List.length_cons, List.length_nil] | simp only [List.length_cons, List.length_nil]); (first | decide | exact Nat.le_trans (by assumption) (by decide) | lia | omega)) (by (first | dsimp only [List.length_cons, List.length_nil] | simp only [List.length_cons, List.length_nil]); (first | decide | exact Nat.le_trans (by assumption) (by decide) | lia | omega)) (by ((rw [sizeLine_eq]; simp))) htl1 ?_
            with_reducible refine op_catS (by ((rw [sizeLine_eq]; (try simp only [List.length_append, List.length_cons, List.length_nil, List.length_map]); (first | decide | exact Nat.le_trans (by assumption) (by decide) | lia | omega)))) ?_
            refine SEs_nil ?_
            with_reducible refine ⟨kp_builtin, ?_⟩
            refine call_append (by (with_reducible repeat first | exact Upd.here | exact Upd.mid | apply Upd.there)) (by ((rw [sizeLine_eq]; (try simp only [List.length_append, List.length_cons, List.length_nil, List.length_map]); (first | decide | exact Nat.le_trans (by assumption) (by decide) | lia | omega)))) ?_
            refine SXs_cons ?_
            refine SX_AssignT ?_
            refine SE_TupleF ?_
            refine SEs_cons ?_
            refine SE_strL (by (first | exact l07_0 | exact l07_1 | exact l07_2 | exact l07_3 | exact l07_4 | exact l07_5 | exact l07_6 | exact l07_7 | exact l07_8 | exact l07_9 | exact l07_10 | exact l07_11 | exact l07_12 | exact l07_13 | exact l07_14 | exact l07_15 | exact l07_16 | exact l07_17 | exact l07_18 | exact l07_19 | exact l07_20 | exact l07_21 | exact l07_22 | exact l07_23 | exact l07_24 | exact l07_25 | exact l07_26 | exact l07_27 | exact l07_28 | exact l07_29 | exact l07_30 | exact l07_31 | exact l07_32 | exact l07_33 | exact l07_34 | exact l07_35 | exact l07_36)) ?_
            refine SEs_cons ?_
            refine SE_int ?_
            refine SEs_nil ?_
            with_reducible refine ⟨_, by with_reducible ((first | exact AllDat.map _ | repeat first | exact AllDat.nil | with_reducible apply AllDat.cons)), by ((rw [sizeLine_eq]; simp)), ?_⟩
            refine SA_Tuple (by assumption) rfl ?_
            refine SAs_cons ?_
            refine SA_Name ?_
            refine SS_loc rfl rfl (by (with_reducible repeat first | exact List.mem_cons_self | refine List.mem_cons_of_mem _ ?_ | assumption | exact mem_mid' | exact mem_mid (by assumption))) (by with_reducible rfl) (by (with_reducible repeat first | exact Put.here | exact Put.new | apply Put.there)) (by ((first | (dsimp only [List.map_cons, List.map_nil]; decide +kernel) | (simp only [List.map_cons, List.map_nil]; decide +kernel)))) (by (with_reducible repeat first | exact Upd.here | exact Upd.mid | apply Upd.there)) ?_
            refine SAs_cons ?_
            refine SA_Name ?_
            refine SS_loc rfl rfl (by (with_reducible repeat first | exact List.mem_cons_self | refine List.mem_cons_of_mem _ ?_ | assumption | exact mem_mid' | exact mem_mid (by assumption))) (by with_reducible rfl) (by (with_reducible repeat first | exact Put.here | exact Put.new | apply Put.there)) (by ((first | (dsimp only [List.map_cons, List.map_nil]; decide +kernel) | (simp only [List.map_cons, List.map_nil]; decide +kernel)))) (by (with_reducible repeat first | exact Upd.here | exact Upd.mid | apply Upd.there)) ?_
            refine SAs_nil ?_
            refine SXs_nil ?_
            rw [show (l0.map strD).map V.dat ++ [V.str (S (line ++ tl))] = ((l0 ++ [line ++ tl]).map strD).map V.dat by simp only [List.map_append, List.map_cons, List.map_nil], show V.dat (PyData.int 9) = V.int ((9 : Nat) : Int) from rfl]
            refine ⟨rfl, l0 ++ [line ++ tl], l1, [], 9, ?_, ok1, body_nil, by decide, by decide, by simp only [List.length_append, List.length_cons, List.length_nil]; (first | decide | exact Nat.le_trans (by assumption) (by decide) | lia | omega), by (with_reducible repeat first | exact Wk.refl | exact Wk.nil | refine Wk.keep ObW.refl ?_ | refine Wk.keep (ObW.ns (by (with_reducible repeat first | exact List.Sublist.refl _ | exact List.nil_sublist _ | apply List.Sublist.cons_cons | apply List.Sublist.cons))) ?_ | apply Wk.drop)⟩
            intro l hl; rcases List.mem_append.mp hl with hl | hl; exact ok0 l hl; rw [List.mem_singleton.mp hl]; exact okn
          · refine sub_own (d := .ref D1) (by (with_reducible repeat first | exact List.mem_cons_self | refine List.mem_cons_of_mem _ ?_ | assumption | exact mem_mid' | exact mem_mid (by assumption))) (by (first | dsimp only [List.length_cons, List.length_nil] | simp only [List.length_cons, List.length_nil]); (first | decide | exact Nat.le_trans (by assumption) (by decide) | lia | omega)) (by (first | dsimp only [List.length_cons, List.length_nil] | simp only [List.length_cons, List.length_nil]); (first | decide | exact Nat.le_trans (by assumption) (by decide) | lia | omega)) (by ((rw [sizeLine_eq]; simp))) (by rw [h]; rfl) ?_
            refine mth_list (by (with_reducible repeat first | exact List.mem_cons_self | refine List.mem_cons_of_mem _ ?_ | assumption | exact mem_mid' | exact mem_mid (by assumption))) PySem.F.slot_list_append PySem.F.type_list_append ?_
            refine SEs_cons ?_
            refine SE_BinOp ?_
            refine SE_Name ?_ (by decide +kernel)
            refine SN_loc rfl rfl (by (with_reducible repeat first | exact List.mem_cons_self | refine List.mem_cons_of_mem _ ?_ | assumption | exact mem_mid' | exact mem_mid (by assumption))) (by with_reducible rfl) (by (with_reducible repeat first | exact List.mem_cons_self | refine List.mem_cons_of_mem _ ?_ | assumption | exact mem_mid' | exact mem_mid (by assumption))) ?_
            refine SE_Subscript ?_
            refine SE_ListF ?_
            refine SEs_cons ?_
            refine SE_strL (by (first | exact l07_0 | exact l07_1 | exact l07_2 | exact l07_3 | exact l07_4 | exact l07_5 | exact l07_6 | exact l07_7 | exact l07_8 | exact l07_9 | exact l07_10 | exact l07_11 | exact l07_12 | exact l07_13 | exact l07_14 | exact l07_15 | exact l07_16 | exact l07_17 | exact l07_18 | exact l07_19 | exact l07_20 | exact l07_21 | exact l07_22 | exact l07_23 | exact l07_24 | exact l07_25 | exact l07_26 | exact l07_27 | exact l07_28 | exact l07_29 | exact l07_30 | exact l07_31 | exact l07_32 | exact l07_33 | exact l07_34 | exact l07_35 | exact l07_36)) ?_
            refine SEs_cons ?_
            refine SE_strL (by (first | exact l07_0 | exact l07_1 | exact l07_2 | exact l07_3 | exact l07_4 | exact l07_5 | exact l07_6 | exact l07_7 | exact l07_8 | exact l07_9 | exact l07_10 | exact l07_11 | exact l07_12 | exact l07_13 | exact l07_14 | exact l07_15 | exact l07_16 | exact l07_17 | exact l07_18 | exact l07_19 | exact l07_20 | exact l07_21 | exact l07_22 | exact l07_23 | exact l07_24 | exact l07_25 | exact l07_26 | exact l07_27 | exact l07_28 | exact l07_29 | exact l07_30 | exact l07_31 | exact l07_32 | exact l07_33 | exact l07_34 | exact l07_35 | exact l07_36)) ?_
            refine SEs_cons ?_
            refine SE_strL (by (first | exact l07_0 | exact l07_1 | exact l07_2 | exact l07_3 | exact l07_4 | exact l07_5 | exact l07_6 | exact l07_7 | exact l07_8 | exact l07_9 | exact l07_10 | exact l07_11 | exact l07_12 | exact l07_13 | exact l07_14 | exact l07_15 | exact l07_16 | exact l07_17 | exact l07_18 | exact l07_19 | exact l07_20 | exact l07_21 | exact l07_22 | exact l07_23 | exact l07_24 | exact l07_25 | exact l07_26 | exact l07_27 | exact l07_28 | exact l07_29 | exact l07_30 | exact l07_31 | exact l07_32 | exact l07_33 | exact l07_34 | exact l07_35 | exact l07_36)) ?_
            refine SEs_cons ?_
            refine SE_strL (by (first | exact l07_0 | exact l07_1 | exact l07_2 | exact l07_3 | exact l07_4 | exact l07_5 | exact l07_6 | exact l07_7 | exact l07_8 | exact l07_9 | exact l07_10 | exact l07_11 | exact l07_12 | exact l07_13 | exact l07_14 | exact l07_15 | exact l07_16 | exact l07_17 | exact l07_18 | exact l07_19 | exact l07_20 | exact l07_21 | exact l07_22 | exact l07_23 | exact l07_24 | exact l07_25 | exact l07_26 | exact l07_27 | exact l07_28 | exact l07_29 | exact l07_30 | exact l07_31 | exact l07_32 | exact l07_33 | exact l07_34 | exact l07_35 | exact l07_36)) ?_
            refine SEs_cons ?_
            refine SE_strL (by (first | exact l07_0 | exact l07_1 | exact l07_2 | exact l07_3 | exact l07_4 | exact l07_5 | exact l07_6 | exact l07_7 | exact l07_8 | exact l07_9 | exact l07_10 | exact l07_11 | exact l07_12 | exact l07_13 | exact l07_14 | exact l07_15 | exact l07_16 | exact l07_17 | exact l07_18 | exact l07_19 | exact l07_20 | exact l07_21 | exact l07_22 | exact l07_23 | exact l07_24 | exact l07_25 | exact l07_26 | exact l07_27 | exact l07_28 | exact l07_29 | exact l07_30 | exact l07_31 | exact l07_32 | exact l07_33 | exact l07_34 | exact l07_35 | exact l07_36)) ?_
            refine SEs_nil ?_
            with_reducible refine ⟨_, by with_reducible ((first | exact AllDat.map _ | repeat first | exact AllDat.nil | with_reducible apply AllDat.cons)), by ((rw [sizeLine_eq]; simp)), ?_⟩
            refine SE_BinOp ?_
            refine SE_BinOp ?_
            refine SE_Name ?_ (by decide +kernel)
            refine SN_loc rfl rfl (by (with_reducible repeat first | exact List.mem_cons_self | refine List.mem_cons_of_mem _ ?_ | assumption | exact mem_mid' | exact mem_mid (by assumption))) (by with_reducible rfl) (by (with_reducible repeat first | exact List.mem_cons_self | refine List.mem_cons_of_mem _ ?_ | assumption | exact mem_mid' | exact mem_mid (by assumption))) ?_
            refine SE_int ?_
            refine op_div (by decide) (by decide) ?_
            refine SE_int ?_
            refine op_mod (by decide) ?_
            refine sub_lst (by (first | dsimp only [List.length_cons, List.length_nil] | simp only [List.length_cons, List.length_nil]); (first | decide | exact Nat.le_trans (by assumption) (by decide) | lia | omega)) (by (first | dsimp only [List.length_cons, List.length_nil] | simp only [List.length_cons, List.length_nil]); (first | decide | exact Nat.le_trans (by assumption) (by decide) | lia | omega)) (by ((rw [sizeLine_eq]; simp))) htl1 ?_
            with_reducible refine op_catS (by ((rw [sizeLine_eq]; (try simp only [List.length_append, List.length_cons, List.length_nil, List.length_map]); (first | decide | exact Nat.le_trans (by assumption) (by decide) | lia | omega)))) ?_
            refine SEs_nil ?_
            with_reducible refine ⟨kp_builtin, ?_⟩
            refine call_append (by (with_reducible repeat first | exact Upd.here | exact Upd.mid | apply Upd.there)) (by ((rw [sizeLine_eq]; (try simp only [List.length_append, List.length_cons, List.length_nil, List.length_map]); (first | decide | exact Nat.le_trans (by assumption) (by decide) | lia | omega)))) ?_
            refine SXs_cons ?_
            refine SX_AssignT ?_
            refine SE_TupleF ?_
            refine SEs_cons ?_
            refine SE_strL (by (first | exact l07_0 | exact l07_1 | exact l07_2 | exact l07_3 | exact l07_4 | exact l07_5 | exact l07_6 | exact l07_7 | exact l07_8 | exact l07_9 | exact l07_10 | exact l07_11 | exact l07_12 | exact l07_13 | exact l07_14 | exact l07_15 | exact l07_16 | exact l07_17 | exact l07_18 | exact l07_19 | exact l07_20 | exact l07_21 | exact l07_22 | exact l07_23 | exact l07_24 | exact l07_25 | exact l07_26 | exact l07_27 | exact l07_28 | exact l07_29 | exact l07_30 | exact l07_31 | exact l07_32 | exact l07_33 | exact l07_34 | exact l07_35 | exact l07_36)) ?_
            refine SEs_cons ?_
            refine SE_int ?_
            refine SEs_nil ?_
            with_reducible refine ⟨_, by with_reducible ((first | exact AllDat.map _ | repeat first | exact AllDat.nil | with_reducible apply AllDat.cons)), by ((rw [sizeLine_eq]; simp)), ?_⟩
            refine SA_Tuple (by assumption) rfl ?_
            refine SAs_cons ?_
            refine SA_Name ?_
            refine SS_loc rfl rfl (by (with_reducible repeat first | exact List.mem_cons_self | refine List.mem_cons_of_mem _ ?_ | assumption | exact mem_mid' | exact mem_mid (by assumption))) (by with_reducible rfl) (by (with_reducible repeat first | exact Put.here | exact Put.new | apply Put.there)) (by ((first | (dsimp only [List.map_cons, List.map_nil]; decide +kernel) | (simp only [List.map_cons, List.map_nil]; decide +kernel)))) (by (with_reducible repeat first | exact Upd.here | exact Upd.mid | apply Upd.there)) ?_
            refine SAs_cons ?_
            refine SA_Name ?_
            refine SS_loc rfl rfl (by (with_reducible repeat first | exact List.mem_cons_self | refine List.mem_cons_of_mem _ ?_ | assumption | exact mem_mid' | exact mem_mid (by assumption))) (by with_reducible rfl) (by (with_reducible repeat first | exact Put.here | exact Put.new | apply Put.there)) (by ((first | (dsimp only [List.map_cons, List.map_nil]; decide +kernel) | (simp only [List.map_cons, List.map_nil]; decide +kernel)))) (by (with_reducible repeat first | exact Upd.here | exact Upd.mid | apply Upd.there)) ?_
            refine SAs_nil ?_
            refine SXs_nil ?_
            rw [show (l1.map strD).map V.dat ++ [V.str (S (line ++ tl))] = ((l1 ++ [line ++ tl]).map strD).map V.dat by simp only [List.map_append, List.map_cons, List.map_nil], show V.dat (PyData.int 9) = V.int ((9 : Nat) : Int) from rfl]
            refine ⟨rfl, l0, l1 ++ [line ++ tl], [], 9, ok0, ?_, body_nil, by decide, by decide, by simp only [List.length_append, List.length_cons, List.length_nil]; (first | decide | exact Nat.le_trans (by assumption) (by decide) | lia | omega), by (with_reducible repeat first | exact Wk.refl | exact Wk.nil | refine Wk.keep ObW.refl ?_ | refine Wk.keep (ObW.ns (by (with_reducible repeat first | exact List.Sublist.refl _ | exact List.nil_sublist _ | apply List.Sublist.cons_cons | apply List.Sublist.cons))) ?_ | apply Wk.drop)⟩
            intro l hl; rcases List.mem_append.mp hl with hl | hl; exact ok1 l hl; rw [List.mem_singleton.mp hl]; exact okn
        · refine SXs_nil ?_
          exact ⟨rfl, l0, l1, line, room, ok0, ok1, okl, by (first | decide | exact Nat.le_trans (by assumption) (by decide) | lia | omega), hr2, by (first | decide | exact Nat.le_trans (by assumption) (by decide) | lia | omega), by (with_reducible repeat first | exact Wk.refl | exact Wk.nil | refine Wk.keep ObW.refl ?_ | refine Wk.keep (ObW.ns (by (with_reducible repeat first | exact List.Sublist.refl _ | exact List.nil_sublist _ | apply List.Sublist.cons_cons | apply List.Sublist.cons))) ?_ | apply Wk.drop)⟩
      rintro fl o ⟨rfl, l0', l1', line', room', ok0', ok1', okl', hr1', hr2', hlen', wk⟩
      refine SG.wk wk ?_
      clear wk
      refine SXs_nil ?_
      exact ⟨_, by (with_reducible repeat first | exact Wk.refl | exact Wk.nil | refine Wk.keep ObW.refl ?_ | refine Wk.keep (ObW.ns (by (with_reducible repeat first | exact List.Sublist.refl _ | exact List.nil_sublist _ | apply List.Sublist.cons_cons | apply List.Sublist.cons))) ?_ | apply Wk.drop), post, l0', l1', line', room', rfl, rfl, ok0', ok1', okl', hr1', hr2', by (first | decide | exact Nat.le_trans (by assumption) (by decide) | lia | omega)⟩
  · rintro o ⟨post, l0, l1, line, room, hl, rfl, ok0, ok1, okl, hr1, hr2, hlen⟩
    cases post with
    | cons p post => cases hl
    | nil =>
      simp only [List.length_nil] at hlen
      have okl1 := body_len okl
      have okl9 : BodyOk 9 line := body_mono okl (by (first | decide | exact Nat.le_trans (by assumption) (by decide) | lia | omega))
      refine SXs_cons ?_
      refine SX_Expr ?_
      refine SE_Meth ?_
      refine SE_Subscript ?_
      refine SE_Name ?_ (by decide +kernel)
      refine SN_loc rfl rfl (by (with_reducible repeat first | exact List.mem_cons_self | refine List.mem_cons_of_mem _ ?_ | assumption | exact mem_mid' | exact mem_mid (by assumption))) (by with_reducible rfl) (by (with_reducible repeat first | exact List.mem_cons_self | refine List.mem_cons_of_mem _ ?_ | assumption | exact mem_mid' | exact mem_mid (by assumption))) ?_
      refine SE_int ?_
      refine sub_own (d := .ref D0) (by (with_reducible repeat first | exact List.mem_cons_self | refine List.mem_cons_of_mem _ ?_ | assumption | exact mem_mid' | exact mem_mid (by assumption))) (by (first | dsimp only [List.length_cons, List.length_nil] | simp only [List.length_cons, List.length_nil]); (first | decide | exact Nat.le_trans (by assumption) (by decide) | lia | omega)) (by (first | dsimp only [List.length_cons, List.length_nil] | simp only [List.length_cons, List.length_nil]); (first | decide | exact Nat.le_trans (by assumption) (by decide) | lia | omega)) (by ((rw [sizeLine_eq]; simp))) rfl ?_
      refine mth_list (by (with_reducible repeat first | exact List.mem_cons_self | refine List.mem_cons_of_mem _ ?_ | assumption | exact mem_mid' | exact mem_mid (by assumption))) PySem.F.slot_list_append PySem.F.type_list_append ?_
      refine SEs_cons ?_
      refine SE_BinOp ?_
      refine SE_Name ?_ (by decide +kernel)
      refine SN_loc rfl rfl (by (with_reducible repeat first | exact List.mem_cons_self | refine List.mem_cons_of_mem _ ?_ | assumption | exact mem_mid' | exact mem_mid (by assumption))) (by with_reducible rfl) (by (with_reducible repeat first | exact List.mem_cons_self | refine List.mem_cons_of_mem _ ?_ | assumption | exact mem_mid' | exact mem_mid (by assumption))) ?_
      refine SE_strL (by (first | exact l07_0 | exact l07_1 | exact l07_2 | exact l07_3 | exact l07_4 | exact l07_5 | exact l07_6 | exact l07_7 | exact l07_8 | exact l07_9 | exact l07_10 | exact l07_11 | exact l07_12 | exact l07_13 | exact l07_14 | exact l07_15 | exact l07_16 | exact l07_17 | exact l07_18 | exact l07_19 | exact l07_20 | exact l07_21 | exact l07_22 | exact l07_23 | exact l07_24 | exact l07_25 | exact l07_26 | exact l07_27 | exact l07_28 | exact l07_29 | exact l07_30 | exact l07_31 | exact l07_32 | exact l07_33 | exact l07_34 | exact l07_35 | exact l07_36)) ?_
      with_reducible refine op_catS (by ((rw [sizeLine_eq]; (try simp only [List.length_append, List.length_cons, List.length_nil, List.length_map]); (first | decide | exact Nat.le_trans (by assumption) (by decide) | lia | omega)))) ?_
      refine SEs_nil ?_
      with_reducible refine ⟨kp_builtin, ?_⟩
      refine call_append (by (with_reducible repeat first | exact Upd.here | exact Upd.mid | apply Upd.there)) (by ((rw [sizeLine_eq]; (try simp only [List.length_append, List.length_cons, List.length_nil, List.length_map]); (first | decide | exact Nat.le_trans (by assumption) (by decide) | lia | omega)))) ?_
      refine SXs_cons ?_
      refine SX_Expr ?_
      refine SE_Meth ?_
      refine SE_Subscript ?_
      refine SE_Name ?_ (by decide +kernel)
      refine SN_loc rfl rfl (by (with_reducible repeat first | exact List.mem_cons_self | refine List.mem_cons_of_mem _ ?_ | assumption | exact mem_mid' | exact mem_mid (by assumption))) (by with_reducible rfl) (by (with_reducible repeat first | exact List.mem_cons_self | refine List.mem_cons_of_mem _ ?_ | assumption | exact mem_mid' | exact mem_mid (by assumption))) ?_
      refine SE_int ?_
      refine sub_own (d := .ref D1) (by (with_reducible repeat first | exact List.mem_cons_self | refine List.mem_cons_of_mem _ ?_ | assumption | exact mem_mid' | exact mem_mid (by assumption))) (by (first | dsimp only [List.length_cons, List.length_nil] | simp only [List.length_cons, List.length_nil]); (first | decide | exact Nat.le_trans (by assumption) (by decide) | lia | omega)) (by (first | dsimp only [List.length_cons, List.length_nil] | simp only [List.length_cons, List.length_nil]); (first | decide | exact Nat.le_trans (by assumption) (by decide) | lia | omega)) (by ((rw [sizeLine_eq]; simp))) rfl ?_
      refine mth_list (by (with_reducible repeat first | exact List.mem_cons_self | refine List.mem_cons_of_mem _ ?_ | assumption | exact mem_mid' | exact mem_mid (by assumption))) PySem.F.slot_list_append PySem.F.type_list_append ?_
      refine SEs_cons ?_
      refine SE_BinOp ?_
      refine SE_Name ?_ (by decide +kernel)
      refine SN_loc rfl rfl (by (with_reducible repeat first | exact List.mem_cons_self | refine List.mem_cons_of_mem _ ?_ | assumption | exact mem_mid' | exact mem_mid (by assumption))) (by with_reducible rfl) (by (with_reducible repeat first | exact List.mem_cons_self | refine List.mem_cons_of_mem _ ?_ | assumption | exact mem_mid' | exact mem_mid (by assumption))) ?_
      refine SE_strL (by (first | exact l07_0 | exact l07_1 | exact l07_2 | exact l07_3 | exact l07_4 | exact l07_5 | exact l07_6 | exact l07_7 | exact l07_8 | exact l07_9 | exact l07_10 | exact l07_11 | exact l07_12 | exact l07_13 | exact l07_14 | exact l07_15 | exact l07_16 | exact l07_17 | exact l07_18 | exact l07_19 | exact l07_20 | exact l07_21 | exact l07_22 | exact l07_23 | exact l07_24 | exact l07_25 | exact l07_26 | exact l07_27 | exact l07_28 | exact l07_29 | exact l07_30 | exact l07_31 | exact l07_32 | exact l07_33 | exact l07_34 | exact l07_35 | exact l07_36)) ?_
      with_reducible refine op_catS (by ((rw [sizeLine_eq]; (try simp only [List.length_append, List.length_cons, List.length_nil, List.length_map]); (first | decide | exact Nat.le_trans (by assumption) (by decide) | lia | omega)))) ?_
      refine SEs_nil ?_
      with_reducible refine ⟨kp_builtin, ?_⟩
      refine call_append (by (with_reducible repeat first | exact Upd.here | exact Upd.mid | apply Upd.there)) (by ((rw [sizeLine_eq]; (try simp only [List.length_append, List.length_cons, List.length_nil, List.length_map]); (first | decide | exact Nat.le_trans (by assumption) (by decide) | lia | omega)))) ?_
      refine SXs_cons ?_
      rw [show (l0.map strD).map V.dat ++ [V.str (S (line ++ [10]))] = ((l0 ++ [line ++ [10]]).map strD).map V.dat by simp only [List.map_append, List.map_cons, List.map_nil]]
      rw [show (l1.map strD).map V.dat ++ [V.str (S (line ++ [13, 10]))] = ((l1 ++ [line ++ [13, 10]]).map strD).map V.dat by simp only [List.map_append, List.map_cons, List.map_nil]]
      refine SG_frz (D := D0) (ds := (l0 ++ [line ++ [10]]).map strD) (by (with_reducible repeat first | exact Take.here | apply Take.there)) (AllDat.map _) (by (with_reducible repeat first | exact NF.nil | apply NF.cons VF.at_ | apply NF.cons VF.same | apply OF.ns | apply OF.cell VF.at_ | apply OF.cell VF.same | apply OF.list | exact LF.nil | apply LF.cons VF.at_ | apply LF.cons VF.same | exact LF.refl | apply OF.same | exact OF.refl)) ?_
      refine SG_frz (D := D1) (ds := (l1 ++ [line ++ [13, 10]]).map strD) (by (with_reducible repeat first | exact Take.here | apply Take.there)) (AllDat.map _) (by (with_reducible repeat first | exact NF.nil | apply NF.cons VF.at_ | apply NF.cons VF.same | apply OF.ns | apply OF.cell VF.at_ | apply OF.cell VF.same | apply OF.list | exact LF.nil | apply LF.cons VF.at_ | apply LF.cons VF.same | exact LF.refl | apply OF.same | exact OF.refl)) ?_
      refine SG_frz (D := D) (ds := [.list ((l0 ++ [line ++ [10]]).map strD), .list ((l1 ++ [line ++ [13, 10]]).map strD)]) (by (with_reducible repeat first | exact Take.here | apply Take.there)) (.cons (.cons .nil)) (by (with_reducible repeat first | exact NF.nil | apply NF.cons VF.at_ | apply NF.cons VF.same | apply OF.ns | apply OF.cell VF.at_ | apply OF.cell VF.same | apply OF.list | exact LF.nil | apply LF.cons VF.at_ | apply LF.cons VF.same | exact LF.refl | apply OF.same | exact OF.refl)) ?_
      refine SX_Return ?_
      refine SE_Name ?_ (by decide +kernel)
      refine SN_loc rfl rfl (by (with_reducible repeat first | exact List.mem_cons_self | refine List.mem_cons_of_mem _ ?_ | assumption | exact mem_mid' | exact mem_mid (by assumption))) (by with_reducible rfl) (by (with_reducible repeat first | exact List.mem_cons_self | refine List.mem_cons_of_mem _ ?_ | assumption | exact mem_mid' | exact mem_mid (by assumption))) ?_
      refine ⟨_, .drop .refl, l0 ++ [line ++ [10]], l1 ++ [line ++ [13, 10]], rfl, rfl, ?_, ?_, by simp only [List.length_append, List.length_cons, List.length_nil]; (first | decide | exact Nat.le_trans (by assumption) (by decide) | lia | omega), by simp only [List.length_append, List.length_cons, List.length_nil]; (first | decide | exact Nat.le_trans (by assumption) (by decide) | lia | omega)⟩
      · intro l hl; rcases List.mem_append.mp hl with hl | hl; exact ok0 l hl; rw [List.mem_singleton.mp hl]; exact ⟨line, [10], rfl, okl9, by decide⟩
      · intro l hl; rcases List.mem_append.mp hl with hl | hl; exact ok1 l hl; rw [List.mem_singleton.mp hl]; exact ⟨line, [13, 10], rfl, okl9, by decide⟩
/-! ### the screen -/
theorem rstrip_snoc (d : List Nat) : rstripL (fun c => [10].contains c) (d ++ [10]) = rstripL (fun c => [10].contains c) d := by
  unfold rstripL
  rw [List.reverse_append, List.reverse_singleton, List.singleton_append, List.takeWhile_cons, if_pos (by decide), List.length_append, List.length_cons, List.length_cons, List.length_nil]
  have h : (d.reverse.takeWhile fun c => [10].contains c).length ≤ d.length := by
    have := (List.takeWhile_sublist (fun c => [10].contains c) (l := d.reverse)).length_le
    rwa [List.length_reverse] at this
  rw [show d.length + (0 + 1) - ((d.reverse.takeWhile fun c => [10].contains c).length + 1) = d.length - (d.reverse.takeWhile fun c => [10].contains c).length by (first | decide | exact Nat.le_trans (by assumption) (by decide) | lia | omega)]
  rw [List.take_append_of_le_length (by (first | decide | exact Nat.le_trans (by assumption) (by decide) | lia | omega))]
theorem rstrip_keep {d : List Nat} (h : d.getLast? ≠ some 10) : rstripL (fun c => [10].contains c) d = d := by
  unfold rstripL
  have : d.reverse.takeWhile (fun c => [10].contains c) = [] := by
    cases e : d.reverse with
    | nil => rfl
    | cons a r =>
      have : d.getLast? = some a := by rw [← List.head?_reverse, e]; rfl
      rw [this] at h
      rw [List.takeWhile_cons, if_neg]
      simp only [List.contains_cons, List.contains_nil, Bool.or_false, beq_iff_eq]
      exact fun e => h (by rw [e])
  rw [this]; simp
theorem cut_last (d : List Nat) : cutL d (some (-1)) none = (match d.getLast? with | some c => [c] | none => []) := by
  cases hd : d.getLast? with
  | none => rw [List.getLast?_eq_none_iff] at hd; subst hd; rfl
  | some c =>
    obtain ⟨e, rfl⟩ : ∃ e, d = e ++ [c] := List.getLast?_eq_some_iff.mp hd
    unfold cutL clipAt
    simp only [Option.elim_none, Option.elim_some, List.length_append, List.length_cons, List.length_nil]
    have : (max 0 (min (if (-1 : Int) < 0 then (-1 : Int) + ((e.length + (0 + 1) : Nat) : Int) else (-1 : Int)) ((e.length + (0 + 1) : Nat) : Int))).toNat = e.length := by rw [if_pos (by (first | decide | exact Nat.le_trans (by assumption) (by decide) | lia | omega))]; (first | decide | exact Nat.le_trans (by assumption) (by decide) | lia | omega)
    rw [this, List.drop_left]
    exact List.take_of_length_le (by simp)
theorem cut_init (e : List Nat) (c : Nat) : cutL (e ++ [c]) none (some (-1)) = e := by
  unfold cutL clipAt
  simp only [Option.elim_none, Option.elim_some, List.length_append, List.length_cons, List.length_nil, List.drop_zero, Nat.sub_zero]
  have : (max 0 (min (if (-1 : Int) < 0 then (-1 : Int) + ((e.length + (0 + 1) : Nat) : Int) else (-1 : Int)) ((e.length + (0 + 1) : Nat) : Int))).toNat = e.length := by rw [if_pos (by (first | decide | exact Nat.le_trans (by assumption) (by decide) | lia | omega))]; (first | decide | exact Nat.le_trans (by assumption) (by decide) | lia | omega)
  rw [this, List.take_left]
/-- where a tab leads -/
noncomputable def tabTo (n col : Nat) : Nat := if 0 < n then (col / n + 1) * n else col
theorem tabTo_le (n col : Nat) (hn : n ≤ 9) : col ≤ tabTo n col ∧ tabTo n col ≤ col + 9 := by
  unfold tabTo
  split
  · rename_i h
    have h1 := Nat.div_add_mod col n
    have h2 := Nat.mod_lt col h
    have h3 : (col / n + 1) * n = n * (col / n) + n := by rw [Nat.add_mul, Nat.one_mul, Nat.mul_comm]
    (first | decide | exact Nat.le_trans (by assumption) (by decide) | lia | omega)
  · (first | decide | exact Nat.le_trans (by assumption) (by decide) | lia | omega)
noncomputable def cleanC (c : Nat) : Nat := if c = 0 then 32 else c
/-- the signs with their columns -/
noncomputable def fillL (n : Nat) : List Nat → Nat → List (Nat × Nat)
  | [], _ => []
  | c :: l, col => if c = 9 then fillL n l (tabTo n col) else (col, cleanC c) :: fillL n l (col + 1)
noncomputable def colL (n : Nat) : List Nat → Nat → Nat
  | [], col => col
  | c :: l, col => if c = 9 then colL n l (tabTo n col) else colL n l (col + 1)
theorem colL_le (n : Nat) (hn : n ≤ 9) : ∀ (l : List Nat) (col : Nat), col ≤ colL n l col ∧ colL n l col ≤ col + 9 * l.length
  | [], col => by simp [colL]
  | c :: l, col => by
    rw [colL, List.length_cons]
    split
    · have := tabTo_le n col hn; have := colL_le n hn l (tabTo n col); (first | decide | exact Nat.le_trans (by assumption) (by decide) | lia | omega)
    · have := colL_le n hn l (col + 1); (first | decide | exact Nat.le_trans (by assumption) (by decide) | lia | omega)
theorem fillL_lt (n : Nat) (hn : n ≤ 9) : ∀ (l : List Nat) (col : Nat), ∀ p ∈ fillL n l col, col ≤ p.1 ∧ p.1 < colL n l col
  | [], col, p, h => by cases h
  | c :: l, col, p, h => by
    rw [fillL] at h
    rw [colL]
    split at h
    · rename_i e
      rw [if_pos e]
      have := tabTo_le n col hn; have := fillL_lt n hn l _ p h; (first | decide | exact Nat.le_trans (by assumption) (by decide) | lia | omega)
    · rename_i e
      rw [if_neg e]
      rcases List.mem_cons.mp h with rfl | h
      · have := colL_le n hn l (col + 1); show col ≤ col ∧ col < _; (first | decide | exact Nat.le_trans (by assumption) (by decide) | lia | omega)
      · have := fillL_lt n hn l _ p h; (first | decide | exact Nat.le_trans (by assumption) (by decide) | lia | omega)
theorem fillL_len (n : Nat) : ∀ (l : List Nat) (col : Nat), (fillL n l col).length ≤ l.length
  | [], _ => Nat.le_refl _
  | c :: l, col => by
    rw [fillL, List.length_cons]
    split
    · have := fillL_len n l (tabTo n col); (first | decide | exact Nat.le_trans (by assumption) (by decide) | lia | omega)
    · have := fillL_len n l (col + 1); rw [List.length_cons]; (first | decide | exact Nat.le_trans (by assumption) (by decide) | lia | omega)
noncomputable abbrev fillD (p : Nat × Nat) : PyData := .tuple [.int p.1, strD [p.2]]
/-- a sign is written into the rows -/
noncomputable def putM (w : Nat) (m : List (List Nat)) (p : Nat × Nat) : List (List Nat) := m.modify (p.1 / w) (·.set (p.1 % w) p.2)
noncomputable def screenL (n w : Nat) (l : List Nat) : List (List Nat) :=
  let m := (fillL n l 0).foldl (putM w) (List.replicate (colL n l 0 / w + 1) (List.replicate w 9))
  if 0 < colL n l 0 ∧ colL n l 0 % w = 0 then m.dropLast else m
/-! ### rows of one's own -/
noncomputable abbrev RowsA := List (Addr × List Nat)
noncomputable abbrev refsR (rs : RowsA) : List V := rs.map fun p => V.ref p.1
noncomputable abbrev ownR (rs : RowsA) : Own := rs.map fun p => (p.1, Ob.list ((p.2.map fun c => strD [c]).map V.dat))
noncomputable def putR (i j c : Nat) (rs : RowsA) : RowsA := rs.modify i fun p => (p.1, p.2.set j c)
theorem putR_refs (i j c : Nat) (rs : RowsA) : refsR (putR i j c rs) = refsR rs := by
  unfold refsR putR
  induction rs generalizing i with
  | nil => cases i <;> rfl
  | cons p rs ih =>
    cases i with
    | zero => rfl
    | succ i => rw [List.modify_succ_cons, List.map_cons, List.map_cons, ih]
theorem putR_snd (i j c : Nat) (rs : RowsA) : (putR i j c rs).map (·.2) = (rs.map (·.2)).modify i (·.set j c) := by
  unfold putR
  induction rs generalizing i with
  | nil => cases i <;> rfl
  | cons p rs ih =>
    cases i with
    | zero => rfl
    | succ i => rw [List.modify_succ_cons, List.map_cons, List.map_cons, List.modify_succ_cons, ih]
theorem ownR_upd {i j c : Nat} {rest : Own} : ∀ {rs : RowsA} {a : Addr} {l : List Nat}, rs[i]? = some (a, l) → Upd a (.list ((l.map fun c => strD [c]).map V.dat)) (.list (((l.map fun c => strD [c]).map V.dat).set j (V.str (S [c])))) (ownR rs ++ rest) (ownR (putR i j c rs) ++ rest) := by
  induction i with
  | zero =>
    intro rs a l h
    cases rs with
    | nil => cases h
    | cons p rs =>
      simp only [List.getElem?_cons_zero, Option.some.injEq] at h
      subst h
      have e : ((l.map fun c => strD [c]).map V.dat).set j (V.str (S [c])) = (((l.set j c).map fun c => strD [c]).map V.dat) := by rw [List.map_set, List.map_set]
      rw [e]
      exact Upd.here
  | succ i ih =>
    intro rs a l h
    cases rs with
    | nil => cases h
    | cons p rs =>
      rw [List.getElem?_cons_succ] at h
      exact Upd.there (ih h)
theorem Hold.frzRows {fz : Heap} {s : Shared} {own : Own} : ∀ {rs : RowsA} {fz : Heap}, Hold W fz (ownR rs ++ own) s → ∃ fz', Keep fz fz' ∧ Hold W fz' own s ∧ RVs fz' (rs.map fun p => V.lst (p.2.map fun c => strD [c])) (rs.map fun p => Value.ref p.1)
  | [], fz, H => ⟨fz, .refl _, H, .nil⟩
  | p :: rs, fz, H => by
    obtain ⟨fz1, k1, H1, r1⟩ := Hold.freezeList (D := p.1) (own := ownR rs ++ own) H (AllDat.map _)
    obtain ⟨fz2, k2, H2, r2⟩ := Hold.frzRows (fz := fz) H1
    exact ⟨fz2, k1.trans k2, H2, .cons (r1.mono k2) r2⟩
noncomputable abbrev rowsV (rs : RowsA) : List PyData := rs.map fun p => .list (p.2.map fun c => strD [c])
theorem refs_vals {fz : Heap} : ∀ {rs : RowsA} {vs : List Value}, RVs fz (refsR rs) vs → vs = rs.map fun p => Value.ref p.1
  | [], _, h => by cases h; rfl
  | p :: rs, _, h => by
    cases h with
    | cons h t => rw [h.val_inv, refs_vals t]; rfl
theorem SG_frzRows {α β : Type} {R : Heap → β → α → Prop} {t : Sem α} {Q : β → Own → Prop} {D : Addr} {rs : RowsA} {own : Own} (h : SG W A R t ((D, .list ((rowsV rs).map V.dat)) :: own) Q) : SG W A R t ((D, .list (refsR rs)) :: (ownR rs ++ own)) Q := fun fz s H ht => by
  have H1 : Hold W fz (ownR rs ++ ((D, .list (refsR rs)) :: own)) s := H.perm List.perm_middle.symm
  obtain ⟨fz', k, H2, r⟩ := Hold.frzRows (fz := fz) H1
  refine (h fz' s ⟨H2.base, H2.has, fun p hp => ?_, fun p hp => ?_, H2.nd, H2.gens.upd .here rfl, H2.os⟩ ht).weak k
  · rcases List.mem_cons.mp hp with rfl | hp
    · obtain ⟨o, ho, vs, n, e, rv⟩ := H2.get List.mem_cons_self
      rw [refs_vals rv] at e
      exact ⟨o, ho, _, n, e, by rw [rowsV, List.map_map]; exact r⟩
    · exact H2.obs p (List.mem_cons_of_mem _ hp)
  · rcases List.mem_cons.mp hp with rfl | hp
    · exact H2.out (D, .list (refsR rs)) List.mem_cons_self
    · exact H2.out p (List.mem_cons_of_mem _ hp)
theorem Wk.dropMid {q : Addr × Ob} {b : Own} : ∀ {a : Own}, Wk (a ++ q :: b) (a ++ b)
  | [] => .drop .refl
  | (x, o) :: a => .keep .refl Wk.dropMid
theorem Wk.after {b b' : Own} (h : Wk b b') : ∀ {a : Own}, Wk (a ++ b) (a ++ b')
  | [] => h
  | (x, o) :: a => .keep .refl (Wk.after h)
theorem small_of {a b c n : Int} (ha : 0 ≤ a ∧ a ≤ 100000) (hb : -1 ≤ b) (hb2 : b ≤ 100000) (hc : 0 < c ∧ c ≤ 100000) (hn : Builtin.Range.rangeSize a b c = n) (hn2 : 0 ≤ n ∧ n ≤ 100000) : Builtin.Range.small a b c = true := by
  have f : ∀ x : Int, -1 ≤ x → x ≤ 300000 → Builtin.Range.rangeFitsLong x = true := fun x h1 h2 => by
    unfold Builtin.Range.rangeFitsLong
    simp only [Bool.and_eq_true, decide_eq_true_eq]
    (first | decide | exact Nat.le_trans (by assumption) (by decide) | lia | omega)
  unfold Builtin.Range.small
  rw [hn, f a (by (first | decide | exact Nat.le_trans (by assumption) (by decide) | lia | omega)) (by (first | decide | exact Nat.le_trans (by assumption) (by decide) | lia | omega)), f b (by (first | decide | exact Nat.le_trans (by assumption) (by decide) | lia | omega)) (by (first | decide | exact Nat.le_trans (by assumption) (by decide) | lia | omega)), f c (by (first | decide | exact Nat.le_trans (by assumption) (by decide) | lia | omega)) (by (first | decide | exact Nat.le_trans (by assumption) (by decide) | lia | omega)), f n (by (first | decide | exact Nat.le_trans (by assumption) (by decide) | lia | omega)) (by (first | decide | exact Nat.le_trans (by assumption) (by decide) | lia | omega)), if_pos hc.1, f (b + (c - 1)) (by (first | decide | exact Nat.le_trans (by assumption) (by decide) | lia | omega)) (by (first | decide | exact Nat.le_trans (by assumption) (by decide) | lia | omega))]
  simp
theorem range_up (n : Nat) : Builtin.Range.rangeSize 0 (n : Int) 1 = (n : Int) := by
  unfold Builtin.Range.rangeSize
  rw [if_pos (by (first | decide | exact Nat.le_trans (by assumption) (by decide) | lia | omega))]
  by_cases h0 : (0 : Int) < n
  · rw [if_pos h0]; (first | decide | exact Nat.le_trans (by assumption) (by decide) | lia | omega)
  · rw [if_neg h0]; (first | decide | exact Nat.le_trans (by assumption) (by decide) | lia | omega)
theorem SG.opq {α β : Type} {R : Heap → β → α → Prop} {t : Sem α} {own : Own} {Q : β → Own → Prop} (h : ∀ Q' : β → Own → Prop, (∀ b o, Q b o → Q' b o) → SG W A R t own Q') : SG W A R t own Q := h Q fun _ _ x => x
theorem c_screen (hK : K07 W) (hh : A.handled = none) (hd : A.depth < recursionLimit) {n w : Nat} (hn : n ≤ 9) (hw : 0 < w) (hw9 : w ≤ 9) {l : List Nat} (hl : l.length ≤ 200) :
    SLC W A (.ref 127) [.str (S l), .int n, .int w] own (fun r o => r = .lst ((screenL n w (rstripL (fun c => [10].contains c) l)).map fun r => .list (r.map fun c => strD [c])) ∧ o = own) := by
  refine' do_callE [Str.ofString "line", Str.ofString "stops", Str.ofString "wide"] [(Str.ofString "line", .str (S l)), (Str.ofString "stops", .int n)] [(Str.ofString "wide", 1, some (.int w))] ?ho ?hcd hd ?hb ?hcl ?ndc ?hkind ?hbind ?hh9 ?c1 ?c2 ?c3
  case ho => exact K_of hK rfl
  case hcd => rw [hK]; rfl
  case hb => intro s vs _ hl; obtain ⟨_, _, _, rfl⟩ := len_3 hl; exact BindsTo.of_eq rfl
  case hcl => intro L; rfl
  case ndc => (first | dsimp only [List.map_cons, List.map_nil] | simp only [List.map_cons, List.map_nil]); decide +kernel
  case hkind => (first | dsimp only [List.map_cons, List.map_nil] | simp only [List.map_cons, List.map_nil]); decide +kernel
  case hbind =>
    intro fz vs L r
    cases r with | cons r1 r => cases r with | cons r2 r => cases r with | cons r3 r => cases r; exact ⟨⟨⟨_, rfl, r1⟩, ⟨_, rfl, r2⟩, trivial⟩, ⟨_, rfl, r3⟩, trivial⟩
  case c1 => rfl
  case c2 => rfl
  case c3 => rfl
  intro L
  dsimp only [lawS, nthS, fdB, fdS, clB, PySem.Challenge.pw_dm0066_07]
  (first | dsimp only [List.map_cons, List.map_nil, List.cons_append, List.nil_append] | simp only [List.map_cons, List.map_nil, List.cons_append, List.nil_append])
  refine @deeper_gen W A _ _ _ _ _ hh ?_
  intro A' hh' hd' hu'
  generalize hres : screenL n w (rstripL (fun c => [10].contains c) l) = res
  refine SG.opq fun RR hRR => ?_
  refine SXs_cons (SX_AssignSw (names := [Str.ofString "column", Str.ofString "filled"]) hh' rfl ?_)
  refine SE_Tuple ?_
  refine SEs_cons ?_
  refine SE_int ?_
  refine SEs_cons ?_
  refine SE_List (by ((rw [sizeLine_eq]; simp))) ?_
  refine SEs_nil ?_
  refine ⟨by ((rw [sizeLine_eq]; simp)), fun F => ?_⟩
  refine SEs_nil ?_
  refine ⟨by ((rw [sizeLine_eq]; simp)), fun tt => ⟨tt, _, rfl, by (with_reducible repeat first | exact List.mem_cons_self | refine List.mem_cons_of_mem _ ?_ | assumption | exact mem_mid' | exact mem_mid (by assumption)), rfl, ?_⟩⟩
  simp only [List.reverse_cons, List.reverse_nil, List.nil_append, List.cons_append]
  refine SSs_cons ?_
  refine SS_loc rfl rfl (by (with_reducible repeat first | exact List.mem_cons_self | refine List.mem_cons_of_mem _ ?_ | assumption | exact mem_mid' | exact mem_mid (by assumption))) (by with_reducible rfl) (by (with_reducible repeat first | exact Put.here | exact Put.new | apply Put.there)) (by ((first | (dsimp only [List.map_cons, List.map_nil]; decide +kernel) | (simp only [List.map_cons, List.map_nil]; decide +kernel)))) (by (with_reducible repeat first | exact Upd.here | exact Upd.mid | apply Upd.there)) ?_
  refine SSs_cons ?_
  refine SS_loc rfl rfl (by (with_reducible repeat first | exact List.mem_cons_self | refine List.mem_cons_of_mem _ ?_ | assumption | exact mem_mid' | exact mem_mid (by assumption))) (by with_reducible rfl) (by (with_reducible repeat first | exact Put.here | exact Put.new | apply Put.there)) (by ((first | (dsimp only [List.map_cons, List.map_nil]; decide +kernel) | (simp only [List.map_cons, List.map_nil]; decide +kernel)))) (by (with_reducible repeat first | exact Upd.here | exact Upd.mid | apply Upd.there)) ?_
  refine SSs_nil ?_
  refine SG.wk (own' := (F, Ob.list []) :: (L, Ob.ns [(Str.ofString "line", .str (S l)), (Str.ofString "stops", .int n), (Str.ofString "filled", .ref F), (Str.ofString "column", .int 0)]) :: (L + 1, Ob.cell (some (.int w))) :: own) (by (with_reducible repeat first | exact Wk.refl | exact Wk.nil | refine Wk.keep ObW.refl ?_ | refine Wk.keep (ObW.ns (by (with_reducible repeat first | exact List.Sublist.refl _ | exact List.nil_sublist _ | apply List.Sublist.cons_cons | apply List.Sublist.cons))) ?_ | apply Wk.drop)) ?_
  refine SXs_cons (SG.mono (Q := fun fl o => fl = Fl.next ∧ ∃ d : List Nat, d = rstripL (fun c => [10].contains c) l ∧ d.length ≤ 200 ∧ o = (F, Ob.list []) :: (L, Ob.ns [(Str.ofString "line", .str (S d)), (Str.ofString "stops", .int n), (Str.ofString "filled", .ref F), (Str.ofString "column", .int 0)]) :: (L + 1, Ob.cell (some (.int w))) :: own)
    ?_ ?_)
  · refine SG.opq fun QB hQB => ?_
    refine SX_While (J := fun k o => ∃ d : List Nat, d.length = k ∧ k ≤ 200 ∧ rstripL (fun c => [10].contains c) d = rstripL (fun c => [10].contains c) l ∧ o = (F, Ob.list []) :: (L, Ob.ns [(Str.ofString "line", .str (S d)), (Str.ofString "stops", .int n), (Str.ofString "filled", .ref F), (Str.ofString "column", .int 0)]) :: (L + 1, Ob.cell (some (.int w))) :: own) l.length ⟨l, rfl, hl, rfl, rfl⟩ ?_
    rintro k o ⟨d, rfl, hdl, e0, rfl⟩
    refine SG.opq fun QT hQT => ?_
    refine ST_Compare ?_
    refine SE_SliceSS ?_
    refine SE_Name ?_ (by decide +kernel)
    refine SN_loc rfl rfl (by (with_reducible repeat first | exact List.mem_cons_self | refine List.mem_cons_of_mem _ ?_ | assumption | exact mem_mid' | exact mem_mid (by assumption))) (by with_reducible rfl) (by (with_reducible repeat first | exact List.mem_cons_self | refine List.mem_cons_of_mem _ ?_ | assumption | exact mem_mid' | exact mem_mid (by assumption))) ?_
    refine SPt_some ?_
    refine SE_UnaryOp ?_
    refine SE_int ?_
    with_reducible refine op_neg ?_
    with_reducible refine ⟨_, rfl, ?_⟩
    refine SPt_none ?_
    with_reducible refine ⟨_, rfl, ?_⟩
    refine ⟨by rw [sizeLine_eq]; (first | decide | exact Nat.le_trans (by assumption) (by decide) | lia | omega), ?_⟩
    rw [cut_last]
    cases hq : d.getLast? with
    | none =>
      dsimp only
      refine SE_strL (by (first | exact l07_0 | exact l07_1 | exact l07_2 | exact l07_3 | exact l07_4 | exact l07_5 | exact l07_6 | exact l07_7 | exact l07_8 | exact l07_9 | exact l07_10 | exact l07_11 | exact l07_12 | exact l07_13 | exact l07_14 | exact l07_15 | exact l07_16 | exact l07_17 | exact l07_18 | exact l07_19 | exact l07_20 | exact l07_21 | exact l07_22 | exact l07_23 | exact l07_24 | exact l07_25 | exact l07_26 | exact l07_27 | exact l07_28 | exact l07_29 | exact l07_30 | exact l07_31 | exact l07_32 | exact l07_33 | exact l07_34 | exact l07_35 | exact l07_36)) ?_
      with_reducible refine cmp_eqSS ?_
      with_reducible refine tr_bool ?_
      refine hQT _ _ (ite_dec (fun h => absurd h (by simp)) (fun _ => ?_))
      rw [rstrip_keep (by rw [hq]; exact fun h => nomatch h)] at e0
      exact hQB _ _ ⟨rfl, d, e0, hdl, rfl⟩
    | some c =>
      dsimp only
      refine SE_strL (by (first | exact l07_0 | exact l07_1 | exact l07_2 | exact l07_3 | exact l07_4 | exact l07_5 | exact l07_6 | exact l07_7 | exact l07_8 | exact l07_9 | exact l07_10 | exact l07_11 | exact l07_12 | exact l07_13 | exact l07_14 | exact l07_15 | exact l07_16 | exact l07_17 | exact l07_18 | exact l07_19 | exact l07_20 | exact l07_21 | exact l07_22 | exact l07_23 | exact l07_24 | exact l07_25 | exact l07_26 | exact l07_27 | exact l07_28 | exact l07_29 | exact l07_30 | exact l07_31 | exact l07_32 | exact l07_33 | exact l07_34 | exact l07_35 | exact l07_36)) ?_
      with_reducible refine cmp_eqSS ?_
      with_reducible refine tr_bool ?_
      refine hQT _ _ (ite_dec (fun h0 => ?_) (fun h0 => ?_))
      · have hc : c = 10 := by simpa using h0
        subst hc
        obtain ⟨e, rfl⟩ := List.getLast?_eq_some_iff.mp hq
        rw [rstrip_snoc] at e0
        simp only [List.length_append, List.length_cons, List.length_nil] at hdl
        refine SG.opq fun QU hQU => ?_
        refine SXs_cons ?_
        refine SX_Assign ?_
        refine SE_SliceSS ?_
        refine SE_Name ?_ (by decide +kernel)
        refine SN_loc rfl rfl (by (with_reducible repeat first | exact List.mem_cons_self | refine List.mem_cons_of_mem _ ?_ | assumption | exact mem_mid' | exact mem_mid (by assumption))) (by with_reducible rfl) (by (with_reducible repeat first | exact List.mem_cons_self | refine List.mem_cons_of_mem _ ?_ | assumption | exact mem_mid' | exact mem_mid (by assumption))) ?_
        refine SPt_none ?_
        refine SPt_some ?_
        refine SE_UnaryOp ?_
        refine SE_int ?_
        with_reducible refine op_neg ?_
        with_reducible refine ⟨_, rfl, ?_⟩
        with_reducible refine ⟨_, rfl, ?_⟩
        refine ⟨by rw [sizeLine_eq]; simp only [List.length_append, List.length_cons, List.length_nil]; (first | decide | exact Nat.le_trans (by assumption) (by decide) | lia | omega), ?_⟩
        rw [cut_init]
        refine SS_loc rfl rfl (by (with_reducible repeat first | exact List.mem_cons_self | refine List.mem_cons_of_mem _ ?_ | assumption | exact mem_mid' | exact mem_mid (by assumption))) (by with_reducible rfl) (by (with_reducible repeat first | exact Put.here | exact Put.new | apply Put.there)) (by ((first | (dsimp only [List.map_cons, List.map_nil]; decide +kernel) | (simp only [List.map_cons, List.map_nil]; decide +kernel)))) (by (with_reducible repeat first | exact Upd.here | exact Upd.mid | apply Upd.there)) ?_
        refine SXs_nil ?_
        refine hQU _ _ ?_
        exact ⟨_, e.length, by (with_reducible repeat first | exact Wk.refl | exact Wk.nil | refine Wk.keep ObW.refl ?_ | refine Wk.keep (ObW.ns (by (with_reducible repeat first | exact List.Sublist.refl _ | exact List.nil_sublist _ | apply List.Sublist.cons_cons | apply List.Sublist.cons))) ?_ | apply Wk.drop), by simp only [List.length_append, List.length_cons, List.length_nil]; (first | decide | exact Nat.le_trans (by assumption) (by decide) | lia | omega), e, rfl, by (first | decide | exact Nat.le_trans (by assumption) (by decide) | lia | omega), e0, rfl⟩
      · have hc : ¬ c = 10 := by simpa using h0
        rw [rstrip_keep (by rw [hq]; intro h; injection h with h; exact hc h)] at e0
        exact hQB _ _ ⟨rfl, d, e0, hdl, rfl⟩
  rintro fl o ⟨rfl, d, hd1, hdl, rfl⟩
  rw [← hd1] at hres
  clear hd1 hl
  refine SXs_cons (SG.mono (Q := fun fl o => fl = Fl.next ∧ Wk o ((F, Ob.list (((fillL n d 0).map fillD).map V.dat)) :: (L, Ob.ns [(Str.ofString "line", .str (S d)), (Str.ofString "stops", .int n), (Str.ofString "filled", .ref F), (Str.ofString "column", .int (colL n d 0 : Nat))]) :: (L + 1, Ob.cell (some (.int w))) :: own)) (SX_For hh' ?_) ?_)
  · refine SE_Name ?_ (by decide +kernel)
    refine SN_loc rfl rfl (by (with_reducible repeat first | exact List.mem_cons_self | refine List.mem_cons_of_mem _ ?_ | assumption | exact mem_mid' | exact mem_mid (by assumption))) (by with_reducible rfl) (by (with_reducible repeat first | exact List.mem_cons_self | refine List.mem_cons_of_mem _ ?_ | assumption | exact mem_mid' | exact mem_mid (by assumption))) ?_
    refine it_strS fun it => ⟨it, _, _, rfl, rfl, fun r o => ∃ (post : List Nat) (done : List (Nat × Nat)) (col : Nat), r = post.map (fun c => V.str (S [c])) ∧
      o = (F, Ob.list ((done.map fillD).map V.dat)) :: (L, Ob.ns [(Str.ofString "line", .str (S d)), (Str.ofString "stops", .int n), (Str.ofString "filled", .ref F), (Str.ofString "column", .int col)]) :: (L + 1, Ob.cell (some (.int w))) :: own ∧
      done ++ fillL n post col = fillL n d 0 ∧ colL n post col = colL n d 0 ∧ col + 9 * post.length ≤ 1800 ∧ done.length + post.length ≤ 200, ?_, ?_, ?_⟩
    · exact ⟨d, [], 0, rfl, rfl, rfl, rfl, by (first | decide | exact Nat.le_trans (by assumption) (by decide) | lia | omega), by (first | dsimp only [List.length_nil] | simp only [List.length_nil]); (first | decide | exact Nat.le_trans (by assumption) (by decide) | lia | omega)⟩
    · rintro v r o ⟨post, done, col, hr, rfl, inv1, inv2, hb1, hb2⟩
      cases post with
      | nil => cases hr
      | cons c post =>
        injection hr with e1 e2
        subst e1 e2
        simp only [List.length_cons] at hb1 hb2
        have ex : ∀ d : Nat, ([c] = [d]) = (c = d) := fun d => by simp
        refine SA_Name ?_
        refine SS_loc rfl rfl (by (with_reducible repeat first | exact List.mem_cons_self | refine List.mem_cons_of_mem _ ?_ | assumption | exact mem_mid' | exact mem_mid (by assumption))) (by with_reducible rfl) (by (with_reducible repeat first | exact Put.here | exact Put.new | apply Put.there)) (by ((first | (dsimp only [List.map_cons, List.map_nil]; decide +kernel) | (simp only [List.map_cons, List.map_nil]; decide +kernel)))) (by (with_reducible repeat first | exact Upd.here | exact Upd.mid | apply Upd.there)) ?_
        refine SG.opq fun QT hQT => ?_
        refine SXs_cons ?_
        refine SX_If ?_
        refine ST_Compare ?_
        refine SE_Name ?_ (by decide +kernel)
        refine SN_loc rfl rfl (by (with_reducible repeat first | exact List.mem_cons_self | refine List.mem_cons_of_mem _ ?_ | assumption | exact mem_mid' | exact mem_mid (by assumption))) (by with_reducible rfl) (by (with_reducible repeat first | exact List.mem_cons_self | refine List.mem_cons_of_mem _ ?_ | assumption | exact mem_mid' | exact mem_mid (by assumption))) ?_
        refine SE_strL (by (first | exact l07_0 | exact l07_1 | exact l07_2 | exact l07_3 | exact l07_4 | exact l07_5 | exact l07_6 | exact l07_7 | exact l07_8 | exact l07_9 | exact l07_10 | exact l07_11 | exact l07_12 | exact l07_13 | exact l07_14 | exact l07_15 | exact l07_16 | exact l07_17 | exact l07_18 | exact l07_19 | exact l07_20 | exact l07_21 | exact l07_22 | exact l07_23 | exact l07_24 | exact l07_25 | exact l07_26 | exact l07_27 | exact l07_28 | exact l07_29 | exact l07_30 | exact l07_31 | exact l07_32 | exact l07_33 | exact l07_34 | exact l07_35 | exact l07_36)) ?_
        with_reducible refine cmp_neSS ?_
        with_reducible refine tr_bool ?_
        refine ite_dec (fun h9 => ?_) (fun h9 => ?_)
        · have h9' : ¬ c = 9 := by rw [← ex]; exact h9
          rw [fillL, if_neg h9'] at inv1
          rw [colL, if_neg h9'] at inv2
          refine SXs_cons ?_
          refine SX_Expr ?_
          refine SE_Meth ?_
          refine SE_Name ?_ (by decide +kernel)
          refine SN_loc rfl rfl (by (with_reducible repeat first | exact List.mem_cons_self | refine List.mem_cons_of_mem _ ?_ | assumption | exact mem_mid' | exact mem_mid (by assumption))) (by with_reducible rfl) (by (with_reducible repeat first | exact List.mem_cons_self | refine List.mem_cons_of_mem _ ?_ | assumption | exact mem_mid' | exact mem_mid (by assumption))) ?_
          refine mth_list (by (with_reducible repeat first | exact List.mem_cons_self | refine List.mem_cons_of_mem _ ?_ | assumption | exact mem_mid' | exact mem_mid (by assumption))) PySem.F.slot_list_append PySem.F.type_list_append ?_
          refine SEs_cons ?_
          refine SE_TupleF ?_
          refine SEs_cons ?_
          refine SE_Name ?_ (by decide +kernel)
          refine SN_loc rfl rfl (by (with_reducible repeat first | exact List.mem_cons_self | refine List.mem_cons_of_mem _ ?_ | assumption | exact mem_mid' | exact mem_mid (by assumption))) (by with_reducible rfl) (by (with_reducible repeat first | exact List.mem_cons_self | refine List.mem_cons_of_mem _ ?_ | assumption | exact mem_mid' | exact mem_mid (by assumption))) ?_
          refine SEs_cons ?_
          refine SE_IfExp ?_
          refine ST_Compare ?_
          refine SE_Name ?_ (by decide +kernel)
          refine SN_loc rfl rfl (by (with_reducible repeat first | exact List.mem_cons_self | refine List.mem_cons_of_mem _ ?_ | assumption | exact mem_mid' | exact mem_mid (by assumption))) (by with_reducible rfl) (by (with_reducible repeat first | exact List.mem_cons_self | refine List.mem_cons_of_mem _ ?_ | assumption | exact mem_mid' | exact mem_mid (by assumption))) ?_
          refine SE_strL (by (first | exact l07_0 | exact l07_1 | exact l07_2 | exact l07_3 | exact l07_4 | exact l07_5 | exact l07_6 | exact l07_7 | exact l07_8 | exact l07_9 | exact l07_10 | exact l07_11 | exact l07_12 | exact l07_13 | exact l07_14 | exact l07_15 | exact l07_16 | exact l07_17 | exact l07_18 | exact l07_19 | exact l07_20 | exact l07_21 | exact l07_22 | exact l07_23 | exact l07_24 | exact l07_25 | exact l07_26 | exact l07_27 | exact l07_28 | exact l07_29 | exact l07_30 | exact l07_31 | exact l07_32 | exact l07_33 | exact l07_34 | exact l07_35 | exact l07_36)) ?_
          with_reducible refine cmp_eqSS ?_
          with_reducible refine tr_bool ?_
          refine ite_dec (fun h0 => ?_) (fun h0 => ?_)
          · refine SE_strL (by (first | exact l07_0 | exact l07_1 | exact l07_2 | exact l07_3 | exact l07_4 | exact l07_5 | exact l07_6 | exact l07_7 | exact l07_8 | exact l07_9 | exact l07_10 | exact l07_11 | exact l07_12 | exact l07_13 | exact l07_14 | exact l07_15 | exact l07_16 | exact l07_17 | exact l07_18 | exact l07_19 | exact l07_20 | exact l07_21 | exact l07_22 | exact l07_23 | exact l07_24 | exact l07_25 | exact l07_26 | exact l07_27 | exact l07_28 | exact l07_29 | exact l07_30 | exact l07_31 | exact l07_32 | exact l07_33 | exact l07_34 | exact l07_35 | exact l07_36)) ?_
            refine SEs_nil ?_
            with_reducible refine ⟨_, by with_reducible ((first | exact AllDat.map _ | repeat first | exact AllDat.nil | with_reducible apply AllDat.cons)), by ((rw [sizeLine_eq]; simp)), ?_⟩
            refine SEs_nil ?_
            with_reducible refine ⟨kp_builtin, ?_⟩
            refine call_append (by (with_reducible repeat first | exact Upd.here | exact Upd.mid | apply Upd.there)) (by ((rw [sizeLine_eq]; (try simp only [List.length_append, List.length_cons, List.length_nil, List.length_map]); (first | decide | exact Nat.le_trans (by assumption) (by decide) | lia | omega)))) ?_
            refine SXs_cons ?_
            refine SX_Aug ?_
            refine SN_loc rfl rfl (by (with_reducible repeat first | exact List.mem_cons_self | refine List.mem_cons_of_mem _ ?_ | assumption | exact mem_mid' | exact mem_mid (by assumption))) (by with_reducible rfl) (by (with_reducible repeat first | exact List.mem_cons_self | refine List.mem_cons_of_mem _ ?_ | assumption | exact mem_mid' | exact mem_mid (by assumption))) ?_
            refine SE_int ?_
            with_reducible refine op_iadd ?_
            refine SS_loc rfl rfl (by (with_reducible repeat first | exact List.mem_cons_self | refine List.mem_cons_of_mem _ ?_ | assumption | exact mem_mid' | exact mem_mid (by assumption))) (by with_reducible rfl) (by (with_reducible repeat first | exact Put.here | exact Put.new | apply Put.there)) (by ((first | (dsimp only [List.map_cons, List.map_nil]; decide +kernel) | (simp only [List.map_cons, List.map_nil]; decide +kernel)))) (by (with_reducible repeat first | exact Upd.here | exact Upd.mid | apply Upd.there)) ?_
            refine SXs_nil ?_
            refine SXs_nil ?_
            have hc : 32 = cleanC c := by rw [show c = 0 by rw [← ex]; exact h0]; rfl
            rw [hc]
            rw [show (done.map fillD).map V.dat ++ [V.tup [.int col, .str (S [cleanC c])]] = ((done ++ [(col, cleanC c)]).map fillD).map V.dat by simp only [List.map_append, List.map_cons, List.map_nil], show ((col : Int) + 1) = ((col + 1 : Nat) : Int) by (first | decide | exact Nat.le_trans (by assumption) (by decide) | lia | omega)]
            exact hQT _ _ ⟨_, by (with_reducible repeat first | exact Wk.refl | exact Wk.nil | refine Wk.keep ObW.refl ?_ | refine Wk.keep (ObW.ns (by (with_reducible repeat first | exact List.Sublist.refl _ | exact List.nil_sublist _ | apply List.Sublist.cons_cons | apply List.Sublist.cons))) ?_ | apply Wk.drop), post, done ++ [(col, cleanC c)], col + 1, rfl, rfl, by rw [← inv1, List.append_assoc]; rfl, inv2, by (first | decide | exact Nat.le_trans (by assumption) (by decide) | lia | omega), by simp only [List.length_append, List.length_cons, List.length_nil]; (first | decide | exact Nat.le_trans (by assumption) (by decide) | lia | omega)⟩
          · refine SE_Name ?_ (by decide +kernel)
            refine SN_loc rfl rfl (by (with_reducible repeat first | exact List.mem_cons_self | refine List.mem_cons_of_mem _ ?_ | assumption | exact mem_mid' | exact mem_mid (by assumption))) (by with_reducible rfl) (by (with_reducible repeat first | exact List.mem_cons_self | refine List.mem_cons_of_mem _ ?_ | assumption | exact mem_mid' | exact mem_mid (by assumption))) ?_
            refine SEs_nil ?_
            with_reducible refine ⟨_, by with_reducible ((first | exact AllDat.map _ | repeat first | exact AllDat.nil | with_reducible apply AllDat.cons)), by ((rw [sizeLine_eq]; simp)), ?_⟩
            refine SEs_nil ?_
            with_reducible refine ⟨kp_builtin, ?_⟩
            refine call_append (by (with_reducible repeat first | exact Upd.here | exact Upd.mid | apply Upd.there)) (by ((rw [sizeLine_eq]; (try simp only [List.length_append, List.length_cons, List.length_nil, List.length_map]); (first | decide | exact Nat.le_trans (by assumption) (by decide) | lia | omega)))) ?_
            refine SXs_cons ?_
            refine SX_Aug ?_
            refine SN_loc rfl rfl (by (with_reducible repeat first | exact List.mem_cons_self | refine List.mem_cons_of_mem _ ?_ | assumption | exact mem_mid' | exact mem_mid (by assumption))) (by with_reducible rfl) (by (with_reducible repeat first | exact List.mem_cons_self | refine List.mem_cons_of_mem _ ?_ | assumption | exact mem_mid' | exact mem_mid (by assumption))) ?_
            refine SE_int ?_
            with_reducible refine op_iadd ?_
            refine SS_loc rfl rfl (by (with_reducible repeat first | exact List.mem_cons_self | refine List.mem_cons_of_mem _ ?_ | assumption | exact mem_mid' | exact mem_mid (by assumption))) (by with_reducible rfl) (by (with_reducible repeat first | exact Put.here | exact Put.new | apply Put.there)) (by ((first | (dsimp only [List.map_cons, List.map_nil]; decide +kernel) | (simp only [List.map_cons, List.map_nil]; decide +kernel)))) (by (with_reducible repeat first | exact Upd.here | exact Upd.mid | apply Upd.there)) ?_
            refine SXs_nil ?_
            refine SXs_nil ?_
            have hc : V.tup [.int col, .str (S [c])] = V.tup [.int col, .str (S [cleanC c])] := by rw [show cleanC c = c by unfold cleanC; rw [if_neg (by rw [← ex]; exact h0)]]
            rw [hc]
            rw [show (done.map fillD).map V.dat ++ [V.tup [.int col, .str (S [cleanC c])]] = ((done ++ [(col, cleanC c)]).map fillD).map V.dat by simp only [List.map_append, List.map_cons, List.map_nil], show ((col : Int) + 1) = ((col + 1 : Nat) : Int) by (first | decide | exact Nat.le_trans (by assumption) (by decide) | lia | omega)]
            exact hQT _ _ ⟨_, by (with_reducible repeat first | exact Wk.refl | exact Wk.nil | refine Wk.keep ObW.refl ?_ | refine Wk.keep (ObW.ns (by (with_reducible repeat first | exact List.Sublist.refl _ | exact List.nil_sublist _ | apply List.Sublist.cons_cons | apply List.Sublist.cons))) ?_ | apply Wk.drop), post, done ++ [(col, cleanC c)], col + 1, rfl, rfl, by rw [← inv1, List.append_assoc]; rfl, inv2, by (first | decide | exact Nat.le_trans (by assumption) (by decide) | lia | omega), by simp only [List.length_append, List.length_cons, List.length_nil]; (first | decide | exact Nat.le_trans (by assumption) (by decide) | lia | omega)⟩
        · have h9' : c = 9 := by rw [← ex]; exact Classical.not_not.mp h9
          rw [fillL, if_pos h9'] at inv1
          rw [colL, if_pos h9'] at inv2
          refine SXs_cons ?_
          refine SX_If ?_
          refine ST_Compare ?_
          refine SE_Name ?_ (by decide +kernel)
          refine SN_loc rfl rfl (by (with_reducible repeat first | exact List.mem_cons_self | refine List.mem_cons_of_mem _ ?_ | assumption | exact mem_mid' | exact mem_mid (by assumption))) (by with_reducible rfl) (by (with_reducible repeat first | exact List.mem_cons_self | refine List.mem_cons_of_mem _ ?_ | assumption | exact mem_mid' | exact mem_mid (by assumption))) ?_
          refine SE_int ?_
          with_reducible refine cmp_gt ?_
          with_reducible refine tr_bool ?_
          refine ite_dec (fun h0 => ?_) (fun h0 => ?_)
          · refine SXs_cons ?_
            refine SX_Assign ?_
            refine SE_BinOp ?_
            refine SE_BinOp ?_
            refine SE_BinOp ?_
            refine SE_Name ?_ (by decide +kernel)
            refine SN_loc rfl rfl (by (with_reducible repeat first | exact List.mem_cons_self | refine List.mem_cons_of_mem _ ?_ | assumption | exact mem_mid' | exact mem_mid (by assumption))) (by with_reducible rfl) (by (with_reducible repeat first | exact List.mem_cons_self | refine List.mem_cons_of_mem _ ?_ | assumption | exact mem_mid' | exact mem_mid (by assumption))) ?_
            refine SE_Name ?_ (by decide +kernel)
            refine SN_loc rfl rfl (by (with_reducible repeat first | exact List.mem_cons_self | refine List.mem_cons_of_mem _ ?_ | assumption | exact mem_mid' | exact mem_mid (by assumption))) (by with_reducible rfl) (by (with_reducible repeat first | exact List.mem_cons_self | refine List.mem_cons_of_mem _ ?_ | assumption | exact mem_mid' | exact mem_mid (by assumption))) ?_
            refine op_div (by (first | decide | exact Nat.le_trans (by assumption) (by decide) | lia | omega)) (by (first | decide | exact Nat.le_trans (by assumption) (by decide) | lia | omega)) ?_
            refine SE_int ?_
            with_reducible refine op_add ?_
            refine SE_Name ?_ (by decide +kernel)
            refine SN_loc rfl rfl (by (with_reducible repeat first | exact List.mem_cons_self | refine List.mem_cons_of_mem _ ?_ | assumption | exact mem_mid' | exact mem_mid (by assumption))) (by with_reducible rfl) (by (with_reducible repeat first | exact List.mem_cons_self | refine List.mem_cons_of_mem _ ?_ | assumption | exact mem_mid' | exact mem_mid (by assumption))) ?_
            refine op_mulR (bits_small (by (first | decide | exact Nat.le_trans (by assumption) (by decide) | lia | omega))) ?_
            refine SS_loc rfl rfl (by (with_reducible repeat first | exact List.mem_cons_self | refine List.mem_cons_of_mem _ ?_ | assumption | exact mem_mid' | exact mem_mid (by assumption))) (by with_reducible rfl) (by (with_reducible repeat first | exact Put.here | exact Put.new | apply Put.there)) (by ((first | (dsimp only [List.map_cons, List.map_nil]; decide +kernel) | (simp only [List.map_cons, List.map_nil]; decide +kernel)))) (by (with_reducible repeat first | exact Upd.here | exact Upd.mid | apply Upd.there)) ?_
            refine SXs_nil ?_
            refine SXs_nil ?_
            refine SXs_nil ?_
            have ht : ((col : Int) / (n : Int) + 1) * (n : Int) = ((tabTo n col : Nat) : Int) := by
              unfold tabTo; rw [if_pos (by (first | decide | exact Nat.le_trans (by assumption) (by decide) | lia | omega)), Int.natCast_mul]; rfl
            have := tabTo_le n col hn
            rw [ht]
            exact hQT _ _ ⟨_, by (with_reducible repeat first | exact Wk.refl | exact Wk.nil | refine Wk.keep ObW.refl ?_ | refine Wk.keep (ObW.ns (by (with_reducible repeat first | exact List.Sublist.refl _ | exact List.nil_sublist _ | apply List.Sublist.cons_cons | apply List.Sublist.cons))) ?_ | apply Wk.drop), post, done, tabTo n col, rfl, rfl, inv1, inv2, by (first | decide | exact Nat.le_trans (by assumption) (by decide) | lia | omega), by (first | decide | exact Nat.le_trans (by assumption) (by decide) | lia | omega)⟩
          · refine SXs_nil ?_
            refine SXs_nil ?_
            refine SXs_nil ?_
            have ht : tabTo n col = col := by unfold tabTo; rw [if_neg (by (first | decide | exact Nat.le_trans (by assumption) (by decide) | lia | omega))]
            rw [ht] at inv1 inv2
            exact hQT _ _ ⟨_, by (with_reducible repeat first | exact Wk.refl | exact Wk.nil | refine Wk.keep ObW.refl ?_ | refine Wk.keep (ObW.ns (by (with_reducible repeat first | exact List.Sublist.refl _ | exact List.nil_sublist _ | apply List.Sublist.cons_cons | apply List.Sublist.cons))) ?_ | apply Wk.drop), post, done, col, rfl, rfl, inv1, inv2, by (first | decide | exact Nat.le_trans (by assumption) (by decide) | lia | omega), by (first | decide | exact Nat.le_trans (by assumption) (by decide) | lia | omega)⟩
    · rintro o ⟨post, done, col, hr, rfl, inv1, inv2, hb1, hb2⟩
      cases post with
      | cons _ _ => cases hr
      | nil =>
        rw [fillL, List.append_nil] at inv1
        rw [colL] at inv2
        rw [← inv1, ← inv2]
        exact ⟨rfl, .refl⟩
  rintro fl o ⟨rfl, wk⟩
  refine SG.wk wk ?_
  clear wk
  have hcb := colL_le n hn d 0
  have hfl := fillL_len n d 0
  have hfb := fillL_lt n hn d 0
  refine SG_frz (D := F) (ds := (fillL n d 0).map fillD) (by (with_reducible repeat first | exact Take.here | apply Take.there)) (AllDat.map _) (by (with_reducible repeat first | exact NF.nil | apply NF.cons VF.at_ | apply NF.cons VF.same | apply OF.ns | apply OF.cell VF.at_ | apply OF.cell VF.same | apply OF.list | exact LF.nil | apply LF.cons VF.at_ | apply LF.cons VF.same | exact LF.refl | apply OF.same | exact OF.refl)) ?_
  have hsc : res = if 0 < colL n d 0 ∧ colL n d 0 % w = 0 then ((fillL n d 0).foldl (putM w) (List.replicate (colL n d 0 / w + 1) (List.replicate w 9))).dropLast else (fillL n d 0).foldl (putM w) (List.replicate (colL n d 0 / w + 1) (List.replicate w 9)) := hres.symm
  clear hres
  generalize fillL n d 0 = fl at hfl hfb hsc ⊢
  generalize colL n d 0 = col at hcb hfb hsc ⊢
  refine SXs_cons (SG.mono (Q := fun f o => f = Fl.next ∧ ∃ (R : Addr) (rs : RowsA), rs.map (·.2) = List.replicate (col / w + 1) (List.replicate w 9) ∧ Wk o ((R, Ob.list (refsR rs)) :: (ownR rs ++ ((L, Ob.ns [(Str.ofString "line", .str (S d)), (Str.ofString "stops", .int n), (Str.ofString "filled", .lst (fl.map fillD)), (Str.ofString "column", .int col), (Str.ofString "rows", .ref R)]) :: (L + 1, Ob.cell (some (.int w))) :: own))) ) ?_ ?_)
  · refine SG.opq fun QB hQB => ?_
    refine SX_AssignCompX rfl (by decide +kernel) rfl (by decide +kernel) rfl ?_
    refine SE_Call ?_
    refine SE_Name ?_ (by decide +kernel)
    refine SN_builtin rfl rfl rfl rfl (nsIn_of (by assumption) rfl) rfl (by decide +kernel) ?_
    with_reducible refine ⟨_, rfl, ?_⟩
    refine SEs_cons ?_
    refine SE_BinOp ?_
    refine SE_BinOp ?_
    refine SE_Name ?_ (by decide +kernel)
    refine SN_loc rfl rfl (by (with_reducible repeat first | exact List.mem_cons_self | refine List.mem_cons_of_mem _ ?_ | assumption | exact mem_mid' | exact mem_mid (by assumption))) (by with_reducible rfl) (by (with_reducible repeat first | exact List.mem_cons_self | refine List.mem_cons_of_mem _ ?_ | assumption | exact mem_mid' | exact mem_mid (by assumption))) ?_
    refine SE_Name ?_ (by decide +kernel)
    refine SN_cell rfl rfl rfl (by (with_reducible repeat first | exact List.mem_cons_self | refine List.mem_cons_of_mem _ ?_ | assumption | exact mem_mid' | exact mem_mid (by assumption))) ?_
    refine op_div (by (first | decide | exact Nat.le_trans (by assumption) (by decide) | lia | omega)) (by (first | decide | exact Nat.le_trans (by assumption) (by decide) | lia | omega)) ?_
    refine SE_int ?_
    with_reducible refine op_add ?_
    refine SEs_nil ?_
    with_reducible refine ⟨kp_type, ?_⟩
    refine call_range1 ?_
    have hcast : (col : Int) / (w : Int) + 1 = ((col / w + 1 : Nat) : Int) := by rw [Int.natCast_add, Int.natCast_ediv]; rfl
    rw [hcast]
    have hdw : col / w + 1 ≤ col + 1 := by have := Nat.div_le_self col w; (first | decide | exact Nat.le_trans (by assumption) (by decide) | lia | omega)
    clear hcast
    generalize hM : col / w + 1 = M at hdw ⊢
    have hrs := range_up M
    refine it_range (n := M) (small_of (by (first | decide | exact Nat.le_trans (by assumption) (by decide) | lia | omega)) (by (first | decide | exact Nat.le_trans (by assumption) (by decide) | lia | omega)) (by (first | decide | exact Nat.le_trans (by assumption) (by decide) | lia | omega)) (by (first | decide | exact Nat.le_trans (by assumption) (by decide) | lia | omega)) hrs (by (first | decide | exact Nat.le_trans (by assumption) (by decide) | lia | omega))) hrs fun it => ⟨it, _, _, rfl, rfl, self_it, fun C D => ?_⟩
    have hlen : ((List.range M).map fun j : Nat => V.int (0 + (j : Int) * 1)).length + ([] : RowsA).length = M := by rw [List.length_map, List.length_range]; rfl
    have hall : ([] : RowsA).map (·.2) = List.replicate ([] : RowsA).length (List.replicate w 9) := rfl
    generalize ((List.range M).map fun j : Nat => V.int (0 + (j : Int) * 1)) = vl at hlen ⊢
    rw [show (D, Ob.list []) :: (L, Ob.ns [(Str.ofString "line", .str (S d)), (Str.ofString "stops", .int n), (Str.ofString "filled", .lst (fl.map fillD)), (Str.ofString "column", .int col)]) :: (L + 1, Ob.cell (some (.int w))) :: own = (D, Ob.list (refsR [])) :: (ownR [] ++ ((L, Ob.ns [(Str.ofString "line", .str (S d)), (Str.ofString "stops", .int n), (Str.ofString "filled", .lst (fl.map fillD)), (Str.ofString "column", .int col)]) :: (L + 1, Ob.cell (some (.int w))) :: own)) from rfl]
    generalize ([] : RowsA) = rs at hlen hall ⊢
    induction vl generalizing rs with
    | nil =>
      refine CLX_stop (stops_it hh') ?_
      refine ⟨_, _, _, .refl, .refl _, ?_⟩
      refine SS_loc (L := L) rfl rfl (by (with_reducible repeat first | exact List.mem_cons_self | refine List.mem_cons_of_mem _ ?_ | assumption | exact mem_mid' | exact mem_mid (by assumption))) rfl (by (with_reducible repeat first | exact Put.here | exact Put.new | apply Put.there)) (by ((first | (dsimp only [List.map_cons, List.map_nil]; decide +kernel) | (simp only [List.map_cons, List.map_nil]; decide +kernel)))) (by (with_reducible repeat first | exact Upd.here | exact Upd.mid | apply Upd.there)) ?_
      simp only [List.length_nil, Nat.zero_add] at hlen
      exact ⟨_, .refl, hQB _ _ ⟨rfl, D, rs, by rw [hall, hlen, ← hM], .refl⟩⟩
    | cons v vl ih =>
      simp only [List.length_cons] at hlen
      refine CLX_step (steps_it) ?_
      refine SA_Name ?_
      refine SS_loc rfl rfl (by (with_reducible repeat first | exact List.mem_cons_self | refine List.mem_cons_of_mem _ ?_ | assumption | exact mem_mid' | exact mem_mid (by assumption))) (by with_reducible rfl) (by (with_reducible repeat first | exact Put.here | exact Put.new | apply Put.there)) (by ((first | (dsimp only [List.map_cons, List.map_nil]; decide +kernel) | (simp only [List.map_cons, List.map_nil]; decide +kernel)))) (by (with_reducible repeat first | exact Upd.here | exact Upd.mid | apply Upd.there)) ?_
      refine SE_BinOp ?_
      refine SE_ListF ?_
      refine SEs_cons ?_
      refine SE_strL (by (first | exact l07_0 | exact l07_1 | exact l07_2 | exact l07_3 | exact l07_4 | exact l07_5 | exact l07_6 | exact l07_7 | exact l07_8 | exact l07_9 | exact l07_10 | exact l07_11 | exact l07_12 | exact l07_13 | exact l07_14 | exact l07_15 | exact l07_16 | exact l07_17 | exact l07_18 | exact l07_19 | exact l07_20 | exact l07_21 | exact l07_22 | exact l07_23 | exact l07_24 | exact l07_25 | exact l07_26 | exact l07_27 | exact l07_28 | exact l07_29 | exact l07_30 | exact l07_31 | exact l07_32 | exact l07_33 | exact l07_34 | exact l07_35 | exact l07_36)) ?_
      refine SEs_nil ?_
      with_reducible refine ⟨_, by with_reducible ((first | exact AllDat.map _ | repeat first | exact AllDat.nil | with_reducible apply AllDat.cons)), by ((rw [sizeLine_eq]; simp)), ?_⟩
      refine SE_Name ?_ (by decide +kernel)
      refine SN_cell rfl rfl rfl (List.mem_cons_of_mem _ (List.mem_cons_of_mem _ (List.mem_cons_of_mem _ (List.mem_append_right _ (List.mem_cons_of_mem _ List.mem_cons_self))))) ?_
      refine op_mulLO (a := [PyData.str (S [9])]) (x := (w : Int)) (by (first | decide | exact Nat.le_trans (by assumption) (by decide) | lia | omega)) (by (first | decide | exact Nat.le_trans (by assumption) (by decide) | lia | omega)) (by show 1 * ((w : Int)).toNat ≤ 2 ^ 24; (first | decide | exact Nat.le_trans (by assumption) (by decide) | lia | omega)) fun D' => ?_
      have hrep : (List.replicate ((w : Int)).toNat [PyData.str (S [9])]).flatten = (List.replicate w 9).map fun c => strD [c] := by
        rw [Int.toNat_natCast, List.flatten_replicate_singleton, List.map_replicate]
      rw [hrep]
      refine ⟨(D', Ob.list (((List.replicate w 9).map fun c => strD [c]).map V.dat)) :: (it, Ob.it vl) :: (C, Ob.ns []) :: (D, Ob.list (refsR rs)) :: (ownR rs ++ ((L, Ob.ns [(Str.ofString "line", .str (S d)), (Str.ofString "stops", .int n), (Str.ofString "filled", .lst (fl.map fillD)), (Str.ofString "column", .int col)]) :: (L + 1, Ob.cell (some (.int w))) :: own)), _, _, _, by (with_reducible repeat first | exact Wk.refl | exact Wk.nil | refine Wk.keep ObW.refl ?_ | refine Wk.keep (ObW.ns (by (with_reducible repeat first | exact List.Sublist.refl _ | exact List.nil_sublist _ | apply List.Sublist.cons_cons | apply List.Sublist.cons))) ?_ | apply Wk.drop), by (with_reducible repeat first | exact Upd.here | exact Upd.mid | apply Upd.there), by rw [sizeLine_eq]; simp only [List.length_map]; (first | decide | exact Nat.le_trans (by assumption) (by decide) | lia | omega), ?_, ih (rs ++ [(D', List.replicate w 9)]) (by simp only [List.length_append, List.length_cons, List.length_nil]; (first | decide | exact Nat.le_trans (by assumption) (by decide) | lia | omega)) ?_⟩
      · rw [show ownR (rs ++ [(D', List.replicate w 9)]) = ownR rs ++ [(D', Ob.list (((List.replicate w 9).map fun c => strD [c]).map V.dat))] from List.map_append, show refsR (rs ++ [(D', List.replicate w 9)]) = refsR rs ++ [V.ref D'] from List.map_append, List.append_assoc]
        exact (List.perm_middle (l₁ := (it, Ob.it vl) :: (C, Ob.ns []) :: (D, Ob.list (refsR rs ++ [V.ref D'])) :: ownR rs)).symm
      · rw [List.map_append, hall, List.length_append, List.length_cons, List.length_nil, Nat.zero_add, ← List.replicate_append_replicate]; rfl
  rintro f o ⟨rfl, R, rs, hrs, wk⟩
  refine SG.wk wk ?_
  clear wk
  have hw' : ∀ r ∈ rs.map (·.2), r.length = w := fun r hr => by rw [hrs] at hr; rw [(List.mem_replicate.mp hr).2, List.length_replicate]
  have hlen : rs.length = col / w + 1 := by have := congrArg List.length hrs; rwa [List.length_map, List.length_replicate] at this
  rw [← hrs] at hsc
  clear hrs
  refine SXs_cons (SG.mono (Q := fun f o => f = Fl.next ∧ ∃ (rs' : RowsA), rs'.map (·.2) = fl.foldl (putM w) (rs.map (·.2)) ∧ Wk o ((R, Ob.list (refsR rs')) :: (ownR rs' ++ ((L, Ob.ns [(Str.ofString "line", .str (S d)), (Str.ofString "stops", .int n), (Str.ofString "filled", .lst (fl.map fillD)), (Str.ofString "column", .int col), (Str.ofString "rows", .ref R)]) :: (L + 1, Ob.cell (some (.int w))) :: own)))) (SX_For hh' ?_) ?_)
  · refine SE_Name ?_ (by decide +kernel)
    refine SN_loc rfl rfl (by (with_reducible repeat first | exact List.mem_cons_self | refine List.mem_cons_of_mem _ ?_ | assumption | exact mem_mid' | exact mem_mid (by assumption))) (by with_reducible rfl) (by (with_reducible repeat first | exact List.mem_cons_self | refine List.mem_cons_of_mem _ ?_ | assumption | exact mem_mid' | exact mem_mid (by assumption))) ?_
    refine it_list fun it => ⟨it, _, _, rfl, rfl, fun l o => ∃ (post : List (Nat × Nat)) (rs' : RowsA), l = (post.map fillD).map V.dat ∧
      o = (R, Ob.list (refsR rs')) :: (ownR rs' ++ ((L, Ob.ns [(Str.ofString "line", .str (S d)), (Str.ofString "stops", .int n), (Str.ofString "filled", .lst (fl.map fillD)), (Str.ofString "column", .int col), (Str.ofString "rows", .ref R)]) :: (L + 1, Ob.cell (some (.int w))) :: own)) ∧
      post.foldl (putM w) (rs'.map (·.2)) = fl.foldl (putM w) (rs.map (·.2)) ∧ (∀ p ∈ post, p.1 < col) ∧ (∀ r ∈ rs'.map (·.2), r.length = w) ∧ rs'.length = col / w + 1, ?_, ?_, ?_⟩
    · exact ⟨fl, rs, rfl, rfl, rfl, fun p hp => (hfb p hp).2, hw', hlen⟩
    · rintro v r o ⟨post, rs', hl, rfl, inv, hb, hw2, hlen2⟩
      cases post with
      | nil => cases hl
      | cons p post =>
        injection hl with e1 e2
        subst e1 e2
        obtain ⟨p1, p2⟩ := p
        have hp1 : p1 < col := hb _ List.mem_cons_self
        obtain ⟨q, hq⟩ : ∃ q, q = p1 / w := ⟨_, rfl⟩
        obtain ⟨m, hm⟩ : ∃ m, m = p1 % w := ⟨_, rfl⟩
        have hdiv : q < rs'.length := by
          rw [hlen2, hq]; have := Nat.div_le_div_right (c := w) (Nat.le_of_lt hp1); (first | decide | exact Nat.le_trans (by assumption) (by decide) | lia | omega)
        have hcast : (p1 : Int) / (w : Int) = (q : Int) := by rw [hq]; exact (Int.natCast_ediv _ _).symm
        have hcast2 : (p1 : Int) % (w : Int) = (m : Int) := by rw [hm]; exact (Int.natCast_emod _ _).symm
        have hmw : m < w := by rw [hm]; exact Nat.mod_lt p1 hw
        obtain ⟨⟨a, row⟩, hrow⟩ : ∃ x, rs'[q]? = some x := ⟨_, List.getElem?_eq_getElem hdiv⟩
        have hrl : row.length = w := hw2 row (List.mem_map.mpr ⟨(a, row), List.mem_of_getElem? hrow, rfl⟩)
        have hlz : rs'.length ≤ 2000 := by rw [hlen2]; have := Nat.div_le_self col w; (first | decide | exact Nat.le_trans (by assumption) (by decide) | lia | omega)
        have hrl2 : ((row.map fun c => strD [c]).map V.dat).length = w := by rw [List.length_map, List.length_map, hrl]
        refine SA_Tuple (by assumption) rfl ?_
        refine SAs_cons ?_
        refine SA_Name ?_
        refine SS_loc rfl rfl (by (with_reducible repeat first | exact List.mem_cons_self | refine List.mem_cons_of_mem _ ?_ | assumption | exact mem_mid' | exact mem_mid (by assumption))) (by with_reducible rfl) (by (with_reducible repeat first | exact Put.here | exact Put.new | apply Put.there)) (by ((first | (dsimp only [List.map_cons, List.map_nil]; decide +kernel) | (simp only [List.map_cons, List.map_nil]; decide +kernel)))) (by (with_reducible repeat first | exact Upd.here | exact Upd.mid | apply Upd.there)) ?_
        refine SAs_cons ?_
        refine SA_Name ?_
        refine SS_loc rfl rfl (by (with_reducible repeat first | exact List.mem_cons_self | refine List.mem_cons_of_mem _ ?_ | assumption | exact mem_mid' | exact mem_mid (by assumption))) (by with_reducible rfl) (by (with_reducible repeat first | exact Put.here | exact Put.new | apply Put.there)) (by ((first | (dsimp only [List.map_cons, List.map_nil]; decide +kernel) | (simp only [List.map_cons, List.map_nil]; decide +kernel)))) (by (with_reducible repeat first | exact Upd.here | exact Upd.mid | apply Upd.there)) ?_
        refine SAs_nil ?_
        refine SG.opq fun QT hQT => ?_
        refine SXs_cons ?_
        refine SX_AssignSub ?_
        refine SE_Name ?_ (by decide +kernel)
        refine SN_loc rfl rfl (by (with_reducible repeat first | exact List.mem_cons_self | refine List.mem_cons_of_mem _ ?_ | assumption | exact mem_mid' | exact mem_mid (by assumption))) (by with_reducible rfl) (by (with_reducible repeat first | exact List.mem_cons_self | refine List.mem_cons_of_mem _ ?_ | assumption | exact mem_mid' | exact mem_mid (by assumption))) ?_
        refine SE_Subscript ?_
        refine SE_Name ?_ (by decide +kernel)
        refine SN_loc rfl rfl (by (with_reducible repeat first | exact List.mem_cons_self | refine List.mem_cons_of_mem _ ?_ | assumption | exact mem_mid' | exact mem_mid (by assumption))) (by with_reducible rfl) (by (with_reducible repeat first | exact List.mem_cons_self | refine List.mem_cons_of_mem _ ?_ | assumption | exact mem_mid' | exact mem_mid (by assumption))) ?_
        refine SE_BinOp ?_
        refine SE_Name ?_ (by decide +kernel)
        refine SN_loc rfl rfl (by (with_reducible repeat first | exact List.mem_cons_self | refine List.mem_cons_of_mem _ ?_ | assumption | exact mem_mid' | exact mem_mid (by assumption))) (by with_reducible rfl) (by (with_reducible repeat first | exact List.mem_cons_self | refine List.mem_cons_of_mem _ ?_ | assumption | exact mem_mid' | exact mem_mid (by assumption))) ?_
        refine SE_Name ?_ (by decide +kernel)
        refine SN_cell rfl rfl rfl (List.mem_cons_of_mem _ (List.mem_cons_of_mem _ (List.mem_append_right _ (List.mem_cons_of_mem _ List.mem_cons_self)))) ?_
        refine op_div (by (first | decide | exact Nat.le_trans (by assumption) (by decide) | lia | omega)) (by (first | decide | exact Nat.le_trans (by assumption) (by decide) | lia | omega)) ?_
        rw [hcast]
        refine sub_own (d := .ref a) (by (with_reducible repeat first | exact List.mem_cons_self | refine List.mem_cons_of_mem _ ?_ | assumption | exact mem_mid' | exact mem_mid (by assumption))) (by rw [List.length_map]; (first | decide | exact Nat.le_trans (by assumption) (by decide) | lia | omega)) (by rw [List.length_map]; (first | decide | exact Nat.le_trans (by assumption) (by decide) | lia | omega)) (by rw [sizeLine_eq, List.length_map]; (first | decide | exact Nat.le_trans (by assumption) (by decide) | lia | omega)) ?_ ?_
        · unfold place
          rw [if_neg (by (first | decide | exact Nat.le_trans (by assumption) (by decide) | lia | omega)), Int.toNat_natCast, List.getElem?_map, hrow]; rfl
        refine SE_BinOp ?_
        refine SE_Name ?_ (by decide +kernel)
        refine SN_loc rfl rfl (by (with_reducible repeat first | exact List.mem_cons_self | refine List.mem_cons_of_mem _ ?_ | assumption | exact mem_mid' | exact mem_mid (by assumption))) (by with_reducible rfl) (by (with_reducible repeat first | exact List.mem_cons_self | refine List.mem_cons_of_mem _ ?_ | assumption | exact mem_mid' | exact mem_mid (by assumption))) ?_
        refine SE_Name ?_ (by decide +kernel)
        refine SN_cell rfl rfl rfl (List.mem_cons_of_mem _ (List.mem_cons_of_mem _ (List.mem_append_right _ (List.mem_cons_of_mem _ List.mem_cons_self)))) ?_
        refine op_mod (by (first | decide | exact Nat.le_trans (by assumption) (by decide) | lia | omega)) ?_
        rw [hcast2]
        refine ⟨a, rfl, set_own (k := (m : Int)) (x := V.str (S [p2])) (l := (row.map fun c => strD [c]).map V.dat) (by (first | decide | exact Nat.le_trans (by assumption) (by decide) | lia | omega)) (by rw [hrl2]; (first | decide | exact Nat.le_trans (by assumption) (by decide) | lia | omega)) (by rw [sizeLine_eq, hrl2]; (first | decide | exact Nat.le_trans (by assumption) (by decide) | lia | omega)) (.there (.there (ownR_upd hrow))) ?_⟩
        refine SXs_nil ?_
        refine hQT _ _ ⟨_, .keep .refl (.keep .refl (Wk.after (b' := (L, Ob.ns [(Str.ofString "line", .str (S d)), (Str.ofString "stops", .int n), (Str.ofString "filled", .lst (fl.map fillD)), (Str.ofString "column", .int col), (Str.ofString "rows", .ref R)]) :: (L + 1, Ob.cell (some (.int w))) :: own) (by (with_reducible repeat first | exact Wk.refl | exact Wk.nil | refine Wk.keep ObW.refl ?_ | refine Wk.keep (ObW.ns (by (with_reducible repeat first | exact List.Sublist.refl _ | exact List.nil_sublist _ | apply List.Sublist.cons_cons | apply List.Sublist.cons))) ?_ | apply Wk.drop)))), post, putR q m p2 rs', rfl, by rw [putR_refs]; rfl, ?_, fun p hp => hb p (List.mem_cons_of_mem _ hp), ?_, ?_⟩
        · rw [putR_snd, ← inv, hq, hm]; rfl
        · intro r hr
          rw [putR_snd] at hr
          obtain ⟨i, hi, e⟩ := List.getElem_of_mem hr
          rw [List.getElem_modify] at e
          rw [← e]
          rw [List.length_modify] at hi
          split
          · rw [List.length_set]; exact hw2 _ (List.getElem_mem hi)
          · exact hw2 _ (List.getElem_mem hi)
        · unfold putR; rw [List.length_modify]; exact hlen2
    · rintro o ⟨post, rs', hl, rfl, inv, hb, hw2, hlen2⟩
      cases post with
      | cons _ _ => cases hl
      | nil => exact ⟨rfl, rs', inv, .refl⟩
  rintro f o ⟨rfl, rs', hrs', wk⟩
  refine SG.wk wk ?_
  clear wk
  have hlen' : rs'.length = col / w + 1 := by
    have h1 : ∀ (fl : List (Nat × Nat)) (m : List (List Nat)), (fl.foldl (putM w) m).length = m.length := by
      intro fl
      induction fl with
      | nil => intro m; rfl
      | cons p fl ih => intro m; rw [List.foldl_cons, ih]; unfold putM; rw [List.length_modify]
    have := congrArg List.length hrs'
    rw [List.length_map, h1, List.length_map] at this
    (first | decide | exact Nat.le_trans (by assumption) (by decide) | lia | omega)
  rw [← hrs'] at hsc
  clear hrs'
  have hcm : (col : Int) % (w : Int) = ((col % w : Nat) : Int) := (Int.natCast_emod _ _).symm
  have hdc2 : col / w ≤ col := Nat.div_le_self _ _
  refine SXs_cons (SG.mono (Q := fun f o => f = Fl.next ∧ ∃ (rs : RowsA), rs.map (·.2) = (if 0 < col ∧ col % w = 0 then (rs'.map (·.2)).dropLast else rs'.map (·.2)) ∧ Wk o ((R, Ob.list (refsR rs)) :: (ownR rs ++ ((L, Ob.ns [(Str.ofString "rows", .ref R)]) :: own)))) ?_ ?_)
  · refine SG.opq fun QB hQB => ?_
    refine SX_If (ST_pure (c := decide (0 < col ∧ col % w = 0)) ?_ ?_)
    · refine SG_and ?_
      refine ST_Compare ?_
      refine SE_Name ?_ (by decide +kernel)
      refine SN_loc rfl rfl (by (with_reducible repeat first | exact List.mem_cons_self | refine List.mem_cons_of_mem _ ?_ | assumption | exact mem_mid' | exact mem_mid (by assumption))) (by with_reducible rfl) (by (with_reducible repeat first | exact List.mem_cons_self | refine List.mem_cons_of_mem _ ?_ | assumption | exact mem_mid' | exact mem_mid (by assumption))) ?_
      refine SE_int ?_
      with_reducible refine cmp_gt ?_
      with_reducible refine tr_bool ?_
      refine ite_dec (fun h1 => ?_) (fun h1 => ?_)
      · refine SG_and ?_
        refine ST_Compare ?_
        refine SE_BinOp ?_
        refine SE_Name ?_ (by decide +kernel)
        refine SN_loc rfl rfl (by (with_reducible repeat first | exact List.mem_cons_self | refine List.mem_cons_of_mem _ ?_ | assumption | exact mem_mid' | exact mem_mid (by assumption))) (by with_reducible rfl) (by (with_reducible repeat first | exact List.mem_cons_self | refine List.mem_cons_of_mem _ ?_ | assumption | exact mem_mid' | exact mem_mid (by assumption))) ?_
        refine SE_Name ?_ (by decide +kernel)
        refine SN_cell rfl rfl rfl (List.mem_cons_of_mem _ (List.mem_append_right _ (List.mem_cons_of_mem _ List.mem_cons_self))) ?_
        refine op_mod (by (first | decide | exact Nat.le_trans (by assumption) (by decide) | lia | omega)) ?_
        rw [hcm]
        refine SE_int ?_
        with_reducible refine cmp_eqI ?_
        with_reducible refine tr_bool ?_
        refine ite_dec (fun h2 => ?_) (fun h2 => ?_)
        · refine SG_and_nil ?_
          exact ⟨(decide_eq_true ⟨by (first | decide | exact Nat.le_trans (by assumption) (by decide) | lia | omega), by (first | decide | exact Nat.le_trans (by assumption) (by decide) | lia | omega)⟩).symm, rfl⟩
        · skip
          exact ⟨(decide_eq_false fun h => h2 (by (first | decide | exact Nat.le_trans (by assumption) (by decide) | lia | omega))).symm, rfl⟩
      · skip
        exact ⟨(decide_eq_false fun h => h1 (by (first | decide | exact Nat.le_trans (by assumption) (by decide) | lia | omega))).symm, rfl⟩
    · refine ite_dec (fun h1 => ?_) (fun h1 => ?_)
      · obtain ⟨ri, ⟨a, row⟩, rfl⟩ : ∃ ri x, rs' = ri ++ [x] := ⟨rs'.dropLast, rs'.getLast (by intro h; rw [h] at hlen'; simp at hlen'), (List.dropLast_concat_getLast _).symm⟩
        rw [List.length_append, List.length_cons, List.length_nil] at hlen'
        rw [show refsR (ri ++ [(a, row)]) = refsR ri ++ [V.ref a] from List.map_append]
        refine SXs_cons ?_
        refine SX_Expr ?_
        refine SE_Meth ?_
        refine SE_Name ?_ (by decide +kernel)
        refine SN_loc rfl rfl (by (with_reducible repeat first | exact List.mem_cons_self | refine List.mem_cons_of_mem _ ?_ | assumption | exact mem_mid' | exact mem_mid (by assumption))) (by with_reducible rfl) (by (with_reducible repeat first | exact List.mem_cons_self | refine List.mem_cons_of_mem _ ?_ | assumption | exact mem_mid' | exact mem_mid (by assumption))) ?_
        refine mth_pop (by (with_reducible repeat first | exact List.mem_cons_self | refine List.mem_cons_of_mem _ ?_ | assumption | exact mem_mid' | exact mem_mid (by assumption))) ?_
        refine SEs_nil ?_
        with_reducible refine ⟨kp_builtin, ?_⟩
        refine call_popL (x := V.ref a) (l := refsR ri) Upd.here (by rw [sizeLine_eq, List.length_map]; (first | decide | exact Nat.le_trans (by assumption) (by decide) | lia | omega)) ?_
        refine SXs_nil ?_
        rw [if_pos h1] at hQB
        refine hQB _ _ ⟨rfl, ri, by rw [List.map_append, List.map_cons, List.map_nil, List.dropLast_concat], .keep .refl ?_⟩
        rw [show ownR (ri ++ [(a, row)]) = ownR ri ++ [(a, Ob.list ((row.map fun c => strD [c]).map V.dat))] from List.map_append, List.append_assoc]
        exact Wk.after (.drop (.keep (.ns (by (with_reducible repeat first | exact List.Sublist.refl _ | exact List.nil_sublist _ | apply List.Sublist.cons_cons | apply List.Sublist.cons))) (.drop .refl)))
      · refine SXs_nil ?_
        rw [if_neg h1] at hQB
        exact hQB _ _ ⟨rfl, rs', rfl, .keep .refl (Wk.after (.keep (.ns (by (with_reducible repeat first | exact List.Sublist.refl _ | exact List.nil_sublist _ | apply List.Sublist.cons_cons | apply List.Sublist.cons))) (.drop .refl)))⟩
  rintro f o ⟨rfl, rs, hrs, wk⟩
  refine SG.wk wk ?_
  clear wk
  refine SG_frzRows ?_
  refine SG_frz (D := R) (ds := rowsV rs) (by (with_reducible repeat first | exact Take.here | apply Take.there)) (AllDat.map _) (by (with_reducible repeat first | exact NF.nil | apply NF.cons VF.at_ | apply NF.cons VF.same | apply OF.ns | apply OF.cell VF.at_ | apply OF.cell VF.same | apply OF.list | exact LF.nil | apply LF.cons VF.at_ | apply LF.cons VF.same | exact LF.refl | apply OF.same | exact OF.refl)) ?_
  refine SXs_cons ?_
  refine SX_Return ?_
  refine SE_Name ?_ (by decide +kernel)
  refine SN_loc rfl rfl (by (with_reducible repeat first | exact List.mem_cons_self | refine List.mem_cons_of_mem _ ?_ | assumption | exact mem_mid' | exact mem_mid (by assumption))) (by with_reducible rfl) (by (with_reducible repeat first | exact List.mem_cons_self | refine List.mem_cons_of_mem _ ?_ | assumption | exact mem_mid' | exact mem_mid (by assumption))) ?_
  refine hRR _ _ ⟨_, .drop .refl, ?_, rfl⟩
  rw [hsc, ← hrs, List.map_map]; rfl
/-! ### what a cell shows -/
theorem cut_one (d : PyData) (ds : List PyData) : cutL (d :: ds) (some 1) none = ds := by
  unfold cutL clipAt
  simp only [Option.elim_none, Option.elim_some, List.length_cons]
  have : (max 0 (min (if (1 : Int) < 0 then (1 : Int) + ((ds.length + 1 : Nat) : Int) else (1 : Int)) ((ds.length + 1 : Nat) : Int))).toNat = 1 := by rw [if_neg (by (first | decide | exact Nat.le_trans (by assumption) (by decide) | lia | omega))]; (first | decide | exact Nat.le_trans (by assumption) (by decide) | lia | omega)
  rw [this, List.drop_succ_cons, List.drop_zero]
  exact List.take_of_length_le (by (first | decide | exact Nat.le_trans (by assumption) (by decide) | lia | omega))
theorem call_indexO {D : Addr} {l : List Nat} {ls : List (List Nat)} {Q : V → Own → Prop} (hm : (D, Ob.list ((ls.map fun l => PyData.str (S l)).map V.dat)) ∈ own) (hl : l ∈ ls) (hz : ls.length ≤ 100000) (h : Q (.int (ls.idxOf l : Nat)) own) : SL W A RV (fun vs => call (.builtin "list.index") vs) [.ref D, .str (S l)] own Q := SL2 fun fz s v u H ht r1 r2 => by
  obtain ⟨t, rfl⟩ := r2.str_inv
  cases r1.val_inv
  obtain ⟨o, ho, vs, n, rfl, rs⟩ := H.get hm
  have rs' : RVs fz ((ls.map fun l => PyData.str (S l)).map V.dat) vs.toArray.toList := by simpa using rs
  have hi := strs_of rs'
  have hlen : vs.toArray.toList.length = ls.length := by have := hi.len_eq; rwa [List.length_map] at this
  have hlen2 : vs.toArray.size = ls.length := by rw [← hlen, Array.length_toList]
  have hj : ls.idxOf l < ls.length := List.idxOf_lt_length_iff.mpr hl
  refine call_meets PySem.F.slot_list_index ⟨_, ho, rfl⟩ PySem.F.entry_list_index (PySem.F.args_list_index_2 _ _)
    (PySem.SeqAt.list_indexAt D vs.toArray n none #[] (.str (S l) t) (isStrOf (S l)) (ls.idxOf l) (by (first | decide | exact Nat.le_trans (by assumption) (by decide) | lia | omega)) (by (first | decide | exact Nat.le_trans (by assumption) (by decide) | lia | omega)) ?_ ?_) ⟨ho, fun y hy => (eq_isStrOf (S l) t hi y (by simpa using hy)).at _ _, at_tok H _ (.dat (.int _ _)) h⟩
  · have := isStrOf_at hi l (ls.idxOf l) (by (first | decide | exact Nat.le_trans (by assumption) (by decide) | lia | omega)) hj
    rw [List.getElem_idxOf hj] at this
    simpa using this
  · intro j hjs hlt
    have := isStrOf_at hi l j (by (first | decide | exact Nat.le_trans (by assumption) (by decide) | lia | omega)) (by (first | decide | exact Nat.le_trans (by assumption) (by decide) | lia | omega))
    have hne : ¬ ls[j] = l := fun q => by
      have h0 := List.not_of_lt_findIdx (p := fun x => x == l) (xs := ls) (i := j) hlt
      simp [q] at h0
    rw [decide_eq_false hne] at this
    simpa using this
noncomputable abbrev isSp (c : Nat) : Prop := c = 38 ∨ c = 60 ∨ c = 62 ∨ c = 32
noncomputable def nm0 (c : Nat) : List Nat := if c = 38 then [97, 109, 112] else if c = 60 then [108, 116] else if c = 62 then [103, 116] else [110, 98, 115, 112]
noncomputable def nm (c : Nat) : List Nat := nm0 c ++ [59]
noncomputable def cutQ : List Nat → List Nat × List (Nat × List Nat)
  | [] => ([], [])
  | c :: q => if isSp c then ([], (c, (cutQ q).1) :: (cutQ q).2) else (c :: (cutQ q).1, (cutQ q).2)
theorem repl_app (c : Nat) (z a b : List Nat) : repl c z (a ++ b) = repl c z a ++ repl c z b := by unfold repl; rw [List.flatMap_append]
theorem repl_one (c : Nat) (z : List Nat) (d : Nat) (h : ¬ d = c) : repl c z [d] = [d] := by unfold repl; simp [h]
theorem repls_cons (c : Nat) (q : List Nat) : repls (c :: q) = (if isSp c then 38 :: nm c else [c]) ++ repls q := by
  have e : repls (c :: q) = repls [c] ++ repls q := by
    unfold repls
    rw [show c :: q = [c] ++ q from rfl, repl_app, repl_app, repl_app, repl_app]
  rw [e]
  congr 1
  split
  · rename_i h
    rcases h with rfl | rfl | rfl | rfl <;> decide +kernel
  · rename_i h
    unfold isSp at h
    unfold repls
    rw [repl_one 38 _ c (by (first | decide | exact Nat.le_trans (by assumption) (by decide) | lia | omega)), repl_one 62 _ c (by (first | decide | exact Nat.le_trans (by assumption) (by decide) | lia | omega)), repl_one 60 _ c (by (first | decide | exact Nat.le_trans (by assumption) (by decide) | lia | omega)), repl_one 32 _ c (by (first | decide | exact Nat.le_trans (by assumption) (by decide) | lia | omega))]
theorem nm_free {c : Nat} (h : isSp c) : 38 ∉ nm c ∧ 59 ∉ nm0 c ∧ (∀ d ∈ nm c, ¬ isSp d) ∧ (nm c).length ≤ 5 := by
  rcases h with rfl | rfl | rfl | rfl <;> decide +kernel
theorem splitC_pre {c : Nat} {h : List Nat} {t : List (List Nat)} {b : List Nat} (e : splitC c b = h :: t) : ∀ {a : List Nat}, c ∉ a → splitC c (a ++ b) = (a ++ h) :: t
  | [], _ => e
  | d :: a, ha => by
    rw [List.cons_append, splitC, if_neg (fun q => ha (by rw [q]; exact List.mem_cons_self)), splitC_pre e (fun q => ha (List.mem_cons_of_mem _ q))]; rfl
theorem split_repls : ∀ q : List Nat, splitC 38 (repls q) = (cutQ q).1 :: (cutQ q).2.map fun p => nm p.1 ++ p.2
  | [] => rfl
  | c :: q => by
    have ih := split_repls q
    rw [repls_cons, cutQ]
    by_cases h : isSp c
    · rw [if_pos h, if_pos h, List.cons_append, splitC, if_pos rfl, splitC_pre ih (nm_free h).1]; rfl
    · rw [if_neg h, if_neg h]
      exact splitC_pre ih (a := [c]) (by unfold isSp at h; simp; (first | decide | exact Nat.le_trans (by assumption) (by decide) | lia | omega))
theorem cutQ_join : ∀ q : List Nat, (cutQ q).1 ++ (cutQ q).2.flatMap (fun p => p.1 :: p.2) = q
  | [] => rfl
  | c :: q => by
    have ih := cutQ_join q
    rw [cutQ]
    by_cases h : isSp c
    · rw [if_pos h, List.nil_append, List.flatMap_cons, List.cons_append, ih]
    · rw [if_neg h, List.cons_append, ih]
theorem cutQ_sp : ∀ q : List Nat, ∀ p ∈ (cutQ q).2, isSp p.1
  | [], p, h => nomatch h
  | c :: q, p, h => by
    rw [cutQ] at h
    by_cases hc : isSp c
    · rw [if_pos hc] at h
      rcases List.mem_cons.mp h with rfl | h
      · exact hc
      · exact cutQ_sp q p h
    · rw [if_neg hc] at h
      exact cutQ_sp q p h
theorem repls_free : ∀ q : List Nat, 60 ∉ repls q ∧ 62 ∉ repls q ∧ 32 ∉ repls q
  | [] => by decide +kernel
  | c :: q => by
    have ih := repls_free q
    rw [repls_cons]
    by_cases h : isSp c
    · have hn := (nm_free h).2.2.1
      rw [if_pos h]
      refine ⟨fun m => ?_, fun m => ?_, fun m => ?_⟩ <;> rcases List.mem_append.mp m with m | m
      · rcases List.mem_cons.mp m with m | m; exact absurd m (by decide); exact hn _ m (by decide)
      · exact ih.1 m
      · rcases List.mem_cons.mp m with m | m; exact absurd m (by decide); exact hn _ m (by decide)
      · exact ih.2.1 m
      · rcases List.mem_cons.mp m with m | m; exact absurd m (by decide); exact hn _ m (by decide)
      · exact ih.2.2 m
    · rw [if_neg h]
      unfold isSp at h
      refine ⟨fun m => ?_, fun m => ?_, fun m => ?_⟩ <;> rcases List.mem_append.mp m with m | m
      · have := List.mem_singleton.mp m; (first | decide | exact Nat.le_trans (by assumption) (by decide) | lia | omega)
      · exact ih.1 m
      · have := List.mem_singleton.mp m; (first | decide | exact Nat.le_trans (by assumption) (by decide) | lia | omega)
      · exact ih.2.1 m
      · have := List.mem_singleton.mp m; (first | decide | exact Nat.le_trans (by assumption) (by decide) | lia | omega)
      · exact ih.2.2 m
theorem repls_len : ∀ q : List Nat, (repls q).length ≤ 6 * q.length
  | [] => by decide +kernel
  | c :: q => by
    have ih := repls_len q
    rw [repls_cons, List.length_append, List.length_cons]
    split
    · rename_i h; have := (nm_free h).2.2.2; rw [List.length_cons]; (first | decide | exact Nat.le_trans (by assumption) (by decide) | lia | omega)
    · rw [List.length_cons, List.length_nil]; (first | decide | exact Nat.le_trans (by assumption) (by decide) | lia | omega)
noncomputable def namesL : List (List Nat) := [[97, 109, 112, 59], [108, 116, 59], [103, 116, 59], [110, 98, 115, 112, 59]]
theorem nm_at {c : Nat} (h : isSp c) : nm c ∈ namesL ∧ namesL.idxOf (nm c) < 4 ∧ [38, 60, 62, 32][namesL.idxOf (nm c)]? = some c := by
  rcases h with rfl | rfl | rfl | rfl <;> decide +kernel


theorem c_seen (hK : K07 W) (hh : A.handled = none) (hd : A.depth < recursionLimit) (q : List Nat) (hq : q.length ≤ 500) :
    SLC W A (.ref 134) [.str (S (repls q))] own (fun r o => r = .str (S q) ∧ o = own) := by
  refine' do_callC [Str.ofString "body"] ?ho ?hcd hd ?hb ?hloc ?nd ?hh10 ?c1 ?c2 ?c3 ?c4
  case ho => exact K_of hK rfl
  case hcd => rw [hK]; rfl
  case hb => intro s vs _ hl; obtain ⟨_, rfl⟩ := len_1 hl; exact BindsTo.of_eq rfl
  case hloc => decide +kernel
  case nd => decide +kernel
  case c1 => rfl
  case c2 => rfl
  case c3 => rfl
  case c4 => decide +kernel
  intro L
  dsimp only [lawS, nthS, fdB, fdS, clB, PySem.Challenge.pw_dm0066_07]
  simp only [List.zip_cons_cons, List.zip_nil_right]
  refine @deeper_gen W A _ _ _ _ _ hh ?_
  intro A' hh' hd' hu'
  obtain ⟨f1, f2, f3⟩ := repls_free q
  have hrl := repls_len q
  have hsp := split_repls q
  have hjn := cutQ_join q
  have hcs := cutQ_sp q
  refine SXs_cons (SG.mono (Q := fun fl o => fl = Fl.next ∧ Wk o ((L, Ob.ns [(Str.ofString "body", .str (S (repls q)))]) :: own)) (SX_For hh' ?_) ?_)
  · refine SE_strL (by (first | exact l07_0 | exact l07_1 | exact l07_2 | exact l07_3 | exact l07_4 | exact l07_5 | exact l07_6 | exact l07_7 | exact l07_8 | exact l07_9 | exact l07_10 | exact l07_11 | exact l07_12 | exact l07_13 | exact l07_14 | exact l07_15 | exact l07_16 | exact l07_17 | exact l07_18 | exact l07_19 | exact l07_20 | exact l07_21 | exact l07_22 | exact l07_23 | exact l07_24 | exact l07_25 | exact l07_26 | exact l07_27 | exact l07_28 | exact l07_29 | exact l07_30 | exact l07_31 | exact l07_32 | exact l07_33 | exact l07_34 | exact l07_35 | exact l07_36)) ?_
    refine it_strS fun it => ⟨it, _, _, rfl, rfl, fun r o => ∃ (post : List Nat), r = post.map (fun c => V.str (S [c])) ∧ (∀ c ∈ post, c ∉ repls q) ∧
      o = (L, Ob.ns [(Str.ofString "body", .str (S (repls q)))]) :: own, ?_, ?_, ?_⟩
    · refine ⟨[60, 62, 32], rfl, ?_, rfl⟩
      intro c hc
      simp only [List.mem_cons, List.not_mem_nil, or_false] at hc
      rcases hc with rfl | rfl | rfl <;> assumption
    · rintro v r o ⟨post, hr, hp, rfl⟩
      cases post with
      | nil => cases hr
      | cons c post =>
        injection hr with e1 e2
        subst e1 e2
        refine SA_Name ?_
        refine SS_loc rfl rfl (by (with_reducible repeat first | exact List.mem_cons_self | refine List.mem_cons_of_mem _ ?_ | assumption | exact mem_mid' | exact mem_mid (by assumption))) (by with_reducible rfl) (by (with_reducible repeat first | exact Put.here | exact Put.new | apply Put.there)) (by ((first | (dsimp only [List.map_cons, List.map_nil]; decide +kernel) | (simp only [List.map_cons, List.map_nil]; decide +kernel)))) (by (with_reducible repeat first | exact Upd.here | exact Upd.mid | apply Upd.there)) ?_
        refine SXs_cons ?_
        refine SX_If ?_
        refine ST_Compare ?_
        refine SE_Name ?_ (by decide +kernel)
        refine SN_loc rfl rfl (by (with_reducible repeat first | exact List.mem_cons_self | refine List.mem_cons_of_mem _ ?_ | assumption | exact mem_mid' | exact mem_mid (by assumption))) (by with_reducible rfl) (by (with_reducible repeat first | exact List.mem_cons_self | refine List.mem_cons_of_mem _ ?_ | assumption | exact mem_mid' | exact mem_mid (by assumption))) ?_
        refine SE_Name ?_ (by decide +kernel)
        refine SN_loc rfl rfl (by (with_reducible repeat first | exact List.mem_cons_self | refine List.mem_cons_of_mem _ ?_ | assumption | exact mem_mid' | exact mem_mid (by assumption))) (by with_reducible rfl) (by (with_reducible repeat first | exact List.mem_cons_self | refine List.mem_cons_of_mem _ ?_ | assumption | exact mem_mid' | exact mem_mid (by assumption))) ?_
        refine cmp_inC ?_
        with_reducible refine tr_bool ?_
        refine ite_dec (fun h => absurd h (hp c List.mem_cons_self)) (fun h => ?_)
        refine SXs_nil ?_
        refine SXs_nil ?_
        exact ⟨_, by (with_reducible repeat first | exact Wk.refl | exact Wk.nil | refine Wk.keep ObW.refl ?_ | refine Wk.keep (ObW.ns (by (with_reducible repeat first | exact List.Sublist.refl _ | exact List.nil_sublist _ | apply List.Sublist.cons_cons | apply List.Sublist.cons))) ?_ | apply Wk.drop), post, rfl, fun c hc => hp c (List.mem_cons_of_mem _ hc), rfl⟩
    · rintro o ⟨post, hr, hp, rfl⟩
      exact ⟨rfl, .refl⟩
  rintro fl o ⟨rfl, wk⟩
  refine SG.wk wk ?_
  clear wk
  have hnum : (cutQ q).2.length ≤ q.length := by
    have key : ∀ q : List Nat, (cutQ q).2.length ≤ q.length := by
      intro q
      induction q with
      | nil => exact Nat.le_refl _
      | cons c q ih => rw [cutQ]; split <;> (first | dsimp only [List.length_cons] | simp only [List.length_cons]) <;> (first | decide | exact Nat.le_trans (by assumption) (by decide) | lia | omega)
    exact key q
  refine SXs_cons ?_
  refine SX_Assign ?_
  refine SE_Meth ?_
  refine SE_Name ?_ (by decide +kernel)
  refine SN_loc rfl rfl (by (with_reducible repeat first | exact List.mem_cons_self | refine List.mem_cons_of_mem _ ?_ | assumption | exact mem_mid' | exact mem_mid (by assumption))) (by with_reducible rfl) (by (with_reducible repeat first | exact List.mem_cons_self | refine List.mem_cons_of_mem _ ?_ | assumption | exact mem_mid' | exact mem_mid (by assumption))) ?_
  refine mth_str (fun t s P h => GM.split h) ?_
  refine SEs_cons ?_
  refine SE_strL (by (first | exact l07_0 | exact l07_1 | exact l07_2 | exact l07_3 | exact l07_4 | exact l07_5 | exact l07_6 | exact l07_7 | exact l07_8 | exact l07_9 | exact l07_10 | exact l07_11 | exact l07_12 | exact l07_13 | exact l07_14 | exact l07_15 | exact l07_16 | exact l07_17 | exact l07_18 | exact l07_19 | exact l07_20 | exact l07_21 | exact l07_22 | exact l07_23 | exact l07_24 | exact l07_25 | exact l07_26 | exact l07_27 | exact l07_28 | exact l07_29 | exact l07_30 | exact l07_31 | exact l07_32 | exact l07_33 | exact l07_34 | exact l07_35 | exact l07_36)) ?_
  refine SEs_nil ?_
  with_reducible refine ⟨kp_builtin, ?_⟩
  refine call_split (by (first | decide | exact Nat.le_trans (by assumption) (by decide) | lia | omega)) (by rw [hsp, List.length_cons, List.length_map]; (first | decide | exact Nat.le_trans (by assumption) (by decide) | lia | omega)) ?_
  rw [hsp, List.map_cons, List.map_map]
  generalize (cutQ q).1 = h0 at hjn ⊢
  generalize (cutQ q).2 = ps at hjn hcs hnum ⊢
  have hqq : h0.length + (ps.flatMap fun p => p.1 :: p.2).length = q.length := by rw [← List.length_append, hjn]
  refine SS_loc rfl rfl (by (with_reducible repeat first | exact List.mem_cons_self | refine List.mem_cons_of_mem _ ?_ | assumption | exact mem_mid' | exact mem_mid (by assumption))) (by with_reducible rfl) (by (with_reducible repeat first | exact Put.here | exact Put.new | apply Put.there)) (by ((first | (dsimp only [List.map_cons, List.map_nil]; decide +kernel) | (simp only [List.map_cons, List.map_nil]; decide +kernel)))) (by (with_reducible repeat first | exact Upd.here | exact Upd.mid | apply Upd.there)) ?_
  refine SXs_cons ?_
  refine SX_Assign ?_
  refine SE_Subscript ?_
  refine SE_Name ?_ (by decide +kernel)
  refine SN_loc rfl rfl (by (with_reducible repeat first | exact List.mem_cons_self | refine List.mem_cons_of_mem _ ?_ | assumption | exact mem_mid' | exact mem_mid (by assumption))) (by with_reducible rfl) (by (with_reducible repeat first | exact List.mem_cons_self | refine List.mem_cons_of_mem _ ?_ | assumption | exact mem_mid' | exact mem_mid (by assumption))) ?_
  refine SE_int ?_
  refine sub_lst (d := .str (S h0)) (by (first | dsimp only [List.length_cons] | simp only [List.length_cons]); (first | decide | exact Nat.le_trans (by assumption) (by decide) | lia | omega)) (by (first | dsimp only [List.length_cons] | simp only [List.length_cons]); (first | decide | exact Nat.le_trans (by assumption) (by decide) | lia | omega)) (by rw [sizeLine_eq]; simp only [List.length_cons, List.length_map]; (first | decide | exact Nat.le_trans (by assumption) (by decide) | lia | omega)) rfl ?_
  refine SS_loc rfl rfl (by (with_reducible repeat first | exact List.mem_cons_self | refine List.mem_cons_of_mem _ ?_ | assumption | exact mem_mid' | exact mem_mid (by assumption))) (by with_reducible rfl) (by (with_reducible repeat first | exact Put.here | exact Put.new | apply Put.there)) (by ((first | (dsimp only [List.map_cons, List.map_nil]; decide +kernel) | (simp only [List.map_cons, List.map_nil]; decide +kernel)))) (by (with_reducible repeat first | exact Upd.here | exact Upd.mid | apply Upd.there)) ?_
  refine SXs_cons ?_
  refine SG.mono (Q := fun fl o => fl = Fl.next ∧ Wk o ((L, Ob.ns [(Str.ofString "seen", .str (S q))]) :: own)) (SX_For hh' ?_) ?_
  · refine SE_SliceL ?_
    refine SE_Name ?_ (by decide +kernel)
    refine SN_loc rfl rfl (by (with_reducible repeat first | exact List.mem_cons_self | refine List.mem_cons_of_mem _ ?_ | assumption | exact mem_mid' | exact mem_mid (by assumption))) (by with_reducible rfl) (by (with_reducible repeat first | exact List.mem_cons_self | refine List.mem_cons_of_mem _ ?_ | assumption | exact mem_mid' | exact mem_mid (by assumption))) ?_
    refine SPt_some ?_
    refine SE_int ?_
    with_reducible refine ⟨_, rfl, ?_⟩
    refine SPt_none ?_
    with_reducible refine ⟨_, rfl, ?_⟩
    refine ⟨by rw [sizeLine_eq]; simp only [List.length_cons, List.length_map]; (first | decide | exact Nat.le_trans (by assumption) (by decide) | lia | omega), ?_⟩
    rw [cut_one]
    refine it_list fun it => ⟨it, _, _, rfl, rfl, fun r o => ∃ (post : List (Nat × List Nat)) (seen : List Nat), r = (post.map fun p => PyData.str (S (nm p.1 ++ p.2))).map V.dat ∧ (∀ p ∈ post, isSp p.1) ∧
      seen ++ post.flatMap (fun p => p.1 :: p.2) = q ∧ ∃ pv, o = (L, Ob.ns [(Str.ofString "body", .str (S (repls q))), (Str.ofString "parts", pv), (Str.ofString "seen", .str (S seen))]) :: own, ?_, ?_, ?_⟩
    · exact ⟨ps, h0, rfl, hcs, hjn, _, rfl⟩
    · rintro v r o ⟨post, seen, hr, hp, inv, pv, rfl⟩
      cases post with
      | nil => cases hr
      | cons p post =>
        injection hr with e1 e2
        subst e1 e2
        obtain ⟨c, p⟩ := p
        have hc : isSp c := hp _ List.mem_cons_self
        obtain ⟨g1, g2, g3⟩ := nm_at hc
        obtain ⟨n1, n2, n3, n4⟩ := nm_free hc
        have hz : seen.length + (p.length + 1) ≤ 500 := by
          have := congrArg List.length inv
          rw [List.flatMap_cons] at this
          simp only [List.length_append, List.length_cons] at this
          (first | decide | exact Nat.le_trans (by assumption) (by decide) | lia | omega)
        obtain ⟨pt, hpt⟩ : ∃ pt, pt = nm c ++ p := ⟨_, rfl⟩
        have hptl : pt.length ≤ 505 := by rw [hpt, List.length_append]; (first | decide | exact Nat.le_trans (by assumption) (by decide) | lia | omega)
        have hfind : pt = nm0 c ++ 59 :: p := by rw [hpt, nm, List.append_assoc]; rfl
        have hnl : (nm c).length = (nm0 c).length + 1 := by rw [nm, List.length_append]; rfl
        rw [show V.dat ((fun p : Nat × List Nat => PyData.str (S (nm p.1 ++ p.2))) (c, p)) = V.str (S pt) by rw [hpt]]
        refine SA_Name ?_
        refine SS_loc rfl rfl (by (with_reducible repeat first | exact List.mem_cons_self | refine List.mem_cons_of_mem _ ?_ | assumption | exact mem_mid' | exact mem_mid (by assumption))) (by with_reducible rfl) (by (with_reducible repeat first | exact Put.here | exact Put.new | apply Put.there)) (by ((first | (dsimp only [List.map_cons, List.map_nil]; decide +kernel) | (simp only [List.map_cons, List.map_nil]; decide +kernel)))) (by (with_reducible repeat first | exact Upd.here | exact Upd.mid | apply Upd.there)) ?_
        refine SXs_cons ?_
        refine SX_Assign ?_
        refine SE_SliceSS ?_
        refine SE_Name ?_ (by decide +kernel)
        refine SN_loc rfl rfl (by (with_reducible repeat first | exact List.mem_cons_self | refine List.mem_cons_of_mem _ ?_ | assumption | exact mem_mid' | exact mem_mid (by assumption))) (by with_reducible rfl) (by (with_reducible repeat first | exact List.mem_cons_self | refine List.mem_cons_of_mem _ ?_ | assumption | exact mem_mid' | exact mem_mid (by assumption))) ?_
        refine SPt_none ?_
        refine SPt_some ?_
        refine SE_BinOp ?_
        refine SE_Meth ?_
        refine SE_Name ?_ (by decide +kernel)
        refine SN_loc rfl rfl (by (with_reducible repeat first | exact List.mem_cons_self | refine List.mem_cons_of_mem _ ?_ | assumption | exact mem_mid' | exact mem_mid (by assumption))) (by with_reducible rfl) (by (with_reducible repeat first | exact List.mem_cons_self | refine List.mem_cons_of_mem _ ?_ | assumption | exact mem_mid' | exact mem_mid (by assumption))) ?_
        refine mth_str (fun t s P h => GM.find h) ?_
        refine SEs_cons ?_
        refine SE_strL (by (first | exact l07_0 | exact l07_1 | exact l07_2 | exact l07_3 | exact l07_4 | exact l07_5 | exact l07_6 | exact l07_7 | exact l07_8 | exact l07_9 | exact l07_10 | exact l07_11 | exact l07_12 | exact l07_13 | exact l07_14 | exact l07_15 | exact l07_16 | exact l07_17 | exact l07_18 | exact l07_19 | exact l07_20 | exact l07_21 | exact l07_22 | exact l07_23 | exact l07_24 | exact l07_25 | exact l07_26 | exact l07_27 | exact l07_28 | exact l07_29 | exact l07_30 | exact l07_31 | exact l07_32 | exact l07_33 | exact l07_34 | exact l07_35 | exact l07_36)) ?_
        refine SEs_nil ?_
        with_reducible refine ⟨kp_builtin, ?_⟩
        refine call_find hfind n2 ?_
        refine SE_int ?_
        with_reducible refine op_add ?_
        with_reducible refine ⟨_, rfl, ?_⟩
        with_reducible refine ⟨_, rfl, ?_⟩
        rw [show ((nm0 c).length : Int) + 1 = ((nm c).length : Int) by (first | decide | exact Nat.le_trans (by assumption) (by decide) | lia | omega)]
        refine ⟨by rw [sizeLine_eq]; (first | decide | exact Nat.le_trans (by assumption) (by decide) | lia | omega), ?_⟩
        rw [cutL_take, show pt.take (nm c).length = nm c by rw [hpt, List.take_left]]
        refine SS_loc rfl rfl (by (with_reducible repeat first | exact List.mem_cons_self | refine List.mem_cons_of_mem _ ?_ | assumption | exact mem_mid' | exact mem_mid (by assumption))) (by with_reducible rfl) (by (with_reducible repeat first | exact Put.here | exact Put.new | apply Put.there)) (by ((first | (dsimp only [List.map_cons, List.map_nil]; decide +kernel) | (simp only [List.map_cons, List.map_nil]; decide +kernel)))) (by (with_reducible repeat first | exact Upd.here | exact Upd.mid | apply Upd.there)) ?_
        refine SXs_cons ?_
        refine SX_If ?_
        refine ST_Compare ?_
        refine SE_Name ?_ (by decide +kernel)
        refine SN_loc rfl rfl (by (with_reducible repeat first | exact List.mem_cons_self | refine List.mem_cons_of_mem _ ?_ | assumption | exact mem_mid' | exact mem_mid (by assumption))) (by with_reducible rfl) (by (with_reducible repeat first | exact List.mem_cons_self | refine List.mem_cons_of_mem _ ?_ | assumption | exact mem_mid' | exact mem_mid (by assumption))) ?_
        refine SE_ListF ?_
        refine SEs_cons ?_
        refine SE_strL (by (first | exact l07_0 | exact l07_1 | exact l07_2 | exact l07_3 | exact l07_4 | exact l07_5 | exact l07_6 | exact l07_7 | exact l07_8 | exact l07_9 | exact l07_10 | exact l07_11 | exact l07_12 | exact l07_13 | exact l07_14 | exact l07_15 | exact l07_16 | exact l07_17 | exact l07_18 | exact l07_19 | exact l07_20 | exact l07_21 | exact l07_22 | exact l07_23 | exact l07_24 | exact l07_25 | exact l07_26 | exact l07_27 | exact l07_28 | exact l07_29 | exact l07_30 | exact l07_31 | exact l07_32 | exact l07_33 | exact l07_34 | exact l07_35 | exact l07_36)) ?_
        refine SEs_cons ?_
        refine SE_strL (by (first | exact l07_0 | exact l07_1 | exact l07_2 | exact l07_3 | exact l07_4 | exact l07_5 | exact l07_6 | exact l07_7 | exact l07_8 | exact l07_9 | exact l07_10 | exact l07_11 | exact l07_12 | exact l07_13 | exact l07_14 | exact l07_15 | exact l07_16 | exact l07_17 | exact l07_18 | exact l07_19 | exact l07_20 | exact l07_21 | exact l07_22 | exact l07_23 | exact l07_24 | exact l07_25 | exact l07_26 | exact l07_27 | exact l07_28 | exact l07_29 | exact l07_30 | exact l07_31 | exact l07_32 | exact l07_33 | exact l07_34 | exact l07_35 | exact l07_36)) ?_
        refine SEs_cons ?_
        refine SE_strL (by (first | exact l07_0 | exact l07_1 | exact l07_2 | exact l07_3 | exact l07_4 | exact l07_5 | exact l07_6 | exact l07_7 | exact l07_8 | exact l07_9 | exact l07_10 | exact l07_11 | exact l07_12 | exact l07_13 | exact l07_14 | exact l07_15 | exact l07_16 | exact l07_17 | exact l07_18 | exact l07_19 | exact l07_20 | exact l07_21 | exact l07_22 | exact l07_23 | exact l07_24 | exact l07_25 | exact l07_26 | exact l07_27 | exact l07_28 | exact l07_29 | exact l07_30 | exact l07_31 | exact l07_32 | exact l07_33 | exact l07_34 | exact l07_35 | exact l07_36)) ?_
        refine SEs_cons ?_
        refine SE_strL (by (first | exact l07_0 | exact l07_1 | exact l07_2 | exact l07_3 | exact l07_4 | exact l07_5 | exact l07_6 | exact l07_7 | exact l07_8 | exact l07_9 | exact l07_10 | exact l07_11 | exact l07_12 | exact l07_13 | exact l07_14 | exact l07_15 | exact l07_16 | exact l07_17 | exact l07_18 | exact l07_19 | exact l07_20 | exact l07_21 | exact l07_22 | exact l07_23 | exact l07_24 | exact l07_25 | exact l07_26 | exact l07_27 | exact l07_28 | exact l07_29 | exact l07_30 | exact l07_31 | exact l07_32 | exact l07_33 | exact l07_34 | exact l07_35 | exact l07_36)) ?_
        refine SEs_nil ?_
        with_reducible refine ⟨_, by with_reducible ((first | exact AllDat.map _ | repeat first | exact AllDat.nil | with_reducible apply AllDat.cons)), by ((rw [sizeLine_eq]; simp)), ?_⟩
        refine cmp_ninS (ls := namesL) ?_
        rw [decide_eq_false (show ¬ nm c ∉ namesL from fun h => h g1)]
        with_reducible refine tr_bool ?_
        with_reducible refine ite_ff' ?_
        refine SXs_nil ?_
        refine SXs_cons ?_
        refine SX_Assign ?_
        refine SE_BinOp ?_
        refine SE_BinOp ?_
        refine SE_Name ?_ (by decide +kernel)
        refine SN_loc rfl rfl (by (with_reducible repeat first | exact List.mem_cons_self | refine List.mem_cons_of_mem _ ?_ | assumption | exact mem_mid' | exact mem_mid (by assumption))) (by with_reducible rfl) (by (with_reducible repeat first | exact List.mem_cons_self | refine List.mem_cons_of_mem _ ?_ | assumption | exact mem_mid' | exact mem_mid (by assumption))) ?_
        refine SE_Subscript ?_
        refine SE_strL (by (first | exact l07_0 | exact l07_1 | exact l07_2 | exact l07_3 | exact l07_4 | exact l07_5 | exact l07_6 | exact l07_7 | exact l07_8 | exact l07_9 | exact l07_10 | exact l07_11 | exact l07_12 | exact l07_13 | exact l07_14 | exact l07_15 | exact l07_16 | exact l07_17 | exact l07_18 | exact l07_19 | exact l07_20 | exact l07_21 | exact l07_22 | exact l07_23 | exact l07_24 | exact l07_25 | exact l07_26 | exact l07_27 | exact l07_28 | exact l07_29 | exact l07_30 | exact l07_31 | exact l07_32 | exact l07_33 | exact l07_34 | exact l07_35 | exact l07_36)) ?_
        refine SE_Meth ?_
        refine SE_List (by ((rw [sizeLine_eq]; simp))) ?_
        refine SEs_cons ?_
        refine SE_strL (by (first | exact l07_0 | exact l07_1 | exact l07_2 | exact l07_3 | exact l07_4 | exact l07_5 | exact l07_6 | exact l07_7 | exact l07_8 | exact l07_9 | exact l07_10 | exact l07_11 | exact l07_12 | exact l07_13 | exact l07_14 | exact l07_15 | exact l07_16 | exact l07_17 | exact l07_18 | exact l07_19 | exact l07_20 | exact l07_21 | exact l07_22 | exact l07_23 | exact l07_24 | exact l07_25 | exact l07_26 | exact l07_27 | exact l07_28 | exact l07_29 | exact l07_30 | exact l07_31 | exact l07_32 | exact l07_33 | exact l07_34 | exact l07_35 | exact l07_36)) ?_
        refine SEs_cons ?_
        refine SE_strL (by (first | exact l07_0 | exact l07_1 | exact l07_2 | exact l07_3 | exact l07_4 | exact l07_5 | exact l07_6 | exact l07_7 | exact l07_8 | exact l07_9 | exact l07_10 | exact l07_11 | exact l07_12 | exact l07_13 | exact l07_14 | exact l07_15 | exact l07_16 | exact l07_17 | exact l07_18 | exact l07_19 | exact l07_20 | exact l07_21 | exact l07_22 | exact l07_23 | exact l07_24 | exact l07_25 | exact l07_26 | exact l07_27 | exact l07_28 | exact l07_29 | exact l07_30 | exact l07_31 | exact l07_32 | exact l07_33 | exact l07_34 | exact l07_35 | exact l07_36)) ?_
        refine SEs_cons ?_
        refine SE_strL (by (first | exact l07_0 | exact l07_1 | exact l07_2 | exact l07_3 | exact l07_4 | exact l07_5 | exact l07_6 | exact l07_7 | exact l07_8 | exact l07_9 | exact l07_10 | exact l07_11 | exact l07_12 | exact l07_13 | exact l07_14 | exact l07_15 | exact l07_16 | exact l07_17 | exact l07_18 | exact l07_19 | exact l07_20 | exact l07_21 | exact l07_22 | exact l07_23 | exact l07_24 | exact l07_25 | exact l07_26 | exact l07_27 | exact l07_28 | exact l07_29 | exact l07_30 | exact l07_31 | exact l07_32 | exact l07_33 | exact l07_34 | exact l07_35 | exact l07_36)) ?_
        refine SEs_cons ?_
        refine SE_strL (by (first | exact l07_0 | exact l07_1 | exact l07_2 | exact l07_3 | exact l07_4 | exact l07_5 | exact l07_6 | exact l07_7 | exact l07_8 | exact l07_9 | exact l07_10 | exact l07_11 | exact l07_12 | exact l07_13 | exact l07_14 | exact l07_15 | exact l07_16 | exact l07_17 | exact l07_18 | exact l07_19 | exact l07_20 | exact l07_21 | exact l07_22 | exact l07_23 | exact l07_24 | exact l07_25 | exact l07_26 | exact l07_27 | exact l07_28 | exact l07_29 | exact l07_30 | exact l07_31 | exact l07_32 | exact l07_33 | exact l07_34 | exact l07_35 | exact l07_36)) ?_
        refine SEs_nil ?_
        refine ⟨by ((rw [sizeLine_eq]; simp)), fun D => ?_⟩
        refine mth_list (by (with_reducible repeat first | exact List.mem_cons_self | refine List.mem_cons_of_mem _ ?_ | assumption | exact mem_mid' | exact mem_mid (by assumption))) PySem.F.slot_list_index PySem.F.type_list_index ?_
        refine SEs_cons ?_
        refine SE_Name ?_ (by decide +kernel)
        refine SN_loc rfl rfl (by (with_reducible repeat first | exact List.mem_cons_self | refine List.mem_cons_of_mem _ ?_ | assumption | exact mem_mid' | exact mem_mid (by assumption))) (by with_reducible rfl) (by (with_reducible repeat first | exact List.mem_cons_self | refine List.mem_cons_of_mem _ ?_ | assumption | exact mem_mid' | exact mem_mid (by assumption))) ?_
        refine SEs_nil ?_
        with_reducible refine ⟨kp_builtin, ?_⟩
        refine call_indexO (D := D) (ls := namesL) (by exact List.mem_cons_self) g1 (by decide) ?_
        refine sub_strS (a := [38, 60, 62, 32]) (c := c) (by (first | dsimp only [List.length_cons, List.length_nil] | simp only [List.length_cons, List.length_nil]); (first | decide | exact Nat.le_trans (by assumption) (by decide) | lia | omega)) (by (first | dsimp only [List.length_cons, List.length_nil] | simp only [List.length_cons, List.length_nil]); (first | decide | exact Nat.le_trans (by assumption) (by decide) | lia | omega)) (by ((rw [sizeLine_eq]; simp))) (by unfold place; rw [if_neg (by (first | decide | exact Nat.le_trans (by assumption) (by decide) | lia | omega)), Int.toNat_natCast]; exact g3) ?_
        with_reducible refine op_catS (by ((rw [sizeLine_eq]; (try simp only [List.length_append, List.length_cons, List.length_nil, List.length_map]); (first | decide | exact Nat.le_trans (by assumption) (by decide) | lia | omega)))) ?_
        refine SE_SliceSS ?_
        refine SE_Name ?_ (by decide +kernel)
        refine SN_loc rfl rfl (by (with_reducible repeat first | exact List.mem_cons_self | refine List.mem_cons_of_mem _ ?_ | assumption | exact mem_mid' | exact mem_mid (by assumption))) (by with_reducible rfl) (by (with_reducible repeat first | exact List.mem_cons_self | refine List.mem_cons_of_mem _ ?_ | assumption | exact mem_mid' | exact mem_mid (by assumption))) ?_
        refine SPt_some ?_
        refine SE_Call ?_
        refine SE_Name ?_ (by decide +kernel)
        refine SN_builtin rfl rfl rfl rfl (nsIn_of (by assumption) rfl) rfl (by decide +kernel) ?_
        with_reducible refine ⟨_, rfl, ?_⟩
        refine SEs_cons ?_
        refine SE_Name ?_ (by decide +kernel)
        refine SN_loc rfl rfl (by (with_reducible repeat first | exact List.mem_cons_self | refine List.mem_cons_of_mem _ ?_ | assumption | exact mem_mid' | exact mem_mid (by assumption))) (by with_reducible rfl) (by (with_reducible repeat first | exact List.mem_cons_self | refine List.mem_cons_of_mem _ ?_ | assumption | exact mem_mid' | exact mem_mid (by assumption))) ?_
        refine SEs_nil ?_
        with_reducible refine ⟨kp_builtin, ?_⟩
        refine call_lenS (by ((rw [sizeLine_eq]; (try simp only [List.length_append, List.length_cons, List.length_nil, List.length_map]); (first | decide | exact Nat.le_trans (by assumption) (by decide) | lia | omega)))) ?_
        with_reducible refine ⟨_, rfl, ?_⟩
        refine SPt_none ?_
        with_reducible refine ⟨_, rfl, ?_⟩
        refine ⟨by rw [sizeLine_eq]; (first | decide | exact Nat.le_trans (by assumption) (by decide) | lia | omega), ?_⟩
        rw [cutL_drop, show pt.drop (nm c).length = p by rw [hpt, List.drop_left]]
        with_reducible refine op_catS (by ((rw [sizeLine_eq]; (try simp only [List.length_append, List.length_cons, List.length_nil, List.length_map]); (first | decide | exact Nat.le_trans (by assumption) (by decide) | lia | omega)))) ?_
        refine SS_loc rfl rfl (by (with_reducible repeat first | exact List.mem_cons_self | refine List.mem_cons_of_mem _ ?_ | assumption | exact mem_mid' | exact mem_mid (by assumption))) (by with_reducible rfl) (by (with_reducible repeat first | exact Put.here | exact Put.new | apply Put.there)) (by ((first | (dsimp only [List.map_cons, List.map_nil]; decide +kernel) | (simp only [List.map_cons, List.map_nil]; decide +kernel)))) (by (with_reducible repeat first | exact Upd.here | exact Upd.mid | apply Upd.there)) ?_
        refine SXs_nil ?_
        exact ⟨_, by (with_reducible repeat first | exact Wk.refl | exact Wk.nil | refine Wk.keep ObW.refl ?_ | refine Wk.keep (ObW.ns (by (with_reducible repeat first | exact List.Sublist.refl _ | exact List.nil_sublist _ | apply List.Sublist.cons_cons | apply List.Sublist.cons))) ?_ | apply Wk.drop), post, seen ++ [c] ++ p, rfl, fun p hp' => hp p (List.mem_cons_of_mem _ hp'), by rw [← inv, List.flatMap_cons, List.append_assoc, List.append_assoc]; simp, _, rfl⟩
    · rintro o ⟨post, seen, hr, hp, inv, pv, rfl⟩
      cases post with
      | cons p post => cases hr
      | nil =>
        rw [List.flatMap_nil, List.append_nil] at inv
        rw [inv]
        exact ⟨rfl, by (with_reducible repeat first | exact Wk.refl | exact Wk.nil | refine Wk.keep ObW.refl ?_ | refine Wk.keep (ObW.ns (by (with_reducible repeat first | exact List.Sublist.refl _ | exact List.nil_sublist _ | apply List.Sublist.cons_cons | apply List.Sublist.cons))) ?_ | apply Wk.drop)⟩
  rintro fl o ⟨rfl, wk⟩
  refine SG.wk wk ?_
  refine SXs_cons ?_
  refine SX_Return ?_
  refine SE_Name ?_ (by decide +kernel)
  refine SN_loc rfl rfl (by (with_reducible repeat first | exact List.mem_cons_self | refine List.mem_cons_of_mem _ ?_ | assumption | exact mem_mid' | exact mem_mid (by assumption))) (by with_reducible rfl) (by (with_reducible repeat first | exact List.mem_cons_self | refine List.mem_cons_of_mem _ ?_ | assumption | exact mem_mid' | exact mem_mid (by assumption))) ?_
  exact ⟨_, .drop .refl, rfl, rfl⟩
/-! ### the plain law -/
theorem rstrip_snocG (p : Nat → Bool) (l : List Nat) (c : Nat) : rstripL p (l ++ [c]) = if p c = true then rstripL p l else l ++ [c] := by
  unfold rstripL
  rw [List.reverse_append, List.reverse_singleton, List.singleton_append, List.takeWhile_cons, List.length_append, List.length_cons, List.length_nil]
  split
  · have h : (l.reverse.takeWhile p).length ≤ l.length := by
      have := (List.takeWhile_sublist p (l := l.reverse)).length_le
      rwa [List.length_reverse] at this
    rw [List.length_cons, show l.length + (0 + 1) - ((l.reverse.takeWhile p).length + 1) = l.length - (l.reverse.takeWhile p).length by (first | decide | exact Nat.le_trans (by assumption) (by decide) | lia | omega)]
    rw [List.take_append_of_le_length (by (first | decide | exact Nat.le_trans (by assumption) (by decide) | lia | omega))]
  · rw [List.length_nil, List.take_of_length_le (by simp)]
theorem snoc_cases (l : List Nat) : l = [] ∨ ∃ l' c, l = l' ++ [c] := (List.eq_nil_or_concat l).imp id fun ⟨l', c, e⟩ => ⟨l', c, by rw [e, List.concat_eq_append]⟩
theorem rstrip_free (p : Nat → Bool) (l : List Nat) (h : ∀ c ∈ l, p c = false) : rstripL p l = l := by
  rcases snoc_cases l with rfl | ⟨l', c, rfl⟩
  · rfl
  · rw [rstrip_snocG, if_neg (by rw [h c (by simp)]; decide)]
theorem rstrip_app (p : Nat → Bool) (a : List Nat) (ha : ∀ c ∈ a, p c = false) : ∀ (k : Nat) (t : List Nat), t.length = k → rstripL p (a ++ t) = a ++ rstripL p t
  | 0, t, h => by
    obtain rfl : t = [] := List.eq_nil_of_length_eq_zero h
    rw [List.append_nil, rstrip_free p a ha]; simp [rstripL]
  | k + 1, t, h => by
    rcases snoc_cases t with rfl | ⟨t', c, rfl⟩
    · cases h
    · rw [← List.append_assoc, rstrip_snocG, rstrip_snocG]
      split
      · exact rstrip_app p a ha k t' (by rw [List.length_append] at h; simpa using h)
      · rw [List.append_assoc]
theorem rstrip_rep (p : Nat → Bool) (c : Nat) (hc : p c = true) (a : List Nat) : ∀ k : Nat, rstripL p (a ++ List.replicate k c) = rstripL p a
  | 0 => by rw [List.replicate_zero, List.append_nil]
  | k + 1 => by rw [List.replicate_succ', ← List.append_assoc, rstrip_snocG, if_pos hc, rstrip_rep p c hc a k]
/-- the line as it lies on the screen -/
noncomputable def flatT (n : Nat) : List Nat → Nat → List Nat
  | [], _ => []
  | c :: l, col => if c = 9 then List.replicate (tabTo n col - col) 9 ++ flatT n l (tabTo n col) else cleanC c :: flatT n l (col + 1)
theorem flatT_len (n : Nat) (hn : n ≤ 9) : ∀ (l : List Nat) (col : Nat), col + (flatT n l col).length = colL n l col
  | [], col => rfl
  | c :: l, col => by
    rw [flatT, colL]
    split
    · have := tabTo_le n col hn
      have := flatT_len n hn l (tabTo n col)
      rw [List.length_append, List.length_replicate]; (first | decide | exact Nat.le_trans (by assumption) (by decide) | lia | omega)
    · have := flatT_len n hn l (col + 1)
      rw [List.length_cons]; (first | decide | exact Nat.le_trans (by assumption) (by decide) | lia | omega)
theorem flatT_app (n : Nat) (b : List Nat) : ∀ (a : List Nat) (col : Nat), flatT n (a ++ b) col = flatT n a col ++ flatT n b (colL n a col)
  | [], col => rfl
  | c :: a, col => by
    rw [List.cons_append, flatT, flatT, colL]
    split
    · rw [flatT_app n b a, List.append_assoc]
    · rw [flatT_app n b a, List.cons_append]
noncomputable def okC : List Nat := [97, 32, 98, 38, 9, 60, 0, 43, 62, 108, 116, 59, 121, 122, 34]
noncomputable def okT : List Nat := [97, 32, 98, 38, 9, 60, 43, 62, 108, 116, 59, 121, 122, 34, 13]
theorem flatT_ok (n : Nat) : ∀ (l : List Nat) (col : Nat), (∀ c ∈ l, c ∈ okC ∨ c = 13) → ∀ c ∈ flatT n l col, c ∈ okT
  | [], _, _, c, h => nomatch h
  | d :: l, col, hl, c, h => by
    have ht : ∀ c ∈ l, c ∈ okC ∨ c = 13 := fun c hc => hl c (List.mem_cons_of_mem _ hc)
    rw [flatT] at h
    split at h
    · rcases List.mem_append.mp h with h | h
      · rw [(List.mem_replicate.mp h).2]; decide
      · exact flatT_ok n l _ ht c h
    · rcases List.mem_cons.mp h with rfl | h
      · have key : ∀ d ∈ 13 :: okC, cleanC d ∈ okT := by decide +kernel
        exact key d ((hl d List.mem_cons_self).elim (fun h => List.mem_cons_of_mem _ h) (fun h => by rw [h]; exact List.mem_cons_self))
      · exact flatT_ok n l _ ht c h
theorem repl_rep (c d e k : Nat) : repl c [e] (List.replicate k d) = List.replicate k (if d = c then e else d) := by
  unfold repl
  induction k with
  | zero => rfl
  | succ k ih => rw [List.replicate_succ, List.flatMap_cons, ih, List.replicate_succ]; split <;> rfl
theorem repl_cons (c e d : Nat) (l : List Nat) : repl c [e] (d :: l) = (if d = c then e else d) :: repl c [e] l := by
  unfold repl
  rw [List.flatMap_cons]; split <;> rfl
theorem tabTo_eq (n col : Nat) : tabTo n col = col + (if 0 < n then n - col % n else 0) := by
  unfold tabTo
  split
  · rename_i h
    have h1 := Nat.div_add_mod col n
    have h2 := Nat.mod_lt col h
    have h3 : (col / n + 1) * n = n * (col / n) + n := by rw [Nat.add_mul, Nat.one_mul, Nat.mul_comm]
    (first | decide | exact Nat.le_trans (by assumption) (by decide) | lia | omega)
  · rfl
theorem exp_flat (n : Nat) (x : List Nat) : ∀ (b : List Nat) (col : Nat), (∀ c ∈ b, c ≠ 10 ∧ c ≠ 13) →
    repl 0 [32] (repl 32 [9] (expandL n col (repl 32 [0] (b ++ x)))) = flatT n b col ++ repl 0 [32] (repl 32 [9] (expandL n (colL n b col) (repl 32 [0] x)))
  | [], col, _ => rfl
  | c :: b, col, h => by
    have hb : ∀ c ∈ b, c ≠ 10 ∧ c ≠ 13 := fun c hc => h c (List.mem_cons_of_mem _ hc)
    have hc := h c List.mem_cons_self
    rw [List.cons_append, repl_cons, flatT, colL, expandL]
    by_cases h9 : c = 9
    · subst h9
      rw [show (if (9 : Nat) = 32 then 0 else 9) = 9 from rfl, if_pos rfl, if_pos rfl, if_pos rfl, repl_app, repl_app, repl_rep, repl_rep, if_pos rfl, show (if (9 : Nat) = 0 then 32 else 9) = 9 from rfl, ← tabTo_eq, exp_flat n x b _ hb, List.append_assoc]
      congr 2
      rw [tabTo_eq]; (first | decide | exact Nat.le_trans (by assumption) (by decide) | lia | omega)
    · rw [if_neg h9, if_neg h9]
      by_cases h32 : c = 32
      · subst h32
        rw [if_pos rfl, if_neg (by decide), if_neg (by decide), repl_cons, if_neg (by decide), repl_cons, if_pos rfl, exp_flat n x b _ hb]; rfl
      · rw [if_neg h32, if_neg h9, if_neg (by (first | decide | exact Nat.le_trans (by assumption) (by decide) | lia | omega)), repl_cons, if_neg h32, repl_cons, exp_flat n x b _ hb]; rfl
noncomputable def tailT (t : List Nat) : List Nat := rstripL (fun c => [10].contains c) t
theorem tail_exp (n col : Nat) {t : List Nat} (h : t ∈ tails) : repl 0 [32] (repl 32 [9] (expandL n col (repl 32 [0] t))) = t := by
  have key : ∀ t ∈ tails, 9 ∉ t ∧ repl 32 [0] t = t ∧ repl 0 [32] (repl 32 [9] t) = t := by decide +kernel
  obtain ⟨h1, h2, h3⟩ := key t h
  rw [h2, expand_same _ _ _ h1, h3]
theorem tail_flat (n col : Nat) {t : List Nat} (h : t ∈ tails) : flatT n (tailT t) col = tailT t ∧ ∀ c ∈ tailT t, c = 13 := by
  have key : ∀ t ∈ tails, tailT t = [] ∨ tailT t = [13] := by decide +kernel
  rcases key t h with e | e <;> rw [e]
  · exact ⟨rfl, fun c hc => nomatch hc⟩
  · exact ⟨rfl, fun c hc => List.mem_singleton.mp hc⟩
theorem line_exp (n : Nat) {l : List Nat} (h : LineOk l) : expT (n : Int) l = flatT n (rstripL (fun c => [10].contains c) l) 0 ∧ (∀ c ∈ rstripL (fun c => [10].contains c) l, c ∈ okC ∨ c = 13) := by
  obtain ⟨b, t, rfl, ⟨hb1, hb2⟩, ht⟩ := h
  have hb : ∀ c ∈ b, c ≠ 10 ∧ c ≠ 13 := fun c hc => by
    have key : ∀ c ∈ okC, c ≠ 10 ∧ c ≠ 13 := by decide +kernel
    exact key c (hb2 c hc)
  have hb10 : ∀ c ∈ b, ([10].contains c) = false := fun c hc => by have := (hb c hc).1; simp [this]
  obtain ⟨e1, e2⟩ := tail_flat n (colL n b 0) ht
  have er : rstripL (fun c => [10].contains c) (b ++ t) = b ++ tailT t := rstrip_app _ b hb10 _ t rfl
  rw [er]
  constructor
  · unfold expT
    rw [show ((n : Int)).toNat = n from Int.toNat_natCast n, exp_flat n t b 0 hb, tail_exp _ _ ht, flatT_app, e1]
    refine rstrip_app _ _ (fun c hc => ?_) _ t rfl
    have h1 := flatT_ok n b 0 (fun c hc => .inl (hb2 c hc)) c hc
    have key : ∀ c ∈ okT, ([10].contains c) = false := by decide +kernel
    exact key c h1
  · intro c hc
    rcases List.mem_append.mp hc with hc | hc
    · exact .inl (hb2 c hc)
    · exact .inr (e2 c hc)
/-- the signs, written into tabs -/
theorem fill_flat (n : Nat) (hn : n ≤ 9) : ∀ (l A : List Nat) (k : Nat), colL n l A.length ≤ A.length + k →
    (fillL n l A.length).foldl (fun X p => X.set p.1 p.2) (A ++ List.replicate k 9) = A ++ flatT n l A.length ++ List.replicate (A.length + k - colL n l A.length) 9
  | [], A, k, h => by
    rw [fillL, flatT, colL, List.foldl_nil, List.append_nil, show A.length + k - A.length = k by (first | decide | exact Nat.le_trans (by assumption) (by decide) | lia | omega)]
  | c :: l, A, k, h => by
    rw [colL] at h
    rw [fillL, flatT, colL]
    by_cases h9 : c = 9
    · rw [if_pos h9] at h
      rw [if_pos h9, if_pos h9, if_pos h9]
      have h1 := tabTo_le n A.length hn
      have h2 := colL_le n hn l (tabTo n A.length)
      have e : A ++ List.replicate k 9 = (A ++ List.replicate (tabTo n A.length - A.length) 9) ++ List.replicate (k - (tabTo n A.length - A.length)) 9 := by
        rw [List.append_assoc, List.replicate_append_replicate]; congr 2; (first | decide | exact Nat.le_trans (by assumption) (by decide) | lia | omega)
      have el : (A ++ List.replicate (tabTo n A.length - A.length) 9).length = tabTo n A.length := by rw [List.length_append, List.length_replicate]; (first | decide | exact Nat.le_trans (by assumption) (by decide) | lia | omega)
      have ih := fill_flat n hn l (A ++ List.replicate (tabTo n A.length - A.length) 9) (k - (tabTo n A.length - A.length)) (by rw [el]; (first | decide | exact Nat.le_trans (by assumption) (by decide) | lia | omega))
      rw [el] at ih
      rw [e, ih, ← List.append_assoc]
      congr 2
      (first | decide | exact Nat.le_trans (by assumption) (by decide) | lia | omega)
    · rw [if_neg h9] at h
      rw [if_neg h9, if_neg h9, if_neg h9, List.foldl_cons]
      have h2 := colL_le n hn l (A.length + 1)
      obtain ⟨k, rfl⟩ : ∃ j, k = j + 1 := ⟨k - 1, by (first | decide | exact Nat.le_trans (by assumption) (by decide) | lia | omega)⟩
      have e : (A ++ List.replicate (k + 1) 9).set A.length (cleanC c) = (A ++ [cleanC c]) ++ List.replicate k 9 := by
        rw [List.set_append_right _ _ (Nat.le_refl _), Nat.sub_self, List.replicate_succ, List.set_cons_zero, List.append_assoc]; rfl
      have el : (A ++ [cleanC c]).length = A.length + 1 := by rw [List.length_append]; rfl
      have ih := fill_flat n hn l (A ++ [cleanC c]) k (by rw [el]; (first | decide | exact Nat.le_trans (by assumption) (by decide) | lia | omega))
      rw [el] at ih
      show (fillL n l (A.length + 1)).foldl _ ((A ++ List.replicate (k + 1) 9).set A.length (cleanC c)) = _
      rw [e, ih, show A.length + 1 + k = A.length + (k + 1) by (first | decide | exact Nat.le_trans (by assumption) (by decide) | lia | omega), List.append_assoc A]; rfl
theorem put_flat {w : Nat} (hw : 0 < w) (j c : Nat) (hj : j < w) : ∀ (m : List (List Nat)) (q : Nat), (∀ r ∈ m, r.length = w) → (m.modify q (·.set j c)).flatten = m.flatten.set (q * w + j) c
  | [], q, _ => by cases q <;> simp
  | r :: m, 0, h => by
    have hr := h r List.mem_cons_self
    rw [List.modify_zero_cons, List.flatten_cons, List.flatten_cons, List.set_append_left _ _ (by (first | decide | exact Nat.le_trans (by assumption) (by decide) | lia | omega)), Nat.zero_mul, Nat.zero_add]
  | r :: m, q + 1, h => by
    have hr := h r List.mem_cons_self
    rw [List.modify_succ_cons, List.flatten_cons, List.flatten_cons, put_flat hw j c hj m q (fun r hr => h r (List.mem_cons_of_mem _ hr)), Nat.add_mul, Nat.one_mul, List.set_append_right _ _ (by (first | decide | exact Nat.le_trans (by assumption) (by decide) | lia | omega))]
    congr 2
    (first | decide | exact Nat.le_trans (by assumption) (by decide) | lia | omega)
theorem putM_rows {w : Nat} {m : List (List Nat)} (h : ∀ r ∈ m, r.length = w) (p : Nat × Nat) : ∀ r ∈ putM w m p, r.length = w := by
  intro r hr
  unfold putM at hr
  obtain ⟨i, hi, e⟩ := List.getElem_of_mem hr
  rw [List.getElem_modify] at e
  rw [← e]
  rw [List.length_modify] at hi
  split
  · rw [List.length_set]; exact h _ (List.getElem_mem hi)
  · exact h _ (List.getElem_mem hi)
theorem fold_flat {w : Nat} (hw : 0 < w) : ∀ (ps : List (Nat × Nat)) (m : List (List Nat)), (∀ r ∈ m, r.length = w) →
    (ps.foldl (putM w) m).flatten = ps.foldl (fun X p => X.set p.1 p.2) m.flatten ∧ (∀ r ∈ ps.foldl (putM w) m, r.length = w) ∧ (ps.foldl (putM w) m).length = m.length
  | [], m, h => ⟨rfl, h, rfl⟩
  | p :: ps, m, h => by
    have h1 := putM_rows h p
    obtain ⟨a, b, c⟩ := fold_flat hw ps (putM w m p) h1
    rw [List.foldl_cons, List.foldl_cons]
    refine ⟨?_, b, by rw [c]; unfold putM; rw [List.length_modify]⟩
    rw [a]
    congr 1
    unfold putM
    rw [put_flat hw _ _ (Nat.mod_lt _ hw) _ _ h, Nat.mul_comm, Nat.div_add_mod]
/-- the pieces beside the rows -/
noncomputable def Like : List (List Nat) → List (List Nat) → Prop
  | [], [] => True
  | p :: ps, m :: ms => (∃ k, m = p ++ List.replicate k 9) ∧ Like ps ms
  | _, _ => False
theorem Like.len : ∀ {ps ms : List (List Nat)}, Like ps ms → ps.length = ms.length
  | [], [], _ => rfl
  | p :: ps, m :: ms, h => by rw [List.length_cons, List.length_cons, Like.len h.2]
  | [], _ :: _, h => h.elim
  | _ :: _, [], h => h.elim
theorem Like.at : ∀ {ps ms : List (List Nat)}, Like ps ms → ∀ r, r < ms.length → ∃ p k, ps[r]? = some p ∧ ms[r]? = some (p ++ List.replicate k 9)
  | [], [], _, r, h => nomatch h
  | p :: ps, m :: ms, h, 0, _ => by obtain ⟨⟨k, e⟩, _⟩ := h; exact ⟨p, k, rfl, by rw [e]; rfl⟩
  | p :: ps, m :: ms, h, r + 1, hr => by simpa using Like.at h.2 r (by simpa using hr)
  | [], _ :: _, h, _, _ => h.elim
  | _ :: _, [], h, _, _ => h.elim
theorem pieces_like {w : Nat} (hw : 0 < w) : ∀ (f : Nat) (T : List Nat) (M : List (List Nat)) (k : Nat), T.length < f → (∀ r ∈ M, r.length = w) → M.flatten = T ++ List.replicate k 9 → M.length = T.length / w + 1 →
    Like (pcF w f T) (if 0 < T.length ∧ T.length % w = 0 then M.dropLast else M)
  | 0, T, M, k, h, _, _, _ => absurd h (Nat.not_lt_zero _)
  | f + 1, T, M, k, h, hM, hf, hl => by
    rw [pcF]
    cases M with
    | nil => simp at hl
    | cons m0 M1 =>
      have h0 := hM m0 List.mem_cons_self
      have hM1 : ∀ r ∈ M1, r.length = w := fun r hr => hM r (List.mem_cons_of_mem _ hr)
      rw [List.flatten_cons] at hf
      rw [List.length_cons] at hl
      rcases Nat.lt_trichotomy T.length w with q | q | q
      · rw [if_pos (by (first | decide | exact Nat.le_trans (by assumption) (by decide) | lia | omega)), Nat.div_eq_of_lt q] at *
        obtain rfl : M1 = [] := List.eq_nil_of_length_eq_zero (by (first | decide | exact Nat.le_trans (by assumption) (by decide) | lia | omega))
        rw [if_neg (by rw [Nat.mod_eq_of_lt q]; (first | decide | exact Nat.le_trans (by assumption) (by decide) | lia | omega))]
        refine ⟨⟨k, ?_⟩, trivial⟩
        rwa [List.flatten_nil, List.append_nil] at hf
      · rw [q, Nat.div_self hw] at hl
        rw [if_pos (by (first | decide | exact Nat.le_trans (by assumption) (by decide) | lia | omega)), if_pos (by rw [q, Nat.mod_self]; (first | decide | exact Nat.le_trans (by assumption) (by decide) | lia | omega))]
        obtain ⟨m1, rfl⟩ : ∃ m1, M1 = [m1] := List.length_eq_one_iff.mp (by (first | decide | exact Nat.le_trans (by assumption) (by decide) | lia | omega))
        refine ⟨⟨0, ?_⟩, trivial⟩
        have := congrArg (List.take w) hf
        rw [List.take_left' h0, List.take_left' q] at this
        rw [this, List.replicate_zero, List.append_nil]
      · rw [if_neg (by (first | decide | exact Nat.le_trans (by assumption) (by decide) | lia | omega))]
        have e1 : m0 = T.take w := by
          have := congrArg (List.take w) hf
          rw [List.take_left' h0, List.take_append_of_le_length (by (first | decide | exact Nat.le_trans (by assumption) (by decide) | lia | omega))] at this
          exact this
        have e2 : M1.flatten = T.drop w ++ List.replicate k 9 := by
          have := congrArg (List.drop w) hf
          rw [List.drop_left' h0, List.drop_append_of_le_length (by (first | decide | exact Nat.le_trans (by assumption) (by decide) | lia | omega))] at this
          exact this
        have hdl : (T.drop w).length = T.length - w := List.length_drop
        have e3 : M1.length = (T.drop w).length / w + 1 := by
          rw [hdl]
          have := Nat.sub_mul_div T.length w 1
          rw [Nat.mul_one] at this
          have h2 : 1 ≤ T.length / w := (Nat.le_div_iff_mul_le hw).mpr (by (first | decide | exact Nat.le_trans (by assumption) (by decide) | lia | omega))
          (first | decide | exact Nat.le_trans (by assumption) (by decide) | lia | omega)
        have ih := pieces_like hw f (T.drop w) M1 k (by (first | decide | exact Nat.le_trans (by assumption) (by decide) | lia | omega)) hM1 e2 e3
        have hmod : (T.length - w) % w = T.length % w := by
          have := Nat.sub_mul_mod (x := T.length) (k := 1) (n := w) (by (first | decide | exact Nat.le_trans (by assumption) (by decide) | lia | omega))
          rwa [Nat.mul_one] at this
        rw [hdl, hmod] at ih
        have hne : M1 ≠ [] := fun e => by rw [e] at e3; simp at e3
        by_cases hc : T.length % w = 0
        · rw [if_pos ⟨by (first | decide | exact Nat.le_trans (by assumption) (by decide) | lia | omega), hc⟩] at ih
          rw [if_pos ⟨by (first | decide | exact Nat.le_trans (by assumption) (by decide) | lia | omega), hc⟩, List.dropLast_cons_of_ne_nil hne]
          exact ⟨⟨0, by rw [e1, List.replicate_zero, List.append_nil]⟩, ih⟩
        · rw [if_neg (fun h => hc h.2)] at ih
          rw [if_neg (fun h => hc h.2)]
          exact ⟨⟨0, by rw [e1, List.replicate_zero, List.append_nil]⟩, ih⟩
theorem screen_like {n w : Nat} (hn : n ≤ 9) (hw : 0 < w) (l : List Nat) (f : Nat) (hf : (flatT n l 0).length < f) : Like (pcF w f (flatT n l 0)) (screenL n w l) := by
  have hl := flatT_len n hn l 0
  rw [Nat.zero_add] at hl
  have hm0 : ∀ r ∈ List.replicate (colL n l 0 / w + 1) (List.replicate w 9), r.length = w := fun r hr => by rw [(List.mem_replicate.mp hr).2, List.length_replicate]
  obtain ⟨a, b, c⟩ := fold_flat hw (fillL n l 0) _ hm0
  have hfl : (List.replicate (colL n l 0 / w + 1) (List.replicate w 9)).flatten = List.replicate ((colL n l 0 / w + 1) * w) 9 := List.flatten_replicate_replicate
  have hge : colL n l 0 ≤ (colL n l 0 / w + 1) * w := by
    have h1 := Nat.div_add_mod (colL n l 0) w
    have h2 := Nat.mod_lt (colL n l 0) hw
    rw [Nat.add_mul, Nat.one_mul, Nat.mul_comm]; (first | decide | exact Nat.le_trans (by assumption) (by decide) | lia | omega)
  have key := fill_flat n hn l [] ((colL n l 0 / w + 1) * w) (by rw [List.length_nil, Nat.zero_add]; exact hge)
  simp only [List.length_nil, List.nil_append, Nat.zero_add] at key
  rw [hfl, key] at a
  unfold screenL
  have := pieces_like hw f (flatT n l 0) _ _ hf b a (by rw [c, List.length_replicate, hl])
  rw [hl] at this
  exact this
theorem pcF_sub {w : Nat} (hw : 0 < w) : ∀ (f : Nat) (T : List Nat), T.length < f → ∀ p ∈ pcF w f T, (∀ c ∈ p, c ∈ T) ∧ p.length ≤ w
  | 0, T, h, _, _ => absurd h (Nat.not_lt_zero _)
  | f + 1, T, h, p, hp => by
    rw [pcF] at hp
    split at hp
    · rename_i h1
      rw [List.mem_singleton.mp hp]; exact ⟨fun c hc => hc, h1⟩
    · rename_i h1
      rcases List.mem_cons.mp hp with rfl | hp
      · exact ⟨fun c hc => List.mem_of_mem_take hc, by rw [List.length_take]; (first | decide | exact Nat.le_trans (by assumption) (by decide) | lia | omega)⟩
      · obtain ⟨a, b⟩ := pcF_sub hw f (T.drop w) (by rw [List.length_drop]; (first | decide | exact Nat.le_trans (by assumption) (by decide) | lia | omega)) p hp
        exact ⟨fun c hc => List.mem_of_mem_drop (a c hc), b⟩
theorem repls_app (a b : List Nat) : repls (a ++ b) = repls a ++ repls b := by
  unfold repls; rw [repl_app, repl_app, repl_app, repl_app]
theorem repls_one (c : Nat) : repls [c] = if isSp c then 38 :: nm c else [c] := by
  rw [repls_cons, show repls [] = [] from rfl, List.append_nil]
theorem strip_key : (∀ c ∈ okT, ([9, 13].contains c) = true → Unicode.isSpace c = true ∧ ¬ isSp c) ∧ (∀ c ∈ okT, ([9, 13].contains c) = false → ¬ isSp c → Unicode.isSpace c = false) ∧ Unicode.isSpace 59 = false := by decide +kernel
theorem strip_repls : ∀ (k : Nat) (p : List Nat), p.length = k → (∀ c ∈ p, c ∈ okT) → rstripL Unicode.isSpace (repls p) = repls (rstripL (fun c => [9, 13].contains c) p)
  | 0, p, hk, _ => by
    obtain rfl : p = [] := List.eq_nil_of_length_eq_zero hk
    rfl
  | k + 1, p, hk, hp => by
    rcases snoc_cases p with rfl | ⟨l, c, rfl⟩
    · cases hk
    · have hl : ∀ c ∈ l, c ∈ okT := fun d hd => hp d (List.mem_append_left _ hd)
      have hc := hp c (List.mem_append_right _ List.mem_cons_self)
      rw [repls_app, repls_one, rstrip_snocG]
      by_cases h : ([9, 13].contains c) = true
      · obtain ⟨h1, h2⟩ := strip_key.1 c hc h
        rw [if_pos h, if_neg h2, rstrip_snocG, if_pos h1]
        exact strip_repls k l (by rw [List.length_append] at hk; simpa using hk) hl
      · rw [if_neg h]
        have h' : ([9, 13].contains c) = false := by simpa using h
        by_cases hs : isSp c
        · rw [if_pos hs, nm, ← List.cons_append, ← List.append_assoc, rstrip_snocG, if_neg (by rw [strip_key.2.2]; decide), repls_app, repls_one, if_pos hs, nm, List.append_assoc, List.cons_append]
        · rw [if_neg hs, rstrip_snocG, if_neg (by rw [strip_key.2.1 c hc h' hs]; decide), repls_app, repls_one, if_neg hs]
/-- the line's columns are few -/
theorem colL_wdt (n : Nat) (hn : n ≤ 9) : ∀ (l : List Nat) (col : Nat), colL n l col ≤ col + wdt l
  | [], col => by simp [colL, wdt]
  | c :: l, col => by
    rw [colL, wdt]
    split
    · have := tabTo_le n col hn; have := colL_wdt n hn l (tabTo n col); (first | decide | exact Nat.le_trans (by assumption) (by decide) | lia | omega)
    · have := colL_wdt n hn l (col + 1); (first | decide | exact Nat.le_trans (by assumption) (by decide) | lia | omega)
theorem line_ok {l : List Nat} (h : LineOk l) : l.length ≤ 83 ∧ wdt (rstripL (fun c => [10].contains c) l) ≤ 83 ∧ ∀ c ∈ l, c < 1114112 := by
  obtain ⟨b, t, rfl, ⟨hb1, hb2⟩, ht⟩ := h
  have h1 := wdt_len b
  have key : ∀ t ∈ tails, wdt t ≤ 2 ∧ t.length ≤ 2 ∧ ∀ c ∈ t, c < 1114112 := by decide +kernel
  obtain ⟨k1, k2, k3⟩ := key t ht
  have hw : ∀ (k : Nat) (x : List Nat), wdt (x.take k) ≤ wdt x := by
    intro k
    induction k with
    | zero => intro x; rw [List.take_zero, wdt]; (first | decide | exact Nat.le_trans (by assumption) (by decide) | lia | omega)
    | succ k ih =>
      intro x
      cases x with
      | nil => exact Nat.le_refl _
      | cons c x => rw [List.take_succ_cons, wdt, wdt]; have := ih x; (first | decide | exact Nat.le_trans (by assumption) (by decide) | lia | omega)
  refine ⟨by rw [List.length_append]; (first | decide | exact Nat.le_trans (by assumption) (by decide) | lia | omega), ?_, ?_⟩
  · have := hw ((b ++ t).length - ((b ++ t).reverse.takeWhile fun c => [10].contains c).length) (b ++ t)
    rw [wdt_app] at this
    unfold rstripL
    (first | decide | exact Nat.le_trans (by assumption) (by decide) | lia | omega)
  · intro c hc
    rcases List.mem_append.mp hc with hc | hc
    · have key : ∀ c ∈ okC, c < 1114112 := by decide +kernel
      exact key c (hb2 c hc)
    · exact k3 c hc
theorem screen_rows {n w : Nat} (hw : 0 < w) (l : List Nat) : ∀ r ∈ screenL n w l, r.length = w := by
  have hm0 : ∀ r ∈ List.replicate (colL n l 0 / w + 1) (List.replicate w 9), r.length = w := fun r hr => by rw [(List.mem_replicate.mp hr).2, List.length_replicate]
  obtain ⟨_, b, _⟩ := fold_flat hw (fillL n l 0) _ hm0
  intro r hr
  unfold screenL at hr
  split at hr
  · exact b r ((List.dropLast_sublist _).subset hr)
  · exact b r hr
/-- what is asked of one line -/
theorem line_law {n w : Nat} (hn : n ≤ 9) (hw : 0 < w) {l : List Nat} (h : LineOk l) :
    (∀ c ∈ expT (n : Int) l, c ≠ 0 ∧ c ≠ 1) ∧ (expT (n : Int) l).length ≤ 83 ∧ (pcF w 100 (expT (n : Int) l)).length = (screenL n w (rstripL (fun c => [10].contains c) l)).length ∧
    ∀ r, r < (screenL n w (rstripL (fun c => [10].contains c) l)).length → ∃ p m, (pcF w 100 (expT (n : Int) l))[r]? = some p ∧ (screenL n w (rstripL (fun c => [10].contains c) l))[r]? = some m ∧ p.length ≤ w ∧ m.length = w ∧
      rstripL Unicode.isSpace (repls p) = repls (rstripL (fun c => [9, 13].contains c) m) := by
  obtain ⟨e1, e2⟩ := line_exp n h
  obtain ⟨_, o2, _⟩ := line_ok h
  have hT := flatT_ok n _ 0 e2
  have hlen := flatT_len n hn (rstripL (fun c => [10].contains c) l) 0
  have hcol := colL_wdt n hn (rstripL (fun c => [10].contains c) l) 0
  rw [e1]
  generalize rstripL (fun c => [10].contains c) l = l' at *
  have hl83 : (flatT n l' 0).length ≤ 83 := by (first | decide | exact Nat.le_trans (by assumption) (by decide) | lia | omega)
  have lk := screen_like hn hw l' 100 (by (first | decide | exact Nat.le_trans (by assumption) (by decide) | lia | omega))
  refine ⟨fun c hc => ?_, hl83, lk.len, fun r hr => ?_⟩
  · have key : ∀ c ∈ okT, c ≠ 0 ∧ c ≠ 1 := by decide +kernel
    exact key c (hT c hc)
  · obtain ⟨p, k, hp, hm⟩ := lk.at r hr
    obtain ⟨s1, s2⟩ := pcF_sub hw 100 _ (by (first | decide | exact Nat.le_trans (by assumption) (by decide) | lia | omega)) p (List.mem_of_getElem? hp)
    refine ⟨p, _, hp, hm, s2, ?_, ?_⟩
    · exact screen_rows hw l' _ (List.mem_of_getElem? hm)
    · rw [rstrip_rep _ 9 (by decide) p k]
      exact strip_repls _ p rfl fun c hc => hT c (s1 c hc)
theorem screen_len {n w : Nat} (hn : n ≤ 9) (hw : 0 < w) {l : List Nat} (h : LineOk l) : (screenL n w (rstripL (fun c => [10].contains c) l)).length ≤ 84 := by
  obtain ⟨_, h2, h3, _⟩ := line_law hn hw h
  rw [← h3]
  exact Nat.le_trans (pcF_len w hw _ _) (by (first | decide | exact Nat.le_trans (by assumption) (by decide) | lia | omega))
theorem cutL_mid (l : List Nat) (a b : Nat) (hab : a ≤ b) (hb : b ≤ l.length) : cutL l (some (a : Int)) (some (b : Int)) = (l.drop a).take (b - a) := by
  unfold cutL
  simp only [Option.elim, clipAt_nat]
  rw [Nat.min_eq_left hb, Nat.min_eq_left (Nat.le_trans hab hb)]
noncomputable def headT (i n : List Nat) : List Nat := [60, 116, 100, 32, 99, 108, 97, 115, 115, 61, 34, 100, 105, 102, 102, 95, 104, 101, 97, 100, 101, 114, 34] ++ i ++ [62] ++ n ++ [60, 47, 116, 100, 62, 60, 116, 100, 32, 110, 111, 119, 114, 97, 112, 61, 34, 110, 111, 119, 114, 97, 112, 34, 62]
noncomputable def endT : List Nat := [60, 47, 116, 100, 62]
theorem cell_head (i n t : List Nat) : cellT i n t = headT i n ++ (t ++ endT) := by
  unfold cellT headT endT; simp only [List.append_assoc]
theorem cell_len (i n t : List Nat) : (cellT i n t).length = (headT i n).length + t.length + 5 := by
  rw [cell_head, List.length_append, List.length_append]; show _ + (_ + 5) = _; (first | decide | exact Nat.le_trans (by assumption) (by decide) | lia | omega)
theorem cell_cut1 (i n t : List Nat) : (cellT i n t).take (headT i n).length = headT i n := by rw [cell_head, List.take_left]
theorem cell_cut2 (i n t : List Nat) : (cellT i n t).drop ((headT i n).length + t.length) = endT := by
  rw [cell_head, ← List.append_assoc]
  exact List.drop_left' (by rw [List.length_append])
theorem cell_cut3 (i n t : List Nat) : ((cellT i n t).drop (headT i n).length).take t.length = t := by
  rw [cell_head, List.drop_left, List.take_left]
theorem deeper_gen2 {body : List Stmt} {e : Env} {fs : List Env} {Q : Fl → Own → Prop} (hh : A.handled = none) (hfr : A.frames = some fs) (h : ∀ A' : Around, A'.handled = none → A'.depth = A.depth + 1 → A'.units = A.units + 3 → A'.frames = some (e :: fs) → SXs W A' env body own Q) : SXs W (A.deeper e) env body own Q :=
  h _ hh rfl rfl (Around.frames_deeper hfr)
theorem SE_pure {e : Expr} {a : V} {Q : V → Own → Prop} (h : SE W A env e own fun a' o => a' = a ∧ o = own) (q : Q a own) : SE W A env e own Q := SG.mono h (by rintro _ _ ⟨rfl, rfl⟩; exact q)
theorem call_len_tup {l : List PyData} {Q : V → Own → Prop} (hz : l.length ≤ sizeLine) (h : Q (.int l.length) own) : SL W A RV (fun vs => call (.builtin "len") vs) [.tup l] own Q := SL1 fun fz s v H ht r => by
  obtain ⟨a, vs, rfl, hl, rs⟩ := r.tup_inv
  have hlen := rs.length
  rw [List.length_map] at hlen
  have hsz : vs.toList.length = vs.size := Array.length_toList
  rw [sizeLine_eq] at hz
  refine PyProof.Rows.len_tuple (IsTuple_keep hl H.has) (by (first | decide | exact Nat.le_trans (by assumption) (by decide) | lia | omega)) ?_
  rw [show vs.size = l.length by (first | decide | exact Nat.le_trans (by assumption) (by decide) | lia | omega)]
  exact at_tok H _ (.dat (.int _ _)) h
theorem cut_two (ns : List Int) : cutL (ns.map PyData.int) (some 2) none = (ns.drop 2).map PyData.int := by
  unfold cutL
  simp only [Option.elim]
  rw [show (2 : Int) = ((2 : Nat) : Int) from rfl, clipAt_nat, List.length_map, List.map_drop]
  rcases Nat.le_total 2 ns.length with h | h
  · rw [Nat.min_eq_left h, List.take_of_length_le (by rw [List.length_drop, List.length_map]; (first | decide | exact Nat.le_trans (by assumption) (by decide) | lia | omega))]
  · rw [Nat.min_eq_right h, List.drop_of_length_le (by rw [List.length_map]; (first | decide | exact Nat.le_trans (by assumption) (by decide) | lia | omega)), List.drop_of_length_le (by rw [List.length_map]; (first | decide | exact Nat.le_trans (by assumption) (by decide) | lia | omega))]; simp
theorem first_is {ns : List Int} {a : Int} {r : List Int} (h : ns = a :: r) : (ns.map PyData.int)[place 0 (ns.map PyData.int).length]? = some (.int a) := by subst h; rfl
theorem second_is {ns : List Int} {a b : Int} {r : List Int} (h : ns = a :: b :: r) : (ns.map PyData.int)[place 1 (ns.map PyData.int).length]? = some (.int b) := by subst h; rfl
noncomputable def stopsN (ns : List Int) : Nat := match ns with | [] => 4 | a :: _ => (a % 10).toNat
noncomputable def wideN (ns : List Int) : Nat := match ns with | _ :: b :: _ => (b % 6 + 1).toNat | _ => 3
noncomputable def drawsN (ns : List Int) : List Int := if 2 < ns.length then ns.drop 2 else [0, 4, 11, 1, 6]
theorem stopsN_le (ns : List Int) : stopsN ns ≤ 9 := by
  unfold stopsN; split
  · decide
  · (first | decide | exact Nat.le_trans (by assumption) (by decide) | lia | omega)
theorem wideN_le (ns : List Int) : 0 < wideN ns ∧ wideN ns ≤ 6 := by
  unfold wideN; split
  · (first | decide | exact Nat.le_trans (by assumption) (by decide) | lia | omega)
  · decide
noncomputable abbrev attrP (n w : Int) : List (Str × V) := [(Str.ofString "_tabsize", V.int n), (Str.ofString "_wrapcolumn", V.int w), (Str.ofString "_linejunk", V.none), (Str.ofString "_charjunk", V.ref 29), (Str.ofString "_prefix", V.lst [.str (S [102, 114, 111, 109, 50, 95]), .str (S [116, 111, 50, 95])])]


set_option maxHeartbeats 8000000 in
theorem turn_cell (hK : K07 W) {L x dx : Addr} {tq : Str} {ts : Scope} {tc : Value} {tb : List Stmt} (hT : txtO (W.K.lookup 139) = some (tq, ts, tc, tb)) (hh : A.handled = none) (hd : A.depth < 330) (hu : A.units < 200) (hfr : A.frames = some [envX tq ts L 139 tc []])
    {n w j k r : Nat} (hj : j < 2) (hk : k < 1000) {pf : List Nat} (hpf : ([PyData.str (S [102, 114, 111, 109, 50, 95]), PyData.str (S [116, 111, 50, 95])] : List PyData)[place (j : Int) 2]? = some (.str (S pf))) (hpl : pf.length ≤ 6) {sd td : V} {pcs rws : List PyData} {p m : List Nat}
    (hr1 : r < pcs.length) (hr2 : r < rws.length) (hz1 : pcs.length ≤ 1000) (hz2 : rws.length ≤ 1000) (hp : pcs[r]? = some (.tuple [if r = 0 then .int (k + 1) else .str (S [62]), .str (S p)])) (hm : rws[r]? = some (.list (m.map fun c => strD [c]))) (hpz : p.length ≤ 40) (hmz : m.length ≤ 40)
    (heq : rstripL Unicode.isSpace (repls p) = repls (rstripL (fun c => [9, 13].contains c) m)) {Q : Fl → Own → Prop}
    (hQ : ∀ num nme bod : List Nat, Q .next ((x, Ob.obj (instObj 111 dx)) :: (dx, Ob.att (attrP n w)) :: (L, Ob.ns [(Str.ofString "stops", .int (n : Nat)), (Str.ofString "wide", .int (w : Nat)), (Str.ofString "sides", sd), (Str.ofString "sheet", .ref x), (Str.ofString "told", td), (Str.ofString "side", .int (j : Nat)), (Str.ofString "k", .int (k : Nat)), (Str.ofString "pieces", .lst pcs), (Str.ofString "rows", .lst rws), (Str.ofString "r", .int (r : Nat)), (Str.ofString "number", .str (S num)), (Str.ofString "name", .str (S nme)), (Str.ofString "head", .str (S (headT nme num))), (Str.ofString "cell", .str (S (cellT nme num bod)))]) :: own)) :
    SXs W A (envX tq ts L 139 tc []) (forB (nthS (forB (nthS (forB (nthS tb 8)) 1)) 4)) ((x, Ob.obj (instObj 111 dx)) :: (dx, Ob.att (attrP n w)) :: (L, Ob.ns [(Str.ofString "stops", .int (n : Nat)), (Str.ofString "wide", .int (w : Nat)), (Str.ofString "sides", sd), (Str.ofString "sheet", .ref x), (Str.ofString "told", td), (Str.ofString "side", .int (j : Nat)), (Str.ofString "k", .int (k : Nat)), (Str.ofString "pieces", .lst pcs), (Str.ofString "rows", .lst rws), (Str.ofString "r", .int (r : Nat))]) :: own) Q := by
  rw [K_of (a := 139) hK rfl] at hT
  change some (_, _, _, _) = _ at hT
  cases hT
  dsimp only [lawS, fdB, fdS, clB, PySem.Challenge.pw_dm0066_07, nthS, forT, forI, forB, forP, ifT, ifB, ifE, ifP]
  have hrec : recursionLimit = 1000 := rfl
  have hcline : cLine = 9900 := rfl
  have b1 : -((2 : Nat) : Int) ≤ (j : Int) := by (first | decide | exact Nat.le_trans (by assumption) (by decide) | lia | omega)
  have b2 : (j : Int) < ((2 : Nat) : Int) := by (first | decide | exact Nat.le_trans (by assumption) (by decide) | lia | omega)
  have hdl : (decT ((k : Int) + 1)).length ≤ 4 := by
    have := figs_len (e := 4) (k := ((k : Int) + 1).natAbs) (by decide) (by (first | decide | exact Nat.le_trans (by assumption) (by decide) | lia | omega))
    rw [decT_figs, if_neg (by (first | decide | exact Nat.le_trans (by assumption) (by decide) | lia | omega))]; exact this
  obtain ⟨num, hnum⟩ : ∃ num : List Nat, num = if r = 0 then decT ((k : Int) + 1) else [62] := ⟨_, rfl⟩
  obtain ⟨nme, hnme⟩ : ∃ nme : List Nat, nme = if r = 0 then idT pf (decT ((k : Int) + 1)) else [] := ⟨_, rfl⟩
  have hnl : num.length ≤ 4 := by
    rw [hnum]; split
    · exact hdl
    · decide
  have hnl2 : nme.length ≤ 20 := by
    rw [hnme]; split
    · unfold idT; simp only [List.length_append, List.length_cons, List.length_nil]; (first | decide | exact Nat.le_trans (by assumption) (by decide) | lia | omega)
    · decide
  refine SXs_cons (SX_Assign (SE_pure (a := V.str (S num)) ?_ ?_))
  · refine SE_IfExp ?_
    refine ST_Compare ?_
    refine SE_Name ?_ (by decide +kernel)
    refine SN_loc rfl rfl (by (with_reducible repeat first | exact List.mem_cons_self | refine List.mem_cons_of_mem _ ?_ | assumption | exact mem_mid' | exact mem_mid (by assumption))) (by with_reducible rfl) (by (with_reducible repeat first | exact List.mem_cons_self | refine List.mem_cons_of_mem _ ?_ | assumption | exact mem_mid' | exact mem_mid (by assumption))) ?_
    refine SE_int ?_
    with_reducible refine cmp_gt ?_
    with_reducible refine tr_bool ?_
    refine ite_dec (fun h => ?_) (fun h => ?_)
    · refine SE_strL (by (first | exact l07_0 | exact l07_1 | exact l07_2 | exact l07_3 | exact l07_4 | exact l07_5 | exact l07_6 | exact l07_7 | exact l07_8 | exact l07_9 | exact l07_10 | exact l07_11 | exact l07_12 | exact l07_13 | exact l07_14 | exact l07_15 | exact l07_16 | exact l07_17 | exact l07_18 | exact l07_19 | exact l07_20 | exact l07_21 | exact l07_22 | exact l07_23 | exact l07_24 | exact l07_25 | exact l07_26 | exact l07_27 | exact l07_28 | exact l07_29 | exact l07_30 | exact l07_31 | exact l07_32 | exact l07_33 | exact l07_34 | exact l07_35 | exact l07_36)) ?_
      exact ⟨by rw [hnum, if_neg (by (first | decide | exact Nat.le_trans (by assumption) (by decide) | lia | omega))], rfl⟩
    · refine SE_Call ?_
      refine SE_Name ?_ (by decide +kernel)
      refine SN_builtin rfl rfl rfl rfl (nsIn_of (by assumption) rfl) rfl (by decide +kernel) ?_
      with_reducible refine ⟨_, rfl, ?_⟩
      refine SEs_cons ?_
      refine SE_BinOp ?_
      refine SE_Name ?_ (by decide +kernel)
      refine SN_loc rfl rfl (by (with_reducible repeat first | exact List.mem_cons_self | refine List.mem_cons_of_mem _ ?_ | assumption | exact mem_mid' | exact mem_mid (by assumption))) (by with_reducible rfl) (by (with_reducible repeat first | exact List.mem_cons_self | refine List.mem_cons_of_mem _ ?_ | assumption | exact mem_mid' | exact mem_mid (by assumption))) ?_
      refine SE_int ?_
      with_reducible refine op_add ?_
      refine SEs_nil ?_
      with_reducible refine ⟨kp_type, ?_⟩
      refine call_strI (n := (k : Int) + 1) ?_ (by (first | decide | exact Nat.le_trans (by assumption) (by decide) | lia | omega)) ?_
      · rw [show ((k : Int) + 1).natAbs = k + 1 by (first | decide | exact Nat.le_trans (by assumption) (by decide) | lia | omega)]
        exact (Nat.log2_lt (by (first | decide | exact Nat.le_trans (by assumption) (by decide) | lia | omega))).mpr (Nat.lt_of_lt_of_le (show k + 1 < 2 ^ 10 by (first | decide | exact Nat.le_trans (by assumption) (by decide) | lia | omega)) (Nat.pow_le_pow_right (by decide) (by decide)))
      · exact ⟨by rw [hnum, if_pos (by (first | decide | exact Nat.le_trans (by assumption) (by decide) | lia | omega))], rfl⟩
  refine SS_loc rfl rfl (by (with_reducible repeat first | exact List.mem_cons_self | refine List.mem_cons_of_mem _ ?_ | assumption | exact mem_mid' | exact mem_mid (by assumption))) (by with_reducible rfl) (by (with_reducible repeat first | exact Put.here | exact Put.new | apply Put.there)) (by ((first | (dsimp only [List.map_cons, List.map_nil]; decide +kernel) | (simp only [List.map_cons, List.map_nil]; decide +kernel)))) (by (with_reducible repeat first | exact Upd.here | exact Upd.mid | apply Upd.there)) ?_
  refine SXs_cons (SX_Assign (SE_pure (a := V.str (S nme)) ?_ ?_))
  · refine SE_IfExp ?_
    refine ST_Compare ?_
    refine SE_Name ?_ (by decide +kernel)
    refine SN_loc rfl rfl (by (with_reducible repeat first | exact List.mem_cons_self | refine List.mem_cons_of_mem _ ?_ | assumption | exact mem_mid' | exact mem_mid (by assumption))) (by with_reducible rfl) (by (with_reducible repeat first | exact List.mem_cons_self | refine List.mem_cons_of_mem _ ?_ | assumption | exact mem_mid' | exact mem_mid (by assumption))) ?_
    refine SE_int ?_
    with_reducible refine cmp_gt ?_
    with_reducible refine tr_bool ?_
    refine ite_dec (fun h => ?_) (fun h => ?_)
    · refine SE_strL (by (first | exact l07_0 | exact l07_1 | exact l07_2 | exact l07_3 | exact l07_4 | exact l07_5 | exact l07_6 | exact l07_7 | exact l07_8 | exact l07_9 | exact l07_10 | exact l07_11 | exact l07_12 | exact l07_13 | exact l07_14 | exact l07_15 | exact l07_16 | exact l07_17 | exact l07_18 | exact l07_19 | exact l07_20 | exact l07_21 | exact l07_22 | exact l07_23 | exact l07_24 | exact l07_25 | exact l07_26 | exact l07_27 | exact l07_28 | exact l07_29 | exact l07_30 | exact l07_31 | exact l07_32 | exact l07_33 | exact l07_34 | exact l07_35 | exact l07_36)) ?_
      exact ⟨by rw [hnme, if_neg (by (first | decide | exact Nat.le_trans (by assumption) (by decide) | lia | omega))], rfl⟩
    · refine SE_BinOp ?_
      refine SE_BinOp ?_
      refine SE_BinOp ?_
      refine SE_strL (by (first | exact l07_0 | exact l07_1 | exact l07_2 | exact l07_3 | exact l07_4 | exact l07_5 | exact l07_6 | exact l07_7 | exact l07_8 | exact l07_9 | exact l07_10 | exact l07_11 | exact l07_12 | exact l07_13 | exact l07_14 | exact l07_15 | exact l07_16 | exact l07_17 | exact l07_18 | exact l07_19 | exact l07_20 | exact l07_21 | exact l07_22 | exact l07_23 | exact l07_24 | exact l07_25 | exact l07_26 | exact l07_27 | exact l07_28 | exact l07_29 | exact l07_30 | exact l07_31 | exact l07_32 | exact l07_33 | exact l07_34 | exact l07_35 | exact l07_36)) ?_
      refine SE_Subscript ?_
      refine SE_ListF ?_
      refine SEs_cons ?_
      refine SE_strL (by (first | exact l07_0 | exact l07_1 | exact l07_2 | exact l07_3 | exact l07_4 | exact l07_5 | exact l07_6 | exact l07_7 | exact l07_8 | exact l07_9 | exact l07_10 | exact l07_11 | exact l07_12 | exact l07_13 | exact l07_14 | exact l07_15 | exact l07_16 | exact l07_17 | exact l07_18 | exact l07_19 | exact l07_20 | exact l07_21 | exact l07_22 | exact l07_23 | exact l07_24 | exact l07_25 | exact l07_26 | exact l07_27 | exact l07_28 | exact l07_29 | exact l07_30 | exact l07_31 | exact l07_32 | exact l07_33 | exact l07_34 | exact l07_35 | exact l07_36)) ?_
      refine SEs_cons ?_
      refine SE_strL (by (first | exact l07_0 | exact l07_1 | exact l07_2 | exact l07_3 | exact l07_4 | exact l07_5 | exact l07_6 | exact l07_7 | exact l07_8 | exact l07_9 | exact l07_10 | exact l07_11 | exact l07_12 | exact l07_13 | exact l07_14 | exact l07_15 | exact l07_16 | exact l07_17 | exact l07_18 | exact l07_19 | exact l07_20 | exact l07_21 | exact l07_22 | exact l07_23 | exact l07_24 | exact l07_25 | exact l07_26 | exact l07_27 | exact l07_28 | exact l07_29 | exact l07_30 | exact l07_31 | exact l07_32 | exact l07_33 | exact l07_34 | exact l07_35 | exact l07_36)) ?_
      refine SEs_nil ?_
      with_reducible refine ⟨_, by with_reducible ((first | exact AllDat.map _ | repeat first | exact AllDat.nil | with_reducible apply AllDat.cons)), by ((rw [sizeLine_eq]; simp)), ?_⟩
      refine SE_Name ?_ (by decide +kernel)
      refine SN_loc rfl rfl (by (with_reducible repeat first | exact List.mem_cons_self | refine List.mem_cons_of_mem _ ?_ | assumption | exact mem_mid' | exact mem_mid (by assumption))) (by with_reducible rfl) (by (with_reducible repeat first | exact List.mem_cons_self | refine List.mem_cons_of_mem _ ?_ | assumption | exact mem_mid' | exact mem_mid (by assumption))) ?_
      refine sub_lst (d := .str (S pf)) b1 b2 (by ((rw [sizeLine_eq]; simp))) hpf ?_
      with_reducible refine op_catS (by ((rw [sizeLine_eq]; (try simp only [List.length_append, List.length_cons, List.length_nil, List.length_map]); (first | decide | exact Nat.le_trans (by assumption) (by decide) | lia | omega)))) ?_
      refine SE_Name ?_ (by decide +kernel)
      refine SN_loc rfl rfl (by (with_reducible repeat first | exact List.mem_cons_self | refine List.mem_cons_of_mem _ ?_ | assumption | exact mem_mid' | exact mem_mid (by assumption))) (by with_reducible rfl) (by (with_reducible repeat first | exact List.mem_cons_self | refine List.mem_cons_of_mem _ ?_ | assumption | exact mem_mid' | exact mem_mid (by assumption))) ?_
      with_reducible refine op_catS (by ((rw [sizeLine_eq]; (try simp only [List.length_append, List.length_cons, List.length_nil, List.length_map]); (first | decide | exact Nat.le_trans (by assumption) (by decide) | lia | omega)))) ?_
      refine SE_strL (by (first | exact l07_0 | exact l07_1 | exact l07_2 | exact l07_3 | exact l07_4 | exact l07_5 | exact l07_6 | exact l07_7 | exact l07_8 | exact l07_9 | exact l07_10 | exact l07_11 | exact l07_12 | exact l07_13 | exact l07_14 | exact l07_15 | exact l07_16 | exact l07_17 | exact l07_18 | exact l07_19 | exact l07_20 | exact l07_21 | exact l07_22 | exact l07_23 | exact l07_24 | exact l07_25 | exact l07_26 | exact l07_27 | exact l07_28 | exact l07_29 | exact l07_30 | exact l07_31 | exact l07_32 | exact l07_33 | exact l07_34 | exact l07_35 | exact l07_36)) ?_
      with_reducible refine op_catS (by ((rw [sizeLine_eq]; (try simp only [List.length_append, List.length_cons, List.length_nil, List.length_map]); (first | decide | exact Nat.le_trans (by assumption) (by decide) | lia | omega)))) ?_
      refine ⟨?_, rfl⟩
      rw [hnme, hnum, if_pos (by (first | decide | exact Nat.le_trans (by assumption) (by decide) | lia | omega)), if_pos (by (first | decide | exact Nat.le_trans (by assumption) (by decide) | lia | omega))]; rfl
  refine SS_loc rfl rfl (by (with_reducible repeat first | exact List.mem_cons_self | refine List.mem_cons_of_mem _ ?_ | assumption | exact mem_mid' | exact mem_mid (by assumption))) (by with_reducible rfl) (by (with_reducible repeat first | exact Put.here | exact Put.new | apply Put.there)) (by ((first | (dsimp only [List.map_cons, List.map_nil]; decide +kernel) | (simp only [List.map_cons, List.map_nil]; decide +kernel)))) (by (with_reducible repeat first | exact Upd.here | exact Upd.mid | apply Upd.there)) ?_
  refine SXs_cons (SX_Assign (SE_pure (a := V.str (S (headT nme num))) ?_ ?_))
  · refine SE_BinOp ?_
    refine SE_BinOp ?_
    refine SE_BinOp ?_
    refine SE_BinOp ?_
    refine SE_strL (by (first | exact l07_0 | exact l07_1 | exact l07_2 | exact l07_3 | exact l07_4 | exact l07_5 | exact l07_6 | exact l07_7 | exact l07_8 | exact l07_9 | exact l07_10 | exact l07_11 | exact l07_12 | exact l07_13 | exact l07_14 | exact l07_15 | exact l07_16 | exact l07_17 | exact l07_18 | exact l07_19 | exact l07_20 | exact l07_21 | exact l07_22 | exact l07_23 | exact l07_24 | exact l07_25 | exact l07_26 | exact l07_27 | exact l07_28 | exact l07_29 | exact l07_30 | exact l07_31 | exact l07_32 | exact l07_33 | exact l07_34 | exact l07_35 | exact l07_36)) ?_
    refine SE_Name ?_ (by decide +kernel)
    refine SN_loc rfl rfl (by (with_reducible repeat first | exact List.mem_cons_self | refine List.mem_cons_of_mem _ ?_ | assumption | exact mem_mid' | exact mem_mid (by assumption))) (by with_reducible rfl) (by (with_reducible repeat first | exact List.mem_cons_self | refine List.mem_cons_of_mem _ ?_ | assumption | exact mem_mid' | exact mem_mid (by assumption))) ?_
    with_reducible refine op_catS (by ((rw [sizeLine_eq]; (try simp only [List.length_append, List.length_cons, List.length_nil, List.length_map]); (first | decide | exact Nat.le_trans (by assumption) (by decide) | lia | omega)))) ?_
    refine SE_strL (by (first | exact l07_0 | exact l07_1 | exact l07_2 | exact l07_3 | exact l07_4 | exact l07_5 | exact l07_6 | exact l07_7 | exact l07_8 | exact l07_9 | exact l07_10 | exact l07_11 | exact l07_12 | exact l07_13 | exact l07_14 | exact l07_15 | exact l07_16 | exact l07_17 | exact l07_18 | exact l07_19 | exact l07_20 | exact l07_21 | exact l07_22 | exact l07_23 | exact l07_24 | exact l07_25 | exact l07_26 | exact l07_27 | exact l07_28 | exact l07_29 | exact l07_30 | exact l07_31 | exact l07_32 | exact l07_33 | exact l07_34 | exact l07_35 | exact l07_36)) ?_
    with_reducible refine op_catS (by ((rw [sizeLine_eq]; (try simp only [List.length_append, List.length_cons, List.length_nil, List.length_map]); (first | decide | exact Nat.le_trans (by assumption) (by decide) | lia | omega)))) ?_
    refine SE_Name ?_ (by decide +kernel)
    refine SN_loc rfl rfl (by (with_reducible repeat first | exact List.mem_cons_self | refine List.mem_cons_of_mem _ ?_ | assumption | exact mem_mid' | exact mem_mid (by assumption))) (by with_reducible rfl) (by (with_reducible repeat first | exact List.mem_cons_self | refine List.mem_cons_of_mem _ ?_ | assumption | exact mem_mid' | exact mem_mid (by assumption))) ?_
    with_reducible refine op_catS (by ((rw [sizeLine_eq]; (try simp only [List.length_append, List.length_cons, List.length_nil, List.length_map]); (first | decide | exact Nat.le_trans (by assumption) (by decide) | lia | omega)))) ?_
    refine SE_strL (by (first | exact l07_0 | exact l07_1 | exact l07_2 | exact l07_3 | exact l07_4 | exact l07_5 | exact l07_6 | exact l07_7 | exact l07_8 | exact l07_9 | exact l07_10 | exact l07_11 | exact l07_12 | exact l07_13 | exact l07_14 | exact l07_15 | exact l07_16 | exact l07_17 | exact l07_18 | exact l07_19 | exact l07_20 | exact l07_21 | exact l07_22 | exact l07_23 | exact l07_24 | exact l07_25 | exact l07_26 | exact l07_27 | exact l07_28 | exact l07_29 | exact l07_30 | exact l07_31 | exact l07_32 | exact l07_33 | exact l07_34 | exact l07_35 | exact l07_36)) ?_
    with_reducible refine op_catS (by ((rw [sizeLine_eq]; (try simp only [List.length_append, List.length_cons, List.length_nil, List.length_map]); (first | decide | exact Nat.le_trans (by assumption) (by decide) | lia | omega)))) ?_
    exact ⟨rfl, rfl⟩
  refine SS_loc rfl rfl (by (with_reducible repeat first | exact List.mem_cons_self | refine List.mem_cons_of_mem _ ?_ | assumption | exact mem_mid' | exact mem_mid (by assumption))) (by with_reducible rfl) (by (with_reducible repeat first | exact Put.here | exact Put.new | apply Put.there)) (by ((first | (dsimp only [List.map_cons, List.map_nil]; decide +kernel) | (simp only [List.map_cons, List.map_nil]; decide +kernel)))) (by (with_reducible repeat first | exact Upd.here | exact Upd.mid | apply Upd.there)) ?_
  have hp0 : pcs[place (r : Int) pcs.length]? = some (.tuple [if r = 0 then .int (k + 1) else .str (S [62]), .str (S p)]) := by unfold place; rw [if_neg (by (first | decide | exact Nat.le_trans (by assumption) (by decide) | lia | omega)), Int.toNat_natCast]; exact hp
  have hm0 : rws[place (r : Int) rws.length]? = some (.list (m.map fun c => strD [c])) := by unfold place; rw [if_neg (by (first | decide | exact Nat.le_trans (by assumption) (by decide) | lia | omega)), Int.toNat_natCast]; exact hm
  obtain ⟨q, hq⟩ : ∃ q : List Nat, q = rstripL (fun c => [9, 13].contains c) m := ⟨_, rfl⟩
  rw [← hq] at heq
  have hql : q.length ≤ 40 := by rw [hq]; have := rstripL_len (fun c => [9, 13].contains c) m; (first | decide | exact Nat.le_trans (by assumption) (by decide) | lia | omega)
  have hbl := repls_len q
  refine SXs_cons (SX_Assign (SE_pure (a := V.str (S (cellT nme num (repls q)))) ?_ ?_))
  · refine SE_Meth ?_
    refine SE_Name ?_ (by decide +kernel)
    refine SN_loc rfl rfl (by (with_reducible repeat first | exact List.mem_cons_self | refine List.mem_cons_of_mem _ ?_ | assumption | exact mem_mid' | exact mem_mid (by assumption))) (by with_reducible rfl) (by (with_reducible repeat first | exact List.mem_cons_self | refine List.mem_cons_of_mem _ ?_ | assumption | exact mem_mid' | exact mem_mid (by assumption))) ?_
    refine mth_inst (cls07 hK) (by (with_reducible repeat first | exact List.mem_cons_self | refine List.mem_cons_of_mem _ ?_ | assumption | exact mem_mid' | exact mem_mid (by assumption))) (by (with_reducible repeat first | exact List.mem_cons_self | refine List.mem_cons_of_mem _ ?_ | assumption | exact mem_mid' | exact mem_mid (by assumption))) (by rw [hK]; rfl) (by rw [hK]; rfl) (by ((first | (dsimp only [List.map_cons, List.map_nil]; decide +kernel) | (simp only [List.map_cons, List.map_nil]; decide +kernel)))) ?_
    refine SEs_cons ?_
    refine SE_Name ?_ (by decide +kernel)
    refine SN_loc rfl rfl (by (with_reducible repeat first | exact List.mem_cons_self | refine List.mem_cons_of_mem _ ?_ | assumption | exact mem_mid' | exact mem_mid (by assumption))) (by with_reducible rfl) (by (with_reducible repeat first | exact List.mem_cons_self | refine List.mem_cons_of_mem _ ?_ | assumption | exact mem_mid' | exact mem_mid (by assumption))) ?_
    refine SEs_cons ?_
    refine SE_bool ?_
    refine SEs_cons ?_
    refine SE_Subscript ?_
    refine SE_Subscript ?_
    refine SE_Name ?_ (by decide +kernel)
    refine SN_loc rfl rfl (by (with_reducible repeat first | exact List.mem_cons_self | refine List.mem_cons_of_mem _ ?_ | assumption | exact mem_mid' | exact mem_mid (by assumption))) (by with_reducible rfl) (by (with_reducible repeat first | exact List.mem_cons_self | refine List.mem_cons_of_mem _ ?_ | assumption | exact mem_mid' | exact mem_mid (by assumption))) ?_
    refine SE_Name ?_ (by decide +kernel)
    refine SN_loc rfl rfl (by (with_reducible repeat first | exact List.mem_cons_self | refine List.mem_cons_of_mem _ ?_ | assumption | exact mem_mid' | exact mem_mid (by assumption))) (by with_reducible rfl) (by (with_reducible repeat first | exact List.mem_cons_self | refine List.mem_cons_of_mem _ ?_ | assumption | exact mem_mid' | exact mem_mid (by assumption))) ?_
    refine sub_lst (by (first | decide | exact Nat.le_trans (by assumption) (by decide) | lia | omega)) (by (first | decide | exact Nat.le_trans (by assumption) (by decide) | lia | omega)) (by rw [sizeLine_eq]; (first | decide | exact Nat.le_trans (by assumption) (by decide) | lia | omega)) hp0 ?_
    refine SE_int ?_
    refine sub_tup (d := if r = 0 then .int (k + 1) else .str (S [62])) (by (first | dsimp only [List.length_cons, List.length_nil] | simp only [List.length_cons, List.length_nil]); (first | decide | exact Nat.le_trans (by assumption) (by decide) | lia | omega)) (by (first | dsimp only [List.length_cons, List.length_nil] | simp only [List.length_cons, List.length_nil]); (first | decide | exact Nat.le_trans (by assumption) (by decide) | lia | omega)) (by ((rw [sizeLine_eq]; simp))) rfl ?_
    refine SEs_cons ?_
    refine SE_Subscript ?_
    refine SE_Subscript ?_
    refine SE_Name ?_ (by decide +kernel)
    refine SN_loc rfl rfl (by (with_reducible repeat first | exact List.mem_cons_self | refine List.mem_cons_of_mem _ ?_ | assumption | exact mem_mid' | exact mem_mid (by assumption))) (by with_reducible rfl) (by (with_reducible repeat first | exact List.mem_cons_self | refine List.mem_cons_of_mem _ ?_ | assumption | exact mem_mid' | exact mem_mid (by assumption))) ?_
    refine SE_Name ?_ (by decide +kernel)
    refine SN_loc rfl rfl (by (with_reducible repeat first | exact List.mem_cons_self | refine List.mem_cons_of_mem _ ?_ | assumption | exact mem_mid' | exact mem_mid (by assumption))) (by with_reducible rfl) (by (with_reducible repeat first | exact List.mem_cons_self | refine List.mem_cons_of_mem _ ?_ | assumption | exact mem_mid' | exact mem_mid (by assumption))) ?_
    refine sub_lst (by (first | decide | exact Nat.le_trans (by assumption) (by decide) | lia | omega)) (by (first | decide | exact Nat.le_trans (by assumption) (by decide) | lia | omega)) (by rw [sizeLine_eq]; (first | decide | exact Nat.le_trans (by assumption) (by decide) | lia | omega)) hp0 ?_
    refine SE_int ?_
    refine sub_tup (d := .str (S p)) (by (first | dsimp only [List.length_cons, List.length_nil] | simp only [List.length_cons, List.length_nil]); (first | decide | exact Nat.le_trans (by assumption) (by decide) | lia | omega)) (by (first | dsimp only [List.length_cons, List.length_nil] | simp only [List.length_cons, List.length_nil]); (first | decide | exact Nat.le_trans (by assumption) (by decide) | lia | omega)) (by ((rw [sizeLine_eq]; simp))) rfl ?_
    refine SEs_nil ?_
    by_cases h0 : r = 0
    · rw [if_pos h0] at hnum hnme ⊢
      subst hnum hnme
      refine ⟨kp_K (by rw [hK]; rfl), SLC.call ((c_fmtI hK hh (by (first | decide | exact Nat.le_trans (by assumption) (by decide) | lia | omega)) (loc := attrP n w) (p := pf) (n := (k : Int) + 1) (text := p) (by (with_reducible repeat first | exact List.mem_cons_self | refine List.mem_cons_of_mem _ ?_ | assumption | exact mem_mid' | exact mem_mid (by assumption))) (by (with_reducible repeat first | exact List.mem_cons_self | refine List.mem_cons_of_mem _ ?_ | assumption | exact mem_mid' | exact mem_mid (by assumption))) (by (with_reducible repeat first | exact List.mem_cons_self | refine List.mem_cons_of_mem _ ?_ | assumption | exact mem_mid' | exact mem_mid (by assumption))) hpf (by (first | decide | exact Nat.le_trans (by assumption) (by decide) | lia | omega)) (by (first | decide | exact Nat.le_trans (by assumption) (by decide) | lia | omega)) ?_ hpz).mono ?_)⟩
      · rw [show ((k : Int) + 1).natAbs = k + 1 by (first | decide | exact Nat.le_trans (by assumption) (by decide) | lia | omega)]
        exact Nat.lt_of_lt_of_le (show k + 1 < 10 ^ 4 by (first | decide | exact Nat.le_trans (by assumption) (by decide) | lia | omega)) (Nat.pow_le_pow_right (by decide) (by decide))
      rintro r' o ⟨rfl, rfl⟩
      rw [heq]
      exact ⟨rfl, rfl⟩
    · rw [if_neg h0] at hnum hnme ⊢
      subst hnum hnme
      refine ⟨kp_K (by rw [hK]; rfl), SLC.call ((c_fmtS hK hh (by (first | decide | exact Nat.le_trans (by assumption) (by decide) | lia | omega)) hfr ⟨(fun e => nomatch e), ⟨L, _, rfl, by (with_reducible repeat first | exact List.mem_cons_self | refine List.mem_cons_of_mem _ ?_ | assumption | exact mem_mid' | exact mem_mid (by assumption))⟩, trivial⟩ (l := [62]) (text := p) (by decide) hpz).mono ?_)⟩
      rintro r' o ⟨rfl, rfl⟩
      rw [heq]
      exact ⟨rfl, rfl⟩
  refine SS_loc rfl rfl (by (with_reducible repeat first | exact List.mem_cons_self | refine List.mem_cons_of_mem _ ?_ | assumption | exact mem_mid' | exact mem_mid (by assumption))) (by with_reducible rfl) (by (with_reducible repeat first | exact Put.here | exact Put.new | apply Put.there)) (by ((first | (dsimp only [List.map_cons, List.map_nil]; decide +kernel) | (simp only [List.map_cons, List.map_nil]; decide +kernel)))) (by (with_reducible repeat first | exact Upd.here | exact Upd.mid | apply Upd.there)) ?_
  have hcl := cell_len nme num (repls q)
  have hhl : (headT nme num).length ≤ 100 := by unfold headT; simp only [List.length_append, List.length_cons, List.length_nil]; (first | decide | exact Nat.le_trans (by assumption) (by decide) | lia | omega)
  refine SXs_cons (SX_If (ST_pure (c := false) ?_ ?_))
  · refine SG_or ?_
    refine ST_Compare ?_
    refine SE_SliceSS ?_
    refine SE_Name ?_ (by decide +kernel)
    refine SN_loc rfl rfl (by (with_reducible repeat first | exact List.mem_cons_self | refine List.mem_cons_of_mem _ ?_ | assumption | exact mem_mid' | exact mem_mid (by assumption))) (by with_reducible rfl) (by (with_reducible repeat first | exact List.mem_cons_self | refine List.mem_cons_of_mem _ ?_ | assumption | exact mem_mid' | exact mem_mid (by assumption))) ?_
    refine SPt_none ?_
    refine SPt_some ?_
    refine SE_Call ?_
    refine SE_Name ?_ (by decide +kernel)
    refine SN_builtin rfl rfl rfl rfl (nsIn_of (by assumption) rfl) rfl (by decide +kernel) ?_
    with_reducible refine ⟨_, rfl, ?_⟩
    refine SEs_cons ?_
    refine SE_Name ?_ (by decide +kernel)
    refine SN_loc rfl rfl (by (with_reducible repeat first | exact List.mem_cons_self | refine List.mem_cons_of_mem _ ?_ | assumption | exact mem_mid' | exact mem_mid (by assumption))) (by with_reducible rfl) (by (with_reducible repeat first | exact List.mem_cons_self | refine List.mem_cons_of_mem _ ?_ | assumption | exact mem_mid' | exact mem_mid (by assumption))) ?_
    refine SEs_nil ?_
    with_reducible refine ⟨kp_builtin, ?_⟩
    refine call_lenS (by ((rw [sizeLine_eq]; (try simp only [List.length_append, List.length_cons, List.length_nil, List.length_map]); (first | decide | exact Nat.le_trans (by assumption) (by decide) | lia | omega)))) ?_
    with_reducible refine ⟨_, rfl, ?_⟩
    with_reducible refine ⟨_, rfl, ?_⟩
    refine ⟨by rw [sizeLine_eq]; (first | decide | exact Nat.le_trans (by assumption) (by decide) | lia | omega), ?_⟩
    rw [cutL_take, cell_cut1]
    refine SE_Name ?_ (by decide +kernel)
    refine SN_loc rfl rfl (by (with_reducible repeat first | exact List.mem_cons_self | refine List.mem_cons_of_mem _ ?_ | assumption | exact mem_mid' | exact mem_mid (by assumption))) (by with_reducible rfl) (by (with_reducible repeat first | exact List.mem_cons_self | refine List.mem_cons_of_mem _ ?_ | assumption | exact mem_mid' | exact mem_mid (by assumption))) ?_
    with_reducible refine cmp_neSS ?_
    with_reducible refine tr_bool ?_
    rw [decide_eq_false (show ¬ (headT nme num ≠ headT nme num) from fun h => h rfl)]
    with_reducible refine ite_ff' ?_
    refine SG_or ?_
    refine ST_Compare ?_
    refine SE_SliceSS ?_
    refine SE_Name ?_ (by decide +kernel)
    refine SN_loc rfl rfl (by (with_reducible repeat first | exact List.mem_cons_self | refine List.mem_cons_of_mem _ ?_ | assumption | exact mem_mid' | exact mem_mid (by assumption))) (by with_reducible rfl) (by (with_reducible repeat first | exact List.mem_cons_self | refine List.mem_cons_of_mem _ ?_ | assumption | exact mem_mid' | exact mem_mid (by assumption))) ?_
    refine SPt_some ?_
    refine SE_BinOp ?_
    refine SE_Call ?_
    refine SE_Name ?_ (by decide +kernel)
    refine SN_builtin rfl rfl rfl rfl (nsIn_of (by assumption) rfl) rfl (by decide +kernel) ?_
    with_reducible refine ⟨_, rfl, ?_⟩
    refine SEs_cons ?_
    refine SE_Name ?_ (by decide +kernel)
    refine SN_loc rfl rfl (by (with_reducible repeat first | exact List.mem_cons_self | refine List.mem_cons_of_mem _ ?_ | assumption | exact mem_mid' | exact mem_mid (by assumption))) (by with_reducible rfl) (by (with_reducible repeat first | exact List.mem_cons_self | refine List.mem_cons_of_mem _ ?_ | assumption | exact mem_mid' | exact mem_mid (by assumption))) ?_
    refine SEs_nil ?_
    with_reducible refine ⟨kp_builtin, ?_⟩
    refine call_lenS (by ((rw [sizeLine_eq]; (try simp only [List.length_append, List.length_cons, List.length_nil, List.length_map]); (first | decide | exact Nat.le_trans (by assumption) (by decide) | lia | omega)))) ?_
    refine SE_int ?_
    with_reducible refine op_sub ?_
    with_reducible refine ⟨_, rfl, ?_⟩
    refine SPt_none ?_
    with_reducible refine ⟨_, rfl, ?_⟩
    refine ⟨by rw [sizeLine_eq]; (first | decide | exact Nat.le_trans (by assumption) (by decide) | lia | omega), ?_⟩
    rw [show ((cellT nme num (repls q)).length : Int) - 5 = (((headT nme num).length + (repls q).length : Nat) : Int) by (first | decide | exact Nat.le_trans (by assumption) (by decide) | lia | omega), cutL_drop, cell_cut2]
    refine SE_strL (by (first | exact l07_0 | exact l07_1 | exact l07_2 | exact l07_3 | exact l07_4 | exact l07_5 | exact l07_6 | exact l07_7 | exact l07_8 | exact l07_9 | exact l07_10 | exact l07_11 | exact l07_12 | exact l07_13 | exact l07_14 | exact l07_15 | exact l07_16 | exact l07_17 | exact l07_18 | exact l07_19 | exact l07_20 | exact l07_21 | exact l07_22 | exact l07_23 | exact l07_24 | exact l07_25 | exact l07_26 | exact l07_27 | exact l07_28 | exact l07_29 | exact l07_30 | exact l07_31 | exact l07_32 | exact l07_33 | exact l07_34 | exact l07_35 | exact l07_36)) ?_
    with_reducible refine cmp_neSS ?_
    with_reducible refine tr_bool ?_
    rw [decide_eq_false (show ¬ (endT ≠ [60, 47, 116, 100, 62]) from fun h => h rfl)]
    with_reducible refine ite_ff' ?_
    refine SG_or_nil ?_
    exact ⟨rfl, rfl⟩
  refine ite_ff' (SXs_nil ?_)
  refine SXs_cons (SX_If (ST_pure (c := false) ?_ ?_))
  · refine ST_Compare ?_
    refine SE_Call ?_
    refine SE_Name ?_ (by decide +kernel)
    refine SN_global rfl rfl rfl (nsIn_of (by assumption) rfl) ?_
    with_reducible refine ⟨_, rfl, ?_⟩
    refine SEs_cons ?_
    refine SE_SliceSS ?_
    refine SE_Name ?_ (by decide +kernel)
    refine SN_loc rfl rfl (by (with_reducible repeat first | exact List.mem_cons_self | refine List.mem_cons_of_mem _ ?_ | assumption | exact mem_mid' | exact mem_mid (by assumption))) (by with_reducible rfl) (by (with_reducible repeat first | exact List.mem_cons_self | refine List.mem_cons_of_mem _ ?_ | assumption | exact mem_mid' | exact mem_mid (by assumption))) ?_
    refine SPt_some ?_
    refine SE_Call ?_
    refine SE_Name ?_ (by decide +kernel)
    refine SN_builtin rfl rfl rfl rfl (nsIn_of (by assumption) rfl) rfl (by decide +kernel) ?_
    with_reducible refine ⟨_, rfl, ?_⟩
    refine SEs_cons ?_
    refine SE_Name ?_ (by decide +kernel)
    refine SN_loc rfl rfl (by (with_reducible repeat first | exact List.mem_cons_self | refine List.mem_cons_of_mem _ ?_ | assumption | exact mem_mid' | exact mem_mid (by assumption))) (by with_reducible rfl) (by (with_reducible repeat first | exact List.mem_cons_self | refine List.mem_cons_of_mem _ ?_ | assumption | exact mem_mid' | exact mem_mid (by assumption))) ?_
    refine SEs_nil ?_
    with_reducible refine ⟨kp_builtin, ?_⟩
    refine call_lenS (by ((rw [sizeLine_eq]; (try simp only [List.length_append, List.length_cons, List.length_nil, List.length_map]); (first | decide | exact Nat.le_trans (by assumption) (by decide) | lia | omega)))) ?_
    with_reducible refine ⟨_, rfl, ?_⟩
    refine SPt_some ?_
    refine SE_BinOp ?_
    refine SE_Call ?_
    refine SE_Name ?_ (by decide +kernel)
    refine SN_builtin rfl rfl rfl rfl (nsIn_of (by assumption) rfl) rfl (by decide +kernel) ?_
    with_reducible refine ⟨_, rfl, ?_⟩
    refine SEs_cons ?_
    refine SE_Name ?_ (by decide +kernel)
    refine SN_loc rfl rfl (by (with_reducible repeat first | exact List.mem_cons_self | refine List.mem_cons_of_mem _ ?_ | assumption | exact mem_mid' | exact mem_mid (by assumption))) (by with_reducible rfl) (by (with_reducible repeat first | exact List.mem_cons_self | refine List.mem_cons_of_mem _ ?_ | assumption | exact mem_mid' | exact mem_mid (by assumption))) ?_
    refine SEs_nil ?_
    with_reducible refine ⟨kp_builtin, ?_⟩
    refine call_lenS (by ((rw [sizeLine_eq]; (try simp only [List.length_append, List.length_cons, List.length_nil, List.length_map]); (first | decide | exact Nat.le_trans (by assumption) (by decide) | lia | omega)))) ?_
    refine SE_int ?_
    with_reducible refine op_sub ?_
    with_reducible refine ⟨_, rfl, ?_⟩
    with_reducible refine ⟨_, rfl, ?_⟩
    refine ⟨by rw [sizeLine_eq]; (first | decide | exact Nat.le_trans (by assumption) (by decide) | lia | omega), ?_⟩
    rw [show ((cellT nme num (repls q)).length : Int) - 5 = (((headT nme num).length + (repls q).length : Nat) : Int) by (first | decide | exact Nat.le_trans (by assumption) (by decide) | lia | omega), cutL_mid _ _ _ (by (first | decide | exact Nat.le_trans (by assumption) (by decide) | lia | omega)) (by (first | decide | exact Nat.le_trans (by assumption) (by decide) | lia | omega)), show (headT nme num).length + (repls q).length - (headT nme num).length = (repls q).length by (first | decide | exact Nat.le_trans (by assumption) (by decide) | lia | omega), cell_cut3]
    refine SEs_nil ?_
    refine ⟨kp_K (by rw [hK]; rfl), SLC.call ((c_seen hK hh (by (first | decide | exact Nat.le_trans (by assumption) (by decide) | lia | omega)) q (by (first | decide | exact Nat.le_trans (by assumption) (by decide) | lia | omega))).mono ?_)⟩
    rintro r' o ⟨rfl, rfl⟩
    refine SE_Meth ?_
    refine SE_Meth ?_
    refine SE_strL (by (first | exact l07_0 | exact l07_1 | exact l07_2 | exact l07_3 | exact l07_4 | exact l07_5 | exact l07_6 | exact l07_7 | exact l07_8 | exact l07_9 | exact l07_10 | exact l07_11 | exact l07_12 | exact l07_13 | exact l07_14 | exact l07_15 | exact l07_16 | exact l07_17 | exact l07_18 | exact l07_19 | exact l07_20 | exact l07_21 | exact l07_22 | exact l07_23 | exact l07_24 | exact l07_25 | exact l07_26 | exact l07_27 | exact l07_28 | exact l07_29 | exact l07_30 | exact l07_31 | exact l07_32 | exact l07_33 | exact l07_34 | exact l07_35 | exact l07_36)) ?_
    refine mth_str (fun t s P h => GM.join h) ?_
    refine SEs_cons ?_
    refine SE_Subscript ?_
    refine SE_Name ?_ (by decide +kernel)
    refine SN_loc rfl rfl (by (with_reducible repeat first | exact List.mem_cons_self | refine List.mem_cons_of_mem _ ?_ | assumption | exact mem_mid' | exact mem_mid (by assumption))) (by with_reducible rfl) (by (with_reducible repeat first | exact List.mem_cons_self | refine List.mem_cons_of_mem _ ?_ | assumption | exact mem_mid' | exact mem_mid (by assumption))) ?_
    refine SE_Name ?_ (by decide +kernel)
    refine SN_loc rfl rfl (by (with_reducible repeat first | exact List.mem_cons_self | refine List.mem_cons_of_mem _ ?_ | assumption | exact mem_mid' | exact mem_mid (by assumption))) (by with_reducible rfl) (by (with_reducible repeat first | exact List.mem_cons_self | refine List.mem_cons_of_mem _ ?_ | assumption | exact mem_mid' | exact mem_mid (by assumption))) ?_
    refine sub_lst (d := .list (m.map fun c => strD [c])) (by (first | decide | exact Nat.le_trans (by assumption) (by decide) | lia | omega)) (by (first | decide | exact Nat.le_trans (by assumption) (by decide) | lia | omega)) (by rw [sizeLine_eq]; (first | decide | exact Nat.le_trans (by assumption) (by decide) | lia | omega)) hm0 ?_
    refine SEs_nil ?_
    with_reducible refine ⟨kp_builtin, ?_⟩
    have hj1 : (m.map fun c => [c]).flatten = m := by
      clear hm hm0 hmz hq hql hbl heq hcl hQ
      induction m with
      | nil => rfl
      | cons a m ih => rw [List.map_cons, List.flatten_cons, ih]; rfl
    rw [show V.dat (PyData.list (m.map fun c => strD [c])) = V.lst ((m.map fun c => [c]).map fun l => .str (S l)) by rw [List.map_map]; rfl]
    refine call_join (ls := m.map fun c => [c]) (by rw [hj1]; (first | decide | exact Nat.le_trans (by assumption) (by decide) | lia | omega)) ?_
    rw [hj1]
    refine mth_str (fun t s P h => GM.rstrip h) ?_
    refine SEs_cons ?_
    refine SE_strL (by (first | exact l07_0 | exact l07_1 | exact l07_2 | exact l07_3 | exact l07_4 | exact l07_5 | exact l07_6 | exact l07_7 | exact l07_8 | exact l07_9 | exact l07_10 | exact l07_11 | exact l07_12 | exact l07_13 | exact l07_14 | exact l07_15 | exact l07_16 | exact l07_17 | exact l07_18 | exact l07_19 | exact l07_20 | exact l07_21 | exact l07_22 | exact l07_23 | exact l07_24 | exact l07_25 | exact l07_26 | exact l07_27 | exact l07_28 | exact l07_29 | exact l07_30 | exact l07_31 | exact l07_32 | exact l07_33 | exact l07_34 | exact l07_35 | exact l07_36)) ?_
    refine SEs_nil ?_
    with_reducible refine ⟨kp_builtin, ?_⟩
    refine call_rstripC (y := [9, 13]) (by rw [sizeLine_eq]; (first | decide | exact Nat.le_trans (by assumption) (by decide) | lia | omega)) ?_
    rw [← hq]
    with_reducible refine cmp_neSS ?_
    with_reducible refine tr_bool ?_
    rw [decide_eq_false (show ¬ (q ≠ q) from fun h => h rfl)]
    exact ⟨rfl, rfl⟩
  refine ite_ff' (SXs_nil ?_)
  exact SXs_nil (hQ num nme (repls q))
theorem rowsD_len (num : PyData) (ps : List (List Nat)) : (rowsD num ps).length = ps.length := by cases ps <;> simp [rowsD]
theorem rowsD_at {num : PyData} {ps : List (List Nat)} {r : Nat} {p : List Nat} (h : ps[r]? = some p) : (rowsD num ps)[r]? = some (.tuple [if r = 0 then num else .str (S [62]), .str (S p)]) := by
  cases ps with
  | nil => cases h
  | cons a ps =>
    cases r with
    | zero => rw [List.getElem?_cons_zero] at h; cases h; rfl
    | succ r =>
      rw [List.getElem?_cons_succ] at h
      rw [rowsD, List.getElem?_cons_succ, List.getElem?_map, h, if_neg (by (first | decide | exact Nat.le_trans (by assumption) (by decide) | lia | omega))]; rfl
theorem SG.perm {α β : Type} {R : Heap → β → α → Prop} {t : Sem α} {own own' : Own} {Q : β → Own → Prop} (k : own.Perm own') (h : SG W A R t own' Q) : SG W A R t own Q :=
  fun fz s H ht => h fz s (H.perm k) ht
theorem SG.permQ {α β : Type} {R : Heap → β → α → Prop} {t : Sem α} {own : Own} {Q : β → Own → Prop} (h : SG W A R t own fun b o => ∃ o', o.Perm o' ∧ Q b o') : SG W A R t own Q := fun fz s H ht =>
  wp_then (h fz s H ht) ht fun fz1 a b o s1 k1 H1 t1 r1 q1 => by
    obtain ⟨o', hp, q⟩ := q1
    exact ⟨fz1, b, o', k1, H1.perm hp, r1, q⟩
set_option maxHeartbeats 8000000 in
theorem turn_line (hK : K07 W) {L x dx : Addr} {tq : Str} {ts : Scope} {tc : Value} {tb : List Stmt} (hT : txtO (W.K.lookup 139) = some (tq, ts, tc, tb)) (hh : A.handled = none) (hd : A.depth < 325) (hu : A.units < 200) (hfr : A.frames = some [envX tq ts L 139 tc []])
    {n w j k : Nat} (hn9 : n ≤ 9) (hw0 : 0 < w) (hw6 : w ≤ 6) (hj : j < 2) (hk : k < 1000) {pf : List Nat} (hpf : ([PyData.str (S [102, 114, 111, 109, 50, 95]), PyData.str (S [116, 111, 50, 95])] : List PyData)[place (j : Int) 2]? = some (.str (S pf))) (hpl : pf.length ≤ 6) {sdl tdl : List PyData} {ls : List (List Nat)} {l : List Nat}
    (hs2 : sdl.length = 2) (ht2 : tdl.length = 2) (hls : ls.length ≤ 101) (hsd : sdl[place (j : Int) sdl.length]? = some (.list (ls.map strD))) (htd : tdl[place (j : Int) tdl.length]? = some (.list (ls.map fun l => .str (S (expT (n : Int) l))))) (hlk : ls[k]? = some l) (okll : LineOk l) {Q : Fl → Own → Prop}
    (hQ : Q .next ((x, Ob.obj (instObj 111 dx)) :: (dx, Ob.att (attrP n w)) :: (L, Ob.ns [(Str.ofString "stops", .int (n : Nat)), (Str.ofString "wide", .int (w : Nat)), (Str.ofString "sides", .lst sdl), (Str.ofString "sheet", .ref x), (Str.ofString "told", .tup tdl), (Str.ofString "side", .int (j : Nat)), (Str.ofString "k", .int (k : Nat))]) :: own)) :
    SXs W A (envX tq ts L 139 tc []) (forB (nthS (forB (nthS tb 8)) 1)) ((x, Ob.obj (instObj 111 dx)) :: (dx, Ob.att (attrP n w)) :: (L, Ob.ns [(Str.ofString "stops", .int (n : Nat)), (Str.ofString "wide", .int (w : Nat)), (Str.ofString "sides", .lst sdl), (Str.ofString "sheet", .ref x), (Str.ofString "told", .tup tdl), (Str.ofString "side", .int (j : Nat)), (Str.ofString "k", .int (k : Nat))]) :: own) Q := by
  have hTT := hT
  rw [K_of (a := 139) hK rfl] at hT
  change some (_, _, _, _) = _ at hT
  cases hT
  dsimp only [lawS, fdB, fdS, clB, PySem.Challenge.pw_dm0066_07, nthS, forT, forI, forB, forP, ifT, ifB, ifE, ifP]
  have hrec : recursionLimit = 1000 := rfl
  have hcline : cLine = 9900 := rfl
  have hk3 : k < ls.length := by
    rcases Nat.lt_or_ge k ls.length with h | h
    · exact h
    · rw [List.getElem?_eq_none h] at hlk; cases hlk
  have hx1 : (ls.map fun l => PyData.str (S (expT (n : Int) l)))[place (k : Int) (ls.map fun l => PyData.str (S (expT (n : Int) l))).length]? = some (.str (S (expT (n : Int) l))) := by
    unfold place; rw [if_neg (by (first | decide | exact Nat.le_trans (by assumption) (by decide) | lia | omega)), Int.toNat_natCast, List.getElem?_map, hlk]; rfl
  have hx2 : (ls.map strD)[place (k : Int) (ls.map strD).length]? = some (.str (S l)) := by
    unfold place; rw [if_neg (by (first | decide | exact Nat.le_trans (by assumption) (by decide) | lia | omega)), Int.toNat_natCast, List.getElem?_map, hlk]; rfl
  obtain ⟨q1, q2, q3, q4⟩ := line_law hn9 hw0 okll
  obtain ⟨o1, o2, o3⟩ := line_ok okll
  have hsl := screen_len hn9 hw0 okll
  have b1 : -(sdl.length : Int) ≤ (j : Int) := by (first | decide | exact Nat.le_trans (by assumption) (by decide) | lia | omega)
  have b2 : (j : Int) < (sdl.length : Int) := by (first | decide | exact Nat.le_trans (by assumption) (by decide) | lia | omega)
  have b3 : -(tdl.length : Int) ≤ (j : Int) := by (first | decide | exact Nat.le_trans (by assumption) (by decide) | lia | omega)
  have b4 : (j : Int) < (tdl.length : Int) := by (first | decide | exact Nat.le_trans (by assumption) (by decide) | lia | omega)
  refine SXs_cons ?_
  refine SX_Assign ?_
  refine SE_List (by ((rw [sizeLine_eq]; simp))) ?_
  refine SEs_nil ?_
  refine ⟨by ((rw [sizeLine_eq]; simp)), fun D => ?_⟩
  refine SS_loc rfl rfl (by (with_reducible repeat first | exact List.mem_cons_self | refine List.mem_cons_of_mem _ ?_ | assumption | exact mem_mid' | exact mem_mid (by assumption))) (by with_reducible rfl) (by (with_reducible repeat first | exact Put.here | exact Put.new | apply Put.there)) (by ((first | (dsimp only [List.map_cons, List.map_nil]; decide +kernel) | (simp only [List.map_cons, List.map_nil]; decide +kernel)))) (by (with_reducible repeat first | exact Upd.here | exact Upd.mid | apply Upd.there)) ?_
  refine SXs_cons ?_
  refine SX_Expr ?_
  refine SE_Meth ?_
  refine SE_Name ?_ (by decide +kernel)
  refine SN_loc rfl rfl (by (with_reducible repeat first | exact List.mem_cons_self | refine List.mem_cons_of_mem _ ?_ | assumption | exact mem_mid' | exact mem_mid (by assumption))) (by with_reducible rfl) (by (with_reducible repeat first | exact List.mem_cons_self | refine List.mem_cons_of_mem _ ?_ | assumption | exact mem_mid' | exact mem_mid (by assumption))) ?_
  refine mth_inst (cls07 hK) (by (with_reducible repeat first | exact List.mem_cons_self | refine List.mem_cons_of_mem _ ?_ | assumption | exact mem_mid' | exact mem_mid (by assumption))) (by (with_reducible repeat first | exact List.mem_cons_self | refine List.mem_cons_of_mem _ ?_ | assumption | exact mem_mid' | exact mem_mid (by assumption))) (by rw [hK]; rfl) (by rw [hK]; rfl) (by ((first | (dsimp only [List.map_cons, List.map_nil]; decide +kernel) | (simp only [List.map_cons, List.map_nil]; decide +kernel)))) ?_
  refine SEs_cons ?_
  refine SE_Name ?_ (by decide +kernel)
  refine SN_loc rfl rfl (by (with_reducible repeat first | exact List.mem_cons_self | refine List.mem_cons_of_mem _ ?_ | assumption | exact mem_mid' | exact mem_mid (by assumption))) (by with_reducible rfl) (by (with_reducible repeat first | exact List.mem_cons_self | refine List.mem_cons_of_mem _ ?_ | assumption | exact mem_mid' | exact mem_mid (by assumption))) ?_
  refine SEs_cons ?_
  refine SE_BinOp ?_
  refine SE_Name ?_ (by decide +kernel)
  refine SN_loc rfl rfl (by (with_reducible repeat first | exact List.mem_cons_self | refine List.mem_cons_of_mem _ ?_ | assumption | exact mem_mid' | exact mem_mid (by assumption))) (by with_reducible rfl) (by (with_reducible repeat first | exact List.mem_cons_self | refine List.mem_cons_of_mem _ ?_ | assumption | exact mem_mid' | exact mem_mid (by assumption))) ?_
  refine SE_int ?_
  with_reducible refine op_add ?_
  refine SEs_cons ?_
  refine SE_Subscript ?_
  refine SE_Subscript ?_
  refine SE_Name ?_ (by decide +kernel)
  refine SN_loc rfl rfl (by (with_reducible repeat first | exact List.mem_cons_self | refine List.mem_cons_of_mem _ ?_ | assumption | exact mem_mid' | exact mem_mid (by assumption))) (by with_reducible rfl) (by (with_reducible repeat first | exact List.mem_cons_self | refine List.mem_cons_of_mem _ ?_ | assumption | exact mem_mid' | exact mem_mid (by assumption))) ?_
  refine SE_Name ?_ (by decide +kernel)
  refine SN_loc rfl rfl (by (with_reducible repeat first | exact List.mem_cons_self | refine List.mem_cons_of_mem _ ?_ | assumption | exact mem_mid' | exact mem_mid (by assumption))) (by with_reducible rfl) (by (with_reducible repeat first | exact List.mem_cons_self | refine List.mem_cons_of_mem _ ?_ | assumption | exact mem_mid' | exact mem_mid (by assumption))) ?_
  refine sub_tup b3 b4 (by rw [sizeLine_eq]; (first | decide | exact Nat.le_trans (by assumption) (by decide) | lia | omega)) htd ?_
  refine SE_Name ?_ (by decide +kernel)
  refine SN_loc rfl rfl (by (with_reducible repeat first | exact List.mem_cons_self | refine List.mem_cons_of_mem _ ?_ | assumption | exact mem_mid' | exact mem_mid (by assumption))) (by with_reducible rfl) (by (with_reducible repeat first | exact List.mem_cons_self | refine List.mem_cons_of_mem _ ?_ | assumption | exact mem_mid' | exact mem_mid (by assumption))) ?_
  refine sub_lst (d := .str (S (expT (n : Int) l))) (by rw [List.length_map]; (first | decide | exact Nat.le_trans (by assumption) (by decide) | lia | omega)) (by rw [List.length_map]; (first | decide | exact Nat.le_trans (by assumption) (by decide) | lia | omega)) (by rw [sizeLine_eq, List.length_map]; (first | decide | exact Nat.le_trans (by assumption) (by decide) | lia | omega)) hx1 ?_
  refine SEs_nil ?_
  refine ⟨kp_K (by rw [hK]; rfl), SLC.call (SLC.mono (c_split hK hw0 100 (text := expT (n : Int) l) (by (first | decide | exact Nat.le_trans (by assumption) (by decide) | lia | omega)) q1 (pre := []) (post := (x, Ob.obj (instObj 111 dx)) :: (dx, Ob.att (attrP n w)) :: (L, Ob.ns [(Str.ofString "stops", .int (n : Nat)), (Str.ofString "wide", .int (w : Nat)), (Str.ofString "sides", .lst sdl), (Str.ofString "sheet", .ref x), (Str.ofString "told", .tup tdl), (Str.ofString "side", .int (j : Nat)), (Str.ofString "k", .int (k : Nat)), (Str.ofString "pieces", .ref D)]) :: own) (num := .int ((k : Int) + 1)) (D := D) (l := []) (loc := attrP n w) (dx := dx)
    (fun W A own Q qq => tr_int (by rw [decide_eq_true (show ((k : Int) + 1) ≠ 0 by (first | decide | exact Nat.le_trans (by assumption) (by decide) | lia | omega))]; exact qq)) hh (by (first | decide | exact Nat.le_trans (by assumption) (by decide) | lia | omega)) (by simp) (by simp) (by (with_reducible repeat first | exact List.mem_cons_self | refine List.mem_cons_of_mem _ ?_ | assumption | exact mem_mid' | exact mem_mid (by assumption))) (by ((first | (dsimp only [List.map_cons, List.map_nil]; decide +kernel) | (simp only [List.map_cons, List.map_nil]; decide +kernel)))) (by (first | decide | exact Nat.le_trans (by assumption) (by decide) | lia | omega)) (by (first | dsimp only [List.length_nil] | simp only [List.length_nil]); (first | decide | exact Nat.le_trans (by assumption) (by decide) | lia | omega))) ?_)⟩
  rintro r' o ⟨rfl, rfl⟩
  rw [List.nil_append, List.nil_append]
  obtain ⟨pcs, hpcs⟩ : ∃ pcs, pcs = rowsD (.int ((k : Int) + 1)) (pcF w 100 (expT (n : Int) l)) := ⟨_, rfl⟩
  rw [← hpcs]
  refine SG_frz (D := D) (ds := pcs) (by (with_reducible repeat first | exact Take.here | apply Take.there)) (AllDat.map _) (by (with_reducible repeat first | exact NF.nil | apply NF.cons VF.at_ | apply NF.cons VF.same | apply OF.ns | apply OF.cell VF.at_ | apply OF.cell VF.same | apply OF.list | exact LF.nil | apply LF.cons VF.at_ | apply LF.cons VF.same | exact LF.refl | apply OF.same | exact OF.refl)) ?_
  obtain ⟨rws, hrws⟩ : ∃ rws, rws = (screenL n w (rstripL (fun c => [10].contains c) l)).map fun r => PyData.list (r.map fun c => strD [c]) := ⟨_, rfl⟩
  have hz1 : pcs.length = (screenL n w (rstripL (fun c => [10].contains c) l)).length := by rw [hpcs, rowsD_len]; exact q3
  have hz2 : rws.length = (screenL n w (rstripL (fun c => [10].contains c) l)).length := by rw [hrws, List.length_map]
  have hat : ∀ r, r < rws.length → ∃ p m, pcs[r]? = some (.tuple [if r = 0 then .int ((k : Int) + 1) else .str (S [62]), .str (S p)]) ∧ rws[r]? = some (.list (m.map fun c => strD [c])) ∧ p.length ≤ 40 ∧ m.length ≤ 40 ∧ rstripL Unicode.isSpace (repls p) = repls (rstripL (fun c => [9, 13].contains c) m) := by
    intro r hr
    obtain ⟨p, m, e1, e2, e3, e4, e5⟩ := q4 r (by (first | decide | exact Nat.le_trans (by assumption) (by decide) | lia | omega))
    exact ⟨p, m, by rw [hpcs]; exact rowsD_at e1, by rw [hrws, List.getElem?_map, e2]; rfl, by (first | decide | exact Nat.le_trans (by assumption) (by decide) | lia | omega), by (first | decide | exact Nat.le_trans (by assumption) (by decide) | lia | omega), e5⟩
  have hz3 : pcs.length ≤ 84 := by (first | decide | exact Nat.le_trans (by assumption) (by decide) | lia | omega)
  have hz4 : rws.length ≤ 84 := by (first | decide | exact Nat.le_trans (by assumption) (by decide) | lia | omega)
  have hz5 : pcs.length = rws.length := by (first | decide | exact Nat.le_trans (by assumption) (by decide) | lia | omega)
  refine SXs_cons ?_
  refine SX_Assign ?_
  refine SE_Call ?_
  refine SE_Name ?_ (by decide +kernel)
  refine SN_global rfl rfl rfl (nsIn_of (by assumption) rfl) ?_
  with_reducible refine ⟨_, rfl, ?_⟩
  refine SEs_cons ?_
  refine SE_Subscript ?_
  refine SE_Subscript ?_
  refine SE_Name ?_ (by decide +kernel)
  refine SN_loc rfl rfl (by (with_reducible repeat first | exact List.mem_cons_self | refine List.mem_cons_of_mem _ ?_ | assumption | exact mem_mid' | exact mem_mid (by assumption))) (by with_reducible rfl) (by (with_reducible repeat first | exact List.mem_cons_self | refine List.mem_cons_of_mem _ ?_ | assumption | exact mem_mid' | exact mem_mid (by assumption))) ?_
  refine SE_Name ?_ (by decide +kernel)
  refine SN_loc rfl rfl (by (with_reducible repeat first | exact List.mem_cons_self | refine List.mem_cons_of_mem _ ?_ | assumption | exact mem_mid' | exact mem_mid (by assumption))) (by with_reducible rfl) (by (with_reducible repeat first | exact List.mem_cons_self | refine List.mem_cons_of_mem _ ?_ | assumption | exact mem_mid' | exact mem_mid (by assumption))) ?_
  refine sub_lst b1 b2 (by rw [sizeLine_eq]; (first | decide | exact Nat.le_trans (by assumption) (by decide) | lia | omega)) hsd ?_
  refine SE_Name ?_ (by decide +kernel)
  refine SN_loc rfl rfl (by (with_reducible repeat first | exact List.mem_cons_self | refine List.mem_cons_of_mem _ ?_ | assumption | exact mem_mid' | exact mem_mid (by assumption))) (by with_reducible rfl) (by (with_reducible repeat first | exact List.mem_cons_self | refine List.mem_cons_of_mem _ ?_ | assumption | exact mem_mid' | exact mem_mid (by assumption))) ?_
  refine sub_lst (d := .str (S l)) (by rw [List.length_map]; (first | decide | exact Nat.le_trans (by assumption) (by decide) | lia | omega)) (by rw [List.length_map]; (first | decide | exact Nat.le_trans (by assumption) (by decide) | lia | omega)) (by rw [sizeLine_eq, List.length_map]; (first | decide | exact Nat.le_trans (by assumption) (by decide) | lia | omega)) hx2 ?_
  refine SEs_cons ?_
  refine SE_Name ?_ (by decide +kernel)
  refine SN_loc rfl rfl (by (with_reducible repeat first | exact List.mem_cons_self | refine List.mem_cons_of_mem _ ?_ | assumption | exact mem_mid' | exact mem_mid (by assumption))) (by with_reducible rfl) (by (with_reducible repeat first | exact List.mem_cons_self | refine List.mem_cons_of_mem _ ?_ | assumption | exact mem_mid' | exact mem_mid (by assumption))) ?_
  refine SEs_cons ?_
  refine SE_Name ?_ (by decide +kernel)
  refine SN_loc rfl rfl (by (with_reducible repeat first | exact List.mem_cons_self | refine List.mem_cons_of_mem _ ?_ | assumption | exact mem_mid' | exact mem_mid (by assumption))) (by with_reducible rfl) (by (with_reducible repeat first | exact List.mem_cons_self | refine List.mem_cons_of_mem _ ?_ | assumption | exact mem_mid' | exact mem_mid (by assumption))) ?_
  refine SEs_nil ?_
  refine ⟨kp_K (by rw [hK]; rfl), SLC.call ((c_screen hK hh (by (first | decide | exact Nat.le_trans (by assumption) (by decide) | lia | omega)) hn9 hw0 (by (first | decide | exact Nat.le_trans (by assumption) (by decide) | lia | omega)) (l := l) (by (first | decide | exact Nat.le_trans (by assumption) (by decide) | lia | omega))).mono ?_)⟩
  rintro r' o ⟨rfl, rfl⟩
  rw [← hrws]
  refine SS_loc rfl rfl (by (with_reducible repeat first | exact List.mem_cons_self | refine List.mem_cons_of_mem _ ?_ | assumption | exact mem_mid' | exact mem_mid (by assumption))) (by with_reducible rfl) (by (with_reducible repeat first | exact Put.here | exact Put.new | apply Put.there)) (by ((first | (dsimp only [List.map_cons, List.map_nil]; decide +kernel) | (simp only [List.map_cons, List.map_nil]; decide +kernel)))) (by (with_reducible repeat first | exact Upd.here | exact Upd.mid | apply Upd.there)) ?_
  refine SXs_cons ?_
  refine SX_If ?_
  refine ST_Compare ?_
  refine SE_Call ?_
  refine SE_Name ?_ (by decide +kernel)
  refine SN_builtin rfl rfl rfl rfl (nsIn_of (by assumption) rfl) rfl (by decide +kernel) ?_
  with_reducible refine ⟨_, rfl, ?_⟩
  refine SEs_cons ?_
  refine SE_Name ?_ (by decide +kernel)
  refine SN_loc rfl rfl (by (with_reducible repeat first | exact List.mem_cons_self | refine List.mem_cons_of_mem _ ?_ | assumption | exact mem_mid' | exact mem_mid (by assumption))) (by with_reducible rfl) (by (with_reducible repeat first | exact List.mem_cons_self | refine List.mem_cons_of_mem _ ?_ | assumption | exact mem_mid' | exact mem_mid (by assumption))) ?_
  refine SEs_nil ?_
  with_reducible refine ⟨kp_builtin, ?_⟩
  refine call_len_lst (by ((rw [sizeLine_eq]; (try simp only [List.length_append, List.length_cons, List.length_nil, List.length_map]); (first | decide | exact Nat.le_trans (by assumption) (by decide) | lia | omega)))) ?_
  refine SE_Call ?_
  refine SE_Name ?_ (by decide +kernel)
  refine SN_builtin rfl rfl rfl rfl (nsIn_of (by assumption) rfl) rfl (by decide +kernel) ?_
  with_reducible refine ⟨_, rfl, ?_⟩
  refine SEs_cons ?_
  refine SE_Name ?_ (by decide +kernel)
  refine SN_loc rfl rfl (by (with_reducible repeat first | exact List.mem_cons_self | refine List.mem_cons_of_mem _ ?_ | assumption | exact mem_mid' | exact mem_mid (by assumption))) (by with_reducible rfl) (by (with_reducible repeat first | exact List.mem_cons_self | refine List.mem_cons_of_mem _ ?_ | assumption | exact mem_mid' | exact mem_mid (by assumption))) ?_
  refine SEs_nil ?_
  with_reducible refine ⟨kp_builtin, ?_⟩
  refine call_len_lst (by ((rw [sizeLine_eq]; (try simp only [List.length_append, List.length_cons, List.length_nil, List.length_map]); (first | decide | exact Nat.le_trans (by assumption) (by decide) | lia | omega)))) ?_
  with_reducible refine cmp_neI ?_
  with_reducible refine tr_bool ?_
  rw [decide_eq_false (show ¬ ((pcs.length : Int) ≠ (rws.length : Int)) from fun h => h (by (first | decide | exact Nat.le_trans (by assumption) (by decide) | lia | omega)))]
  with_reducible refine ite_ff' ?_
  refine SXs_nil ?_
  refine SXs_cons ?_
  clear hpcs hrws hz1 hz2 q1 q2 q3 q4 hx1 hx2
  refine SG.mono (Q := fun fl o => fl = Fl.next ∧ Wk o ((x, Ob.obj (instObj 111 dx)) :: (dx, Ob.att (attrP n w)) :: (L, Ob.ns [(Str.ofString "stops", .int (n : Nat)), (Str.ofString "wide", .int (w : Nat)), (Str.ofString "sides", .lst sdl), (Str.ofString "sheet", .ref x), (Str.ofString "told", .tup tdl), (Str.ofString "side", .int (j : Nat)), (Str.ofString "k", .int (k : Nat))]) :: own)) (SX_For hh ?_) ?_
  · refine SE_Call ?_
    refine SE_Name ?_ (by decide +kernel)
    refine SN_builtin rfl rfl rfl rfl (nsIn_of (by assumption) rfl) rfl (by decide +kernel) ?_
    with_reducible refine ⟨_, rfl, ?_⟩
    refine SEs_cons ?_
    refine SE_Call ?_
    refine SE_Name ?_ (by decide +kernel)
    refine SN_builtin rfl rfl rfl rfl (nsIn_of (by assumption) rfl) rfl (by decide +kernel) ?_
    with_reducible refine ⟨_, rfl, ?_⟩
    refine SEs_cons ?_
    refine SE_Name ?_ (by decide +kernel)
    refine SN_loc rfl rfl (by (with_reducible repeat first | exact List.mem_cons_self | refine List.mem_cons_of_mem _ ?_ | assumption | exact mem_mid' | exact mem_mid (by assumption))) (by with_reducible rfl) (by (with_reducible repeat first | exact List.mem_cons_self | refine List.mem_cons_of_mem _ ?_ | assumption | exact mem_mid' | exact mem_mid (by assumption))) ?_
    refine SEs_nil ?_
    with_reducible refine ⟨kp_builtin, ?_⟩
    refine call_len_lst (by ((rw [sizeLine_eq]; (try simp only [List.length_append, List.length_cons, List.length_nil, List.length_map]); (first | decide | exact Nat.le_trans (by assumption) (by decide) | lia | omega)))) ?_
    refine SEs_nil ?_
    with_reducible refine ⟨kp_type, ?_⟩
    refine call_range1 ?_
    have hrs2 := range_up rws.length
    refine it_range (n := rws.length) (small_of (by (first | decide | exact Nat.le_trans (by assumption) (by decide) | lia | omega)) (by (first | decide | exact Nat.le_trans (by assumption) (by decide) | lia | omega)) (by (first | decide | exact Nat.le_trans (by assumption) (by decide) | lia | omega)) (by (first | decide | exact Nat.le_trans (by assumption) (by decide) | lia | omega)) hrs2 (by (first | decide | exact Nat.le_trans (by assumption) (by decide) | lia | omega))) hrs2 fun it3 => ⟨it3, _, _, rfl, rfl, fun l o => ∃ r : Nat, r ≤ rws.length ∧ l = (List.range' r (rws.length - r)).map (fun j : Nat => V.int (0 + (j : Int) * 1)) ∧ o = (x, Ob.obj (instObj 111 dx)) :: (dx, Ob.att (attrP n w)) :: (L, Ob.ns [(Str.ofString "stops", .int (n : Nat)), (Str.ofString "wide", .int (w : Nat)), (Str.ofString "sides", .lst sdl), (Str.ofString "sheet", .ref x), (Str.ofString "told", .tup tdl), (Str.ofString "side", .int (j : Nat)), (Str.ofString "k", .int (k : Nat)), (Str.ofString "pieces", .lst pcs), (Str.ofString "rows", .lst rws)]) :: own, ?_, ?_, ?_⟩
    · exact ⟨0, by (first | decide | exact Nat.le_trans (by assumption) (by decide) | lia | omega), by rw [List.range_eq_range']; rfl, rfl⟩
    · rintro v r0 o ⟨r, hr, hl, rfl⟩
      by_cases hr2 : r = rws.length
      · rw [hr2, Nat.sub_self] at hl; cases hl
      obtain ⟨m3, hm3⟩ : ∃ m3, rws.length - r = m3 + 1 := ⟨rws.length - r - 1, by (first | decide | exact Nat.le_trans (by assumption) (by decide) | lia | omega)⟩
      rw [hm3, List.range'_succ, List.map_cons] at hl
      injection hl with e1 e2
      subst e1 e2
      rw [show V.int (0 + (r : Int) * 1) = V.int (r : Int) by rw [show (0 : Int) + (r : Int) * 1 = (r : Int) by (first | decide | exact Nat.le_trans (by assumption) (by decide) | lia | omega)]]
      obtain ⟨p, mm, a1, a2, a3, a4, a5⟩ := hat r (by (first | decide | exact Nat.le_trans (by assumption) (by decide) | lia | omega))
      refine SA_Name ?_
      refine SS_loc rfl rfl (by (with_reducible repeat first | exact List.mem_cons_self | refine List.mem_cons_of_mem _ ?_ | assumption | exact mem_mid' | exact mem_mid (by assumption))) (by with_reducible rfl) (by (with_reducible repeat first | exact Put.here | exact Put.new | apply Put.there)) (by ((first | (dsimp only [List.map_cons, List.map_nil]; decide +kernel) | (simp only [List.map_cons, List.map_nil]; decide +kernel)))) (by (with_reducible repeat first | exact Upd.here | exact Upd.mid | apply Upd.there)) ?_
      refine SG.perm (own' := (x, Ob.obj (instObj 111 dx)) :: (dx, Ob.att (attrP n w)) :: (L, Ob.ns [(Str.ofString "stops", .int (n : Nat)), (Str.ofString "wide", .int (w : Nat)), (Str.ofString "sides", .lst sdl), (Str.ofString "sheet", .ref x), (Str.ofString "told", .tup tdl), (Str.ofString "side", .int (j : Nat)), (Str.ofString "k", .int (k : Nat)), (Str.ofString "pieces", .lst pcs), (Str.ofString "rows", .lst rws), (Str.ofString "r", .int (r : Nat))]) :: (it3, Ob.it ((List.range' (r + 1) m3).map (fun j : Nat => V.int (0 + (j : Int) * 1)))) :: own) (List.perm_append_comm_assoc [_] [_, _, _] own) ?_
      refine SG.permQ (turn_cell (tb := fdB (lawS 12)) hK hTT hh (by (first | decide | exact Nat.le_trans (by assumption) (by decide) | lia | omega)) (by (first | decide | exact Nat.le_trans (by assumption) (by decide) | lia | omega)) hfr (by (first | decide | exact Nat.le_trans (by assumption) (by decide) | lia | omega)) (by (first | decide | exact Nat.le_trans (by assumption) (by decide) | lia | omega)) hpf hpl (by (first | decide | exact Nat.le_trans (by assumption) (by decide) | lia | omega)) (by (first | decide | exact Nat.le_trans (by assumption) (by decide) | lia | omega)) (by (first | decide | exact Nat.le_trans (by assumption) (by decide) | lia | omega)) (by (first | decide | exact Nat.le_trans (by assumption) (by decide) | lia | omega)) a1 a2 a3 a4 a5 fun num nme bod => ⟨_, List.perm_append_comm_assoc [_, _, _] [_] own, ?_⟩)
      (first | dsimp only [List.cons_append, List.nil_append] | simp only [List.cons_append, List.nil_append])
      exact ⟨_, by (with_reducible repeat first | exact Wk.refl | exact Wk.nil | refine Wk.keep ObW.refl ?_ | refine Wk.keep (ObW.ns (by (with_reducible repeat first | exact List.Sublist.refl _ | exact List.nil_sublist _ | apply List.Sublist.cons_cons | apply List.Sublist.cons))) ?_ | apply Wk.drop), r + 1, by (first | decide | exact Nat.le_trans (by assumption) (by decide) | lia | omega), by rw [show rws.length - (r + 1) = m3 by (first | decide | exact Nat.le_trans (by assumption) (by decide) | lia | omega)], rfl⟩
    · rintro o ⟨r, hr, hl, rfl⟩
      exact ⟨rfl, by (with_reducible repeat first | exact Wk.refl | exact Wk.nil | refine Wk.keep ObW.refl ?_ | refine Wk.keep (ObW.ns (by (with_reducible repeat first | exact List.Sublist.refl _ | exact List.nil_sublist _ | apply List.Sublist.cons_cons | apply List.Sublist.cons))) ?_ | apply Wk.drop)⟩
  rintro fl o ⟨rfl, wk⟩
  exact SG.wk wk (SXs_nil hQ)
set_option maxHeartbeats 8000000 in
theorem c_law (hK : K07 W) (hh : A.handled = none) (hd : A.depth < 320) (hu : A.units < 100) (hfr0 : A.frames = some []) (htab : (55, Ob.prop (TabP tabsPos tabsQual)) ∈ own) (ns : List Int) (hn : ns.length ≤ 63) :
    SLC W A (.ref 139) [.lst (ns.map .int)] own (fun r o => r = .bool true ∧ o = own) := by
  refine' do_callC [Str.ofString "script"] ?ho ?hcd (by have : recursionLimit = 1000 := rfl; omega) ?hb ?hloc ?nd ?hh11 ?c1 ?c2 ?c3 ?c4
  case ho => exact K_of hK rfl
  case hcd => rw [hK]; rfl
  case hb => intro s vs _ hl; obtain ⟨_, rfl⟩ := len_1 hl; exact BindsTo.of_eq rfl
  case hloc => decide +kernel
  case nd => decide +kernel
  case c1 => rfl
  case c2 => rfl
  case c3 => rfl
  case c4 => decide +kernel
  intro L
  dsimp only [lawS, nthS, fdB, fdS, clB, PySem.Challenge.pw_dm0066_07]
  simp only [List.zip_cons_cons, List.zip_nil_right]
  refine @deeper_gen2 W A _ _ _ _ _ _ hh hfr0 ?_
  intro A' hh' hd' hu' hfr'
  have hrec : recursionLimit = 1000 := rfl
  have hcl : cLine = 9900 := rfl
  refine SXs_cons (SX_Assign (SE_pure (a := V.int (stopsN ns)) ?_ ?_))
  · refine SE_IfExp ?_
    refine ST_Compare ?_
    refine SE_Name ?_ (by decide +kernel)
    refine SN_loc rfl rfl (by (with_reducible repeat first | exact List.mem_cons_self | refine List.mem_cons_of_mem _ ?_ | assumption | exact mem_mid' | exact mem_mid (by assumption))) (by with_reducible rfl) (by (with_reducible repeat first | exact List.mem_cons_self | refine List.mem_cons_of_mem _ ?_ | assumption | exact mem_mid' | exact mem_mid (by assumption))) ?_
    refine SE_ListF ?_
    refine SEs_nil ?_
    with_reducible refine ⟨_, by with_reducible ((first | exact AllDat.map _ | repeat first | exact AllDat.nil | with_reducible apply AllDat.cons)), by ((rw [sizeLine_eq]; simp)), ?_⟩
    refine cmp_neNil (by (first | decide | exact Nat.le_trans (by assumption) (by decide) | lia | omega)) ?_
    with_reducible refine tr_bool ?_
    refine ite_dec (fun h => ?_) (fun h => ?_)
    · obtain ⟨a, r, hns⟩ : ∃ a r, ns = a :: r := by cases ns with | nil => exact absurd rfl h | cons a r => exact ⟨a, r, rfl⟩
      refine SE_BinOp ?_
      refine SE_Subscript ?_
      refine SE_Name ?_ (by decide +kernel)
      refine SN_loc rfl rfl (by (with_reducible repeat first | exact List.mem_cons_self | refine List.mem_cons_of_mem _ ?_ | assumption | exact mem_mid' | exact mem_mid (by assumption))) (by with_reducible rfl) (by (with_reducible repeat first | exact List.mem_cons_self | refine List.mem_cons_of_mem _ ?_ | assumption | exact mem_mid' | exact mem_mid (by assumption))) ?_
      refine SE_int ?_
      refine sub_lst (d := .int a) (by (first | decide | exact Nat.le_trans (by assumption) (by decide) | lia | omega)) (by rw [hns, List.length_map, List.length_cons]; (first | decide | exact Nat.le_trans (by assumption) (by decide) | lia | omega)) (by rw [sizeLine_eq, List.length_map]; (first | decide | exact Nat.le_trans (by assumption) (by decide) | lia | omega)) (first_is hns) ?_
      refine SE_int ?_
      refine op_mod (by decide) ?_
      exact ⟨by subst hns; show V.int _ = V.int _; congr 1; show a % 10 = ((a % 10).toNat : Int); (first | decide | exact Nat.le_trans (by assumption) (by decide) | lia | omega), rfl⟩
    · refine SE_int ?_
      have h0 : ns = [] := Classical.not_not.mp h
      exact ⟨by rw [h0]; rfl, rfl⟩
  refine SS_loc rfl rfl (by (with_reducible repeat first | exact List.mem_cons_self | refine List.mem_cons_of_mem _ ?_ | assumption | exact mem_mid' | exact mem_mid (by assumption))) (by with_reducible rfl) (by (with_reducible repeat first | exact Put.here | exact Put.new | apply Put.there)) (by ((first | (dsimp only [List.map_cons, List.map_nil]; decide +kernel) | (simp only [List.map_cons, List.map_nil]; decide +kernel)))) (by (with_reducible repeat first | exact Upd.here | exact Upd.mid | apply Upd.there)) ?_
  obtain ⟨hw0, hw6⟩ := wideN_le ns
  have hn9 := stopsN_le ns
  refine SXs_cons (SX_Assign (SE_pure (a := V.int (wideN ns)) ?_ ?_))
  · refine SE_IfExp ?_
    refine ST_Compare ?_
    refine SE_Call ?_
    refine SE_Name ?_ (by decide +kernel)
    refine SN_builtin rfl rfl rfl rfl (nsIn_of (by assumption) rfl) rfl (by decide +kernel) ?_
    with_reducible refine ⟨_, rfl, ?_⟩
    refine SEs_cons ?_
    refine SE_Name ?_ (by decide +kernel)
    refine SN_loc rfl rfl (by (with_reducible repeat first | exact List.mem_cons_self | refine List.mem_cons_of_mem _ ?_ | assumption | exact mem_mid' | exact mem_mid (by assumption))) (by with_reducible rfl) (by (with_reducible repeat first | exact List.mem_cons_self | refine List.mem_cons_of_mem _ ?_ | assumption | exact mem_mid' | exact mem_mid (by assumption))) ?_
    refine SEs_nil ?_
    with_reducible refine ⟨kp_builtin, ?_⟩
    refine call_len_lst (by ((rw [sizeLine_eq]; (try simp only [List.length_append, List.length_cons, List.length_nil, List.length_map]); (first | decide | exact Nat.le_trans (by assumption) (by decide) | lia | omega)))) ?_
    refine SE_int ?_
    with_reducible refine cmp_gt ?_
    with_reducible refine tr_bool ?_
    refine ite_dec (fun h => ?_) (fun h => ?_)
    · rw [List.length_map] at h
      obtain ⟨a, b, r, hns⟩ : ∃ a b r, ns = a :: b :: r := by
        match ns, h with
        | a :: b :: r, _ => exact ⟨a, b, r, rfl⟩
        | [_], h => exact absurd h (by simp)
        | [], h => exact absurd h (by decide)
      refine SE_BinOp ?_
      refine SE_BinOp ?_
      refine SE_Subscript ?_
      refine SE_Name ?_ (by decide +kernel)
      refine SN_loc rfl rfl (by (with_reducible repeat first | exact List.mem_cons_self | refine List.mem_cons_of_mem _ ?_ | assumption | exact mem_mid' | exact mem_mid (by assumption))) (by with_reducible rfl) (by (with_reducible repeat first | exact List.mem_cons_self | refine List.mem_cons_of_mem _ ?_ | assumption | exact mem_mid' | exact mem_mid (by assumption))) ?_
      refine SE_int ?_
      refine sub_lst (d := .int b) (by (first | decide | exact Nat.le_trans (by assumption) (by decide) | lia | omega)) (by rw [List.length_map]; (first | decide | exact Nat.le_trans (by assumption) (by decide) | lia | omega)) (by rw [sizeLine_eq, List.length_map]; (first | decide | exact Nat.le_trans (by assumption) (by decide) | lia | omega)) (second_is hns) ?_
      refine SE_int ?_
      refine op_mod (by decide) ?_
      refine SE_int ?_
      with_reducible refine op_add ?_
      exact ⟨by subst hns; show V.int _ = V.int _; congr 1; show b % 6 + 1 = ((b % 6 + 1).toNat : Int); (first | decide | exact Nat.le_trans (by assumption) (by decide) | lia | omega), rfl⟩
    · rw [List.length_map] at h
      refine SE_int ?_
      refine ⟨?_, rfl⟩
      have : wideN ns = 3 := by
        match ns, h with
        | a :: b :: r, h => exact absurd (by (first | dsimp only [List.length_cons] | simp only [List.length_cons]); (first | decide | exact Nat.le_trans (by assumption) (by decide) | lia | omega)) h
        | [_], _ => rfl
        | [], _ => rfl
      rw [this]; rfl
  refine SS_loc rfl rfl (by (with_reducible repeat first | exact List.mem_cons_self | refine List.mem_cons_of_mem _ ?_ | assumption | exact mem_mid' | exact mem_mid (by assumption))) (by with_reducible rfl) (by (with_reducible repeat first | exact Put.here | exact Put.new | apply Put.there)) (by ((first | (dsimp only [List.map_cons, List.map_nil]; decide +kernel) | (simp only [List.map_cons, List.map_nil]; decide +kernel)))) (by (with_reducible repeat first | exact Upd.here | exact Upd.mid | apply Upd.there)) ?_
  refine SXs_cons (SX_Assign (SE_Call ?_))
  refine SE_Name ?_ (by decide +kernel)
  refine SN_global rfl rfl rfl (nsIn_of (by assumption) rfl) ?_
  refine ⟨_, rfl, SEs_cons (SE_pure (a := V.lst ((drawsN ns).map .int)) ?_ ?_)⟩
  · refine SE_IfExp ?_
    refine ST_Compare ?_
    refine SE_Call ?_
    refine SE_Name ?_ (by decide +kernel)
    refine SN_builtin rfl rfl rfl rfl (nsIn_of (by assumption) rfl) rfl (by decide +kernel) ?_
    with_reducible refine ⟨_, rfl, ?_⟩
    refine SEs_cons ?_
    refine SE_Name ?_ (by decide +kernel)
    refine SN_loc rfl rfl (by (with_reducible repeat first | exact List.mem_cons_self | refine List.mem_cons_of_mem _ ?_ | assumption | exact mem_mid' | exact mem_mid (by assumption))) (by with_reducible rfl) (by (with_reducible repeat first | exact List.mem_cons_self | refine List.mem_cons_of_mem _ ?_ | assumption | exact mem_mid' | exact mem_mid (by assumption))) ?_
    refine SEs_nil ?_
    with_reducible refine ⟨kp_builtin, ?_⟩
    refine call_len_lst (by ((rw [sizeLine_eq]; (try simp only [List.length_append, List.length_cons, List.length_nil, List.length_map]); (first | decide | exact Nat.le_trans (by assumption) (by decide) | lia | omega)))) ?_
    refine SE_int ?_
    with_reducible refine cmp_gt ?_
    with_reducible refine tr_bool ?_
    refine ite_dec (fun h => ?_) (fun h => ?_)
    · rw [List.length_map] at h
      refine SE_SliceL ?_
      refine SE_Name ?_ (by decide +kernel)
      refine SN_loc rfl rfl (by (with_reducible repeat first | exact List.mem_cons_self | refine List.mem_cons_of_mem _ ?_ | assumption | exact mem_mid' | exact mem_mid (by assumption))) (by with_reducible rfl) (by (with_reducible repeat first | exact List.mem_cons_self | refine List.mem_cons_of_mem _ ?_ | assumption | exact mem_mid' | exact mem_mid (by assumption))) ?_
      refine SPt_some ?_
      refine SE_int ?_
      with_reducible refine ⟨_, rfl, ?_⟩
      refine SPt_none ?_
      with_reducible refine ⟨_, rfl, ?_⟩
      refine ⟨by rw [sizeLine_eq, List.length_map]; (first | decide | exact Nat.le_trans (by assumption) (by decide) | lia | omega), ?_⟩
      rw [cut_two]
      exact ⟨by unfold drawsN; rw [if_pos (by (first | decide | exact Nat.le_trans (by assumption) (by decide) | lia | omega))], rfl⟩
    · rw [List.length_map] at h
      refine SE_ListF ?_
      refine SEs_cons ?_
      refine SE_int ?_
      refine SEs_cons ?_
      refine SE_int ?_
      refine SEs_cons ?_
      refine SE_int ?_
      refine SEs_cons ?_
      refine SE_int ?_
      refine SEs_cons ?_
      refine SE_int ?_
      refine SEs_nil ?_
      with_reducible refine ⟨_, by with_reducible ((first | exact AllDat.map _ | repeat first | exact AllDat.nil | with_reducible apply AllDat.cons)), by ((rw [sizeLine_eq]; simp)), ?_⟩
      exact ⟨by unfold drawsN; rw [if_neg (by (first | decide | exact Nat.le_trans (by assumption) (by decide) | lia | omega))]; rfl, rfl⟩
  refine SEs_nil ?_
  have hdr : (drawsN ns).length ≤ 100 := by
    unfold drawsN; split
    · rw [List.length_drop]; (first | decide | exact Nat.le_trans (by assumption) (by decide) | lia | omega)
    · decide
  refine ⟨kp_K (by rw [hK]; rfl), SLC.call ((c_lines hK hh' (by (first | decide | exact Nat.le_trans (by assumption) (by decide) | lia | omega)) _ hdr).mono ?_)⟩
  rintro r o ⟨l0, l1, rfl, rfl, ok0, ok1, hl0, hl1⟩
  refine SS_loc rfl rfl (by (with_reducible repeat first | exact List.mem_cons_self | refine List.mem_cons_of_mem _ ?_ | assumption | exact mem_mid' | exact mem_mid (by assumption))) (by with_reducible rfl) (by (with_reducible repeat first | exact Put.here | exact Put.new | apply Put.there)) (by ((first | (dsimp only [List.map_cons, List.map_nil]; decide +kernel) | (simp only [List.map_cons, List.map_nil]; decide +kernel)))) (by (with_reducible repeat first | exact Upd.here | exact Upd.mid | apply Upd.there)) ?_
  refine SXs_cons (SX_Assign (SE_CallKw (names := [Str.ofString "tabsize", Str.ofString "wrapcolumn"]) ?_))
  refine SE_Name ?_ (by decide +kernel)
  refine SN_global rfl rfl rfl (nsIn_of (by assumption) rfl) ?_
  with_reducible refine ⟨_, rfl, ?_⟩
  refine ⟨by rw [hK]; rfl, SKs_cons ?_⟩
  refine SE_Name ?_ (by decide +kernel)
  refine SN_loc rfl rfl (by (with_reducible repeat first | exact List.mem_cons_self | refine List.mem_cons_of_mem _ ?_ | assumption | exact mem_mid' | exact mem_mid (by assumption))) (by with_reducible rfl) (by (with_reducible repeat first | exact List.mem_cons_self | refine List.mem_cons_of_mem _ ?_ | assumption | exact mem_mid' | exact mem_mid (by assumption))) ?_
  refine SKs_cons ?_
  refine SE_Name ?_ (by decide +kernel)
  refine SN_loc rfl rfl (by (with_reducible repeat first | exact List.mem_cons_self | refine List.mem_cons_of_mem _ ?_ | assumption | exact mem_mid' | exact mem_mid (by assumption))) (by with_reducible rfl) (by (with_reducible repeat first | exact List.mem_cons_self | refine List.mem_cons_of_mem _ ?_ | assumption | exact mem_mid' | exact mem_mid (by assumption))) ?_
  refine SKs_nil ?_
  refine do_sheetK hK hh' (by (first | decide | exact Nat.le_trans (by assumption) (by decide) | lia | omega)) fun x dx => ?_
  refine SS_loc rfl rfl (by (with_reducible repeat first | exact List.mem_cons_self | refine List.mem_cons_of_mem _ ?_ | assumption | exact mem_mid' | exact mem_mid (by assumption))) (by with_reducible rfl) (by (with_reducible repeat first | exact Put.here | exact Put.new | apply Put.there)) (by ((first | (dsimp only [List.map_cons, List.map_nil]; decide +kernel) | (simp only [List.map_cons, List.map_nil]; decide +kernel)))) (by (with_reducible repeat first | exact Upd.here | exact Upd.mid | apply Upd.there)) ?_
  refine SXs_cons ?_
  refine SX_AssignAttr ?_
  refine SE_ListF ?_
  refine SEs_cons ?_
  refine SE_strL (by (first | exact l07_0 | exact l07_1 | exact l07_2 | exact l07_3 | exact l07_4 | exact l07_5 | exact l07_6 | exact l07_7 | exact l07_8 | exact l07_9 | exact l07_10 | exact l07_11 | exact l07_12 | exact l07_13 | exact l07_14 | exact l07_15 | exact l07_16 | exact l07_17 | exact l07_18 | exact l07_19 | exact l07_20 | exact l07_21 | exact l07_22 | exact l07_23 | exact l07_24 | exact l07_25 | exact l07_26 | exact l07_27 | exact l07_28 | exact l07_29 | exact l07_30 | exact l07_31 | exact l07_32 | exact l07_33 | exact l07_34 | exact l07_35 | exact l07_36)) ?_
  refine SEs_cons ?_
  refine SE_strL (by (first | exact l07_0 | exact l07_1 | exact l07_2 | exact l07_3 | exact l07_4 | exact l07_5 | exact l07_6 | exact l07_7 | exact l07_8 | exact l07_9 | exact l07_10 | exact l07_11 | exact l07_12 | exact l07_13 | exact l07_14 | exact l07_15 | exact l07_16 | exact l07_17 | exact l07_18 | exact l07_19 | exact l07_20 | exact l07_21 | exact l07_22 | exact l07_23 | exact l07_24 | exact l07_25 | exact l07_26 | exact l07_27 | exact l07_28 | exact l07_29 | exact l07_30 | exact l07_31 | exact l07_32 | exact l07_33 | exact l07_34 | exact l07_35 | exact l07_36)) ?_
  refine SEs_nil ?_
  with_reducible refine ⟨_, by with_reducible ((first | exact AllDat.map _ | repeat first | exact AllDat.nil | with_reducible apply AllDat.cons)), by ((rw [sizeLine_eq]; simp)), ?_⟩
  refine SE_Name ?_ (by decide +kernel)
  refine SN_loc rfl rfl (by (with_reducible repeat first | exact List.mem_cons_self | refine List.mem_cons_of_mem _ ?_ | assumption | exact mem_mid' | exact mem_mid (by assumption))) (by with_reducible rfl) (by (with_reducible repeat first | exact List.mem_cons_self | refine List.mem_cons_of_mem _ ?_ | assumption | exact mem_mid' | exact mem_mid (by assumption))) ?_
  with_reducible refine ⟨_, rfl, ?_⟩
  refine do_setattr (cls07 hK) (by rw [hK]; rfl) (by (with_reducible repeat first | exact List.mem_cons_self | refine List.mem_cons_of_mem _ ?_ | assumption | exact mem_mid' | exact mem_mid (by assumption))) (by (with_reducible repeat first | exact List.mem_cons_self | refine List.mem_cons_of_mem _ ?_ | assumption | exact mem_mid' | exact mem_mid (by assumption))) (by (with_reducible repeat first | exact Put.here | exact Put.new | apply Put.there)) (by ((first | (dsimp only [List.map_cons, List.map_nil]; decide +kernel) | (simp only [List.map_cons, List.map_nil]; decide +kernel)))) (by simp) (by (with_reducible repeat first | exact Upd.here | exact Upd.mid | apply Upd.there)) ?_
  refine SXs_cons ?_
  refine SX_AssignCompMap (α := List (List Nat)) hh' rfl (by decide +kernel) rfl (by decide +kernel) rfl ?_
  refine SE_Name ?_ (by decide +kernel)
  refine SN_loc rfl rfl (by (with_reducible repeat first | exact List.mem_cons_self | refine List.mem_cons_of_mem _ ?_ | assumption | exact mem_mid' | exact mem_mid (by assumption))) (by with_reducible rfl) (by (with_reducible repeat first | exact List.mem_cons_self | refine List.mem_cons_of_mem _ ?_ | assumption | exact mem_mid' | exact mem_mid (by assumption))) ?_
  refine it_list fun it2 => ⟨it2, _, _, rfl, rfl, fun ls => V.lst (ls.map strD), fun _ => true, fun ls => .list (ls.map strD), [l0, l1], rfl, by ((rw [sizeLine_eq]; simp)), ?_, ?_⟩
  · intro C D it3 ls r ys hls
    have hlz : ls.length ≤ 101 := by
      rcases List.mem_cons.mp hls with rfl | hls
      · exact hl0
      · rw [List.mem_singleton.mp hls]; exact hl1
    refine SA_Name ?_
    refine SS_loc rfl rfl (by (with_reducible repeat first | exact List.mem_cons_self | refine List.mem_cons_of_mem _ ?_ | assumption | exact mem_mid' | exact mem_mid (by assumption))) (by with_reducible rfl) (by (with_reducible repeat first | exact Put.here | exact Put.new | apply Put.there)) (by ((first | (dsimp only [List.map_cons, List.map_nil]; decide +kernel) | (simp only [List.map_cons, List.map_nil]; decide +kernel)))) (by (with_reducible repeat first | exact Upd.here | exact Upd.mid | apply Upd.there)) ?_
    refine STs_nil ?_
    refine ⟨rfl, ?_⟩
    rw [if_pos rfl]
    refine SE_Call ?_
    refine SE_Name ?_ (by decide +kernel)
    refine SN_builtin rfl rfl rfl rfl (nsIn_of (by assumption) rfl) rfl (by decide +kernel) ?_
    with_reducible refine ⟨_, rfl, ?_⟩
    refine SEs_cons ?_
    refine SE_Name ?_ (by decide +kernel)
    refine SN_loc rfl rfl (by (with_reducible repeat first | exact List.mem_cons_self | refine List.mem_cons_of_mem _ ?_ | assumption | exact mem_mid' | exact mem_mid (by assumption))) (by with_reducible rfl) (by (with_reducible repeat first | exact List.mem_cons_self | refine List.mem_cons_of_mem _ ?_ | assumption | exact mem_mid' | exact mem_mid (by assumption))) ?_
    refine SEs_nil ?_
    with_reducible refine ⟨kp_type, ?_⟩
    refine call_listL (by rw [sizeLine_eq, List.length_map]; (first | decide | exact Nat.le_trans (by assumption) (by decide) | lia | omega)) ?_
    exact ⟨rfl, by (with_reducible repeat first | exact Wk.refl | exact Wk.nil | refine Wk.keep ObW.refl ?_ | refine Wk.keep (ObW.ns (by (with_reducible repeat first | exact List.Sublist.refl _ | exact List.nil_sublist _ | apply List.Sublist.cons_cons | apply List.Sublist.cons))) ?_ | apply Wk.drop)⟩
  rw [show [l0, l1].filter (fun _ => true) = [l0, l1] from rfl]
  intro C
  refine SS_loc (L := L) rfl rfl (by (with_reducible repeat first | exact List.mem_cons_self | refine List.mem_cons_of_mem _ ?_ | assumption | exact mem_mid' | exact mem_mid (by assumption))) rfl (by (with_reducible repeat first | exact Put.here | exact Put.new | apply Put.there)) (by ((first | (dsimp only [List.map_cons, List.map_nil]; decide +kernel) | (simp only [List.map_cons, List.map_nil]; decide +kernel)))) (by (with_reducible repeat first | exact Upd.here | exact Upd.mid | apply Upd.there)) ?_
  refine ⟨_, by (with_reducible repeat first | exact Wk.refl | exact Wk.nil | refine Wk.keep ObW.refl ?_ | refine Wk.keep (ObW.ns (by (with_reducible repeat first | exact List.Sublist.refl _ | exact List.nil_sublist _ | apply List.Sublist.cons_cons | apply List.Sublist.cons))) ?_ | apply Wk.drop), ?_⟩
  (first | dsimp only [List.map_cons, List.map_nil] | simp only [List.map_cons, List.map_nil])
  refine SXs_cons ?_
  refine SX_Assign ?_
  refine SE_Meth ?_
  refine SE_Name ?_ (by decide +kernel)
  refine SN_loc rfl rfl (by (with_reducible repeat first | exact List.mem_cons_self | refine List.mem_cons_of_mem _ ?_ | assumption | exact mem_mid' | exact mem_mid (by assumption))) (by with_reducible rfl) (by (with_reducible repeat first | exact List.mem_cons_self | refine List.mem_cons_of_mem _ ?_ | assumption | exact mem_mid' | exact mem_mid (by assumption))) ?_
  refine mth_inst (cls07 hK) (by (with_reducible repeat first | exact List.mem_cons_self | refine List.mem_cons_of_mem _ ?_ | assumption | exact mem_mid' | exact mem_mid (by assumption))) (by (with_reducible repeat first | exact List.mem_cons_self | refine List.mem_cons_of_mem _ ?_ | assumption | exact mem_mid' | exact mem_mid (by assumption))) (by rw [hK]; rfl) (by rw [hK]; rfl) (by ((first | (dsimp only [List.map_cons, List.map_nil]; decide +kernel) | (simp only [List.map_cons, List.map_nil]; decide +kernel)))) ?_
  refine SEs_cons ?_
  refine SE_Subscript ?_
  refine SE_Name ?_ (by decide +kernel)
  refine SN_loc rfl rfl (by (with_reducible repeat first | exact List.mem_cons_self | refine List.mem_cons_of_mem _ ?_ | assumption | exact mem_mid' | exact mem_mid (by assumption))) (by with_reducible rfl) (by (with_reducible repeat first | exact List.mem_cons_self | refine List.mem_cons_of_mem _ ?_ | assumption | exact mem_mid' | exact mem_mid (by assumption))) ?_
  refine SE_int ?_
  refine sub_lst (d := .list (l0.map strD)) (by (first | dsimp only [List.length_cons, List.length_nil] | simp only [List.length_cons, List.length_nil]); (first | decide | exact Nat.le_trans (by assumption) (by decide) | lia | omega)) (by (first | dsimp only [List.length_cons, List.length_nil] | simp only [List.length_cons, List.length_nil]); (first | decide | exact Nat.le_trans (by assumption) (by decide) | lia | omega)) (by ((rw [sizeLine_eq]; simp))) rfl ?_
  refine SEs_cons ?_
  refine SE_Subscript ?_
  refine SE_Name ?_ (by decide +kernel)
  refine SN_loc rfl rfl (by (with_reducible repeat first | exact List.mem_cons_self | refine List.mem_cons_of_mem _ ?_ | assumption | exact mem_mid' | exact mem_mid (by assumption))) (by with_reducible rfl) (by (with_reducible repeat first | exact List.mem_cons_self | refine List.mem_cons_of_mem _ ?_ | assumption | exact mem_mid' | exact mem_mid (by assumption))) ?_
  refine SE_int ?_
  refine sub_lst (d := .list (l1.map strD)) (by (first | dsimp only [List.length_cons, List.length_nil] | simp only [List.length_cons, List.length_nil]); (first | decide | exact Nat.le_trans (by assumption) (by decide) | lia | omega)) (by (first | dsimp only [List.length_cons, List.length_nil] | simp only [List.length_cons, List.length_nil]); (first | decide | exact Nat.le_trans (by assumption) (by decide) | lia | omega)) (by ((rw [sizeLine_eq]; simp))) rfl ?_
  refine SEs_nil ?_
  have hmx : 83 * max ((stopsN ns : Int)).toNat 1 ≤ 100000 := by rw [Int.toNat_natCast]; (first | decide | exact Nat.le_trans (by assumption) (by decide) | lia | omega)
  refine ⟨kp_K (by rw [hK]; rfl), SLC.call ((c_tabs hK hh' (by (first | decide | exact Nat.le_trans (by assumption) (by decide) | lia | omega)) (loc := attrP (stopsN ns) (wideN ns)) (n := (stopsN ns : Int)) (N := 83) (by (with_reducible repeat first | exact List.mem_cons_self | refine List.mem_cons_of_mem _ ?_ | assumption | exact mem_mid' | exact mem_mid (by assumption))) (by (with_reducible repeat first | exact List.mem_cons_self | refine List.mem_cons_of_mem _ ?_ | assumption | exact mem_mid' | exact mem_mid (by assumption))) (by (with_reducible repeat first | exact List.mem_cons_self | refine List.mem_cons_of_mem _ ?_ | assumption | exact mem_mid' | exact mem_mid (by assumption))) (by (with_reducible repeat first | exact List.mem_cons_self | refine List.mem_cons_of_mem _ ?_ | assumption | exact mem_mid' | exact mem_mid (by assumption))) (by (first | decide | exact Nat.le_trans (by assumption) (by decide) | lia | omega)) (by (first | decide | exact Nat.le_trans (by assumption) (by decide) | lia | omega)) (fun l hl => (line_ok (ok0 l hl)).1) (fun l hl => (line_ok (ok1 l hl)).1) hmx (by (first | decide | exact Nat.le_trans (by assumption) (by decide) | lia | omega)) (by (first | decide | exact Nat.le_trans (by assumption) (by decide) | lia | omega))).mono ?_)⟩
  rintro r o ⟨rfl, rfl⟩
  refine SS_loc rfl rfl (by (with_reducible repeat first | exact List.mem_cons_self | refine List.mem_cons_of_mem _ ?_ | assumption | exact mem_mid' | exact mem_mid (by assumption))) (by with_reducible rfl) (by (with_reducible repeat first | exact Put.here | exact Put.new | apply Put.there)) (by ((first | (dsimp only [List.map_cons, List.map_nil]; decide +kernel) | (simp only [List.map_cons, List.map_nil]; decide +kernel)))) (by (with_reducible repeat first | exact Upd.here | exact Upd.mid | apply Upd.there)) ?_
  refine SXs_cons ?_
  refine SX_If ?_
  refine SG_or ?_
  refine ST_not ?_
  refine ST_plain ?_
  refine SE_Call ?_
  refine SE_Name ?_ (by decide +kernel)
  refine SN_builtin rfl rfl rfl rfl (nsIn_of (by assumption) rfl) rfl (by decide +kernel) ?_
  with_reducible refine ⟨_, rfl, ?_⟩
  refine SEs_cons ?_
  refine SE_Name ?_ (by decide +kernel)
  refine SN_loc rfl rfl (by (with_reducible repeat first | exact List.mem_cons_self | refine List.mem_cons_of_mem _ ?_ | assumption | exact mem_mid' | exact mem_mid (by assumption))) (by with_reducible rfl) (by (with_reducible repeat first | exact List.mem_cons_self | refine List.mem_cons_of_mem _ ?_ | assumption | exact mem_mid' | exact mem_mid (by assumption))) ?_
  refine SEs_cons ?_
  refine SE_Name ?_ (by decide +kernel)
  refine SN_builtin rfl rfl rfl rfl (nsIn_of (by assumption) rfl) rfl (by decide +kernel) ?_
  refine SEs_nil ?_
  with_reducible refine ⟨kp_builtin, ?_⟩
  refine call_isTuple ?_
  with_reducible refine tr_bool ?_
  with_reducible refine ite_nt ?_
  refine SG_or ?_
  refine ST_Compare ?_
  refine SE_Call ?_
  refine SE_Name ?_ (by decide +kernel)
  refine SN_builtin rfl rfl rfl rfl (nsIn_of (by assumption) rfl) rfl (by decide +kernel) ?_
  with_reducible refine ⟨_, rfl, ?_⟩
  refine SEs_cons ?_
  refine SE_Name ?_ (by decide +kernel)
  refine SN_loc rfl rfl (by (with_reducible repeat first | exact List.mem_cons_self | refine List.mem_cons_of_mem _ ?_ | assumption | exact mem_mid' | exact mem_mid (by assumption))) (by with_reducible rfl) (by (with_reducible repeat first | exact List.mem_cons_self | refine List.mem_cons_of_mem _ ?_ | assumption | exact mem_mid' | exact mem_mid (by assumption))) ?_
  refine SEs_nil ?_
  with_reducible refine ⟨kp_builtin, ?_⟩
  refine call_len_tup (by ((rw [sizeLine_eq]; simp))) ?_
  refine SE_int ?_
  with_reducible refine cmp_neI ?_
  with_reducible refine tr_bool ?_
  rw [show decide (((([PyData.list (l0.map fun l => .str (S (expT (stopsN ns : Int) l))), PyData.list (l1.map fun l => .str (S (expT (stopsN ns : Int) l)))] : List PyData).length : Nat) : Int) ≠ 2) = false from rfl]
  with_reducible refine ite_ff' ?_
  refine SG_or ?_
  refine ST_Compare ?_
  refine SE_Name ?_ (by decide +kernel)
  refine SN_loc rfl rfl (by (with_reducible repeat first | exact List.mem_cons_self | refine List.mem_cons_of_mem _ ?_ | assumption | exact mem_mid' | exact mem_mid (by assumption))) (by with_reducible rfl) (by (with_reducible repeat first | exact List.mem_cons_self | refine List.mem_cons_of_mem _ ?_ | assumption | exact mem_mid' | exact mem_mid (by assumption))) ?_
  refine SE_Name ?_ (by decide +kernel)
  refine SN_loc rfl rfl (by (with_reducible repeat first | exact List.mem_cons_self | refine List.mem_cons_of_mem _ ?_ | assumption | exact mem_mid' | exact mem_mid (by assumption))) (by with_reducible rfl) (by (with_reducible repeat first | exact List.mem_cons_self | refine List.mem_cons_of_mem _ ?_ | assumption | exact mem_mid' | exact mem_mid (by assumption))) ?_
  refine cmp_neR rfl (ok_list (n := 59) ?_) (by (first | decide | exact Nat.le_trans (by assumption) (by decide) | lia | omega)) ?_
  · intro d hd
    have hok : ∀ zs : List (List Nat), (∀ l ∈ zs, LineOk l) → Ok 59 (.list (zs.map strD)) := fun zs hz => ok_list (n := 58) fun d hd => by
      obtain ⟨l, hl, rfl⟩ := List.mem_map.mp hd
      exact ok_str (n := 57) (line_ok (hz l hl)).2.2
    simp only [List.mem_cons, List.not_mem_nil, or_false] at hd
    rcases hd with rfl | rfl
    · exact hok _ ok0
    · exact hok _ ok1
  with_reducible refine tr_bool ?_
  with_reducible refine ite_ff' ?_
  refine SG_or_nil ?_
  with_reducible refine ite_ff' ?_
  refine SXs_nil ?_
  refine SXs_cons ?_
  refine SG.wk (own' := (x, Ob.obj (instObj 111 dx)) :: (dx, Ob.att (attrP (stopsN ns) (wideN ns))) :: (L, Ob.ns [(Str.ofString "stops", .int (stopsN ns : Nat)), (Str.ofString "wide", .int (wideN ns : Nat)), (Str.ofString "sides", .lst [.list (l0.map strD), .list (l1.map strD)]), (Str.ofString "sheet", .ref x), (Str.ofString "told", .tup [.list (l0.map fun l => .str (S (expT (stopsN ns : Int) l))), .list (l1.map fun l => .str (S (expT (stopsN ns : Int) l)))])]) :: own) (by (with_reducible repeat first | exact Wk.refl | exact Wk.nil | refine Wk.keep ObW.refl ?_ | refine Wk.keep (ObW.ns (by (with_reducible repeat first | exact List.Sublist.refl _ | exact List.nil_sublist _ | apply List.Sublist.cons_cons | apply List.Sublist.cons))) ?_ | apply Wk.drop)) ?_
  refine SG.mono (Q := fun fl o => fl = Fl.next ∧ Wk o ((x, Ob.obj (instObj 111 dx)) :: (dx, Ob.att (attrP (stopsN ns) (wideN ns))) :: (L, Ob.ns [(Str.ofString "stops", .int (stopsN ns : Nat)), (Str.ofString "wide", .int (wideN ns : Nat)), (Str.ofString "sides", .lst [.list (l0.map strD), .list (l1.map strD)]), (Str.ofString "sheet", .ref x), (Str.ofString "told", .tup [.list (l0.map fun l => .str (S (expT (stopsN ns : Int) l))), .list (l1.map fun l => .str (S (expT (stopsN ns : Int) l)))])]) :: own)) (SX_For hh' ?_) ?_
  · refine SE_Call ?_
    refine SE_Name ?_ (by decide +kernel)
    refine SN_builtin rfl rfl rfl rfl (nsIn_of (by assumption) rfl) rfl (by decide +kernel) ?_
    with_reducible refine ⟨_, rfl, ?_⟩
    refine SEs_cons ?_
    refine SE_int ?_
    refine SEs_nil ?_
    with_reducible refine ⟨kp_type, ?_⟩
    refine call_range1 ?_
    refine it_range (n := 2) rfl rfl fun it => ⟨it, _, _, rfl, rfl, fun l o => ∃ j : Nat, j ≤ 2 ∧ l = (List.range' j (2 - j)).map (fun j : Nat => V.int (0 + (j : Int) * 1)) ∧ o = (x, Ob.obj (instObj 111 dx)) :: (dx, Ob.att (attrP (stopsN ns) (wideN ns))) :: (L, Ob.ns [(Str.ofString "stops", .int (stopsN ns : Nat)), (Str.ofString "wide", .int (wideN ns : Nat)), (Str.ofString "sides", .lst [.list (l0.map strD), .list (l1.map strD)]), (Str.ofString "sheet", .ref x), (Str.ofString "told", .tup [.list (l0.map fun l => .str (S (expT (stopsN ns : Int) l))), .list (l1.map fun l => .str (S (expT (stopsN ns : Int) l)))])]) :: own, ?_, ?_, ?_⟩
    · exact ⟨0, by decide, rfl, rfl⟩
    · rintro v r o ⟨j, hj, hl, rfl⟩
      by_cases hj2 : j = 2
      · subst hj2; cases hl
      obtain ⟨m, hm⟩ : ∃ m, 2 - j = m + 1 := ⟨1 - j, by (first | decide | exact Nat.le_trans (by assumption) (by decide) | lia | omega)⟩
      rw [hm, List.range'_succ, List.map_cons] at hl
      injection hl with e1 e2
      subst e1 e2
      obtain ⟨ls, pf, hsd, htd, hpf, okl, hls, hpl⟩ : ∃ (ls : List (List Nat)) (pf : List Nat), ([PyData.list (l0.map strD), PyData.list (l1.map strD)] : List PyData)[place (j : Int) 2]? = some (.list (ls.map strD)) ∧
          ([PyData.list (l0.map fun l => .str (S (expT (stopsN ns : Int) l))), PyData.list (l1.map fun l => .str (S (expT (stopsN ns : Int) l)))] : List PyData)[place (j : Int) 2]? = some (.list (ls.map fun l => .str (S (expT (stopsN ns : Int) l)))) ∧
          ([PyData.str (S [102, 114, 111, 109, 50, 95]), PyData.str (S [116, 111, 50, 95])] : List PyData)[place (j : Int) 2]? = some (.str (S pf)) ∧ (∀ l ∈ ls, LineOk l) ∧ ls.length ≤ 101 ∧ pf.length ≤ 6 := by
        rcases (by (first | decide | exact Nat.le_trans (by assumption) (by decide) | lia | omega) : j = 0 ∨ j = 1) with rfl | rfl
        · exact ⟨l0, _, rfl, rfl, rfl, ok0, hl0, by decide⟩
        · exact ⟨l1, _, rfl, rfl, rfl, ok1, hl1, by decide⟩
      rw [show V.int (0 + (j : Int) * 1) = V.int (j : Int) by rw [show (0 : Int) + (j : Int) * 1 = (j : Int) by (first | decide | exact Nat.le_trans (by assumption) (by decide) | lia | omega)]]
      have b1 : -((2 : Nat) : Int) ≤ (j : Int) := by (first | decide | exact Nat.le_trans (by assumption) (by decide) | lia | omega)
      have b2 : (j : Int) < ((2 : Nat) : Int) := by (first | decide | exact Nat.le_trans (by assumption) (by decide) | lia | omega)
      refine SA_Name ?_
      refine SS_loc rfl rfl (by (with_reducible repeat first | exact List.mem_cons_self | refine List.mem_cons_of_mem _ ?_ | assumption | exact mem_mid' | exact mem_mid (by assumption))) (by with_reducible rfl) (by (with_reducible repeat first | exact Put.here | exact Put.new | apply Put.there)) (by ((first | (dsimp only [List.map_cons, List.map_nil]; decide +kernel) | (simp only [List.map_cons, List.map_nil]; decide +kernel)))) (by (with_reducible repeat first | exact Upd.here | exact Upd.mid | apply Upd.there)) ?_
      refine SXs_cons ?_
      refine SX_If ?_
      refine SG_or ?_
      refine ST_not ?_
      refine ST_plain ?_
      refine SE_Call ?_
      refine SE_Name ?_ (by decide +kernel)
      refine SN_builtin rfl rfl rfl rfl (nsIn_of (by assumption) rfl) rfl (by decide +kernel) ?_
      with_reducible refine ⟨_, rfl, ?_⟩
      refine SEs_cons ?_
      refine SE_Subscript ?_
      refine SE_Name ?_ (by decide +kernel)
      refine SN_loc rfl rfl (by (with_reducible repeat first | exact List.mem_cons_self | refine List.mem_cons_of_mem _ ?_ | assumption | exact mem_mid' | exact mem_mid (by assumption))) (by with_reducible rfl) (by (with_reducible repeat first | exact List.mem_cons_self | refine List.mem_cons_of_mem _ ?_ | assumption | exact mem_mid' | exact mem_mid (by assumption))) ?_
      refine SE_Name ?_ (by decide +kernel)
      refine SN_loc rfl rfl (by (with_reducible repeat first | exact List.mem_cons_self | refine List.mem_cons_of_mem _ ?_ | assumption | exact mem_mid' | exact mem_mid (by assumption))) (by with_reducible rfl) (by (with_reducible repeat first | exact List.mem_cons_self | refine List.mem_cons_of_mem _ ?_ | assumption | exact mem_mid' | exact mem_mid (by assumption))) ?_
      refine sub_tup (d := .list (ls.map fun l => .str (S (expT (stopsN ns : Int) l)))) b1 b2 (by ((rw [sizeLine_eq]; simp))) htd ?_
      refine SEs_cons ?_
      refine SE_Name ?_ (by decide +kernel)
      refine SN_builtin rfl rfl rfl rfl (nsIn_of (by assumption) rfl) rfl (by decide +kernel) ?_
      refine SEs_nil ?_
      with_reducible refine ⟨kp_builtin, ?_⟩
      refine call_isList ?_
      with_reducible refine tr_bool ?_
      with_reducible refine ite_nt ?_
      refine SG_or ?_
      refine ST_Compare ?_
      refine SE_Call ?_
      refine SE_Name ?_ (by decide +kernel)
      refine SN_builtin rfl rfl rfl rfl (nsIn_of (by assumption) rfl) rfl (by decide +kernel) ?_
      with_reducible refine ⟨_, rfl, ?_⟩
      refine SEs_cons ?_
      refine SE_Subscript ?_
      refine SE_Name ?_ (by decide +kernel)
      refine SN_loc rfl rfl (by (with_reducible repeat first | exact List.mem_cons_self | refine List.mem_cons_of_mem _ ?_ | assumption | exact mem_mid' | exact mem_mid (by assumption))) (by with_reducible rfl) (by (with_reducible repeat first | exact List.mem_cons_self | refine List.mem_cons_of_mem _ ?_ | assumption | exact mem_mid' | exact mem_mid (by assumption))) ?_
      refine SE_Name ?_ (by decide +kernel)
      refine SN_loc rfl rfl (by (with_reducible repeat first | exact List.mem_cons_self | refine List.mem_cons_of_mem _ ?_ | assumption | exact mem_mid' | exact mem_mid (by assumption))) (by with_reducible rfl) (by (with_reducible repeat first | exact List.mem_cons_self | refine List.mem_cons_of_mem _ ?_ | assumption | exact mem_mid' | exact mem_mid (by assumption))) ?_
      refine sub_tup (d := .list (ls.map fun l => .str (S (expT (stopsN ns : Int) l)))) b1 b2 (by ((rw [sizeLine_eq]; simp))) htd ?_
      refine SEs_nil ?_
      with_reducible refine ⟨kp_builtin, ?_⟩
      refine call_len_lst (by ((rw [sizeLine_eq]; (try simp only [List.length_append, List.length_cons, List.length_nil, List.length_map]); (first | decide | exact Nat.le_trans (by assumption) (by decide) | lia | omega)))) ?_
      refine SE_Call ?_
      refine SE_Name ?_ (by decide +kernel)
      refine SN_builtin rfl rfl rfl rfl (nsIn_of (by assumption) rfl) rfl (by decide +kernel) ?_
      with_reducible refine ⟨_, rfl, ?_⟩
      refine SEs_cons ?_
      refine SE_Subscript ?_
      refine SE_Name ?_ (by decide +kernel)
      refine SN_loc rfl rfl (by (with_reducible repeat first | exact List.mem_cons_self | refine List.mem_cons_of_mem _ ?_ | assumption | exact mem_mid' | exact mem_mid (by assumption))) (by with_reducible rfl) (by (with_reducible repeat first | exact List.mem_cons_self | refine List.mem_cons_of_mem _ ?_ | assumption | exact mem_mid' | exact mem_mid (by assumption))) ?_
      refine SE_Name ?_ (by decide +kernel)
      refine SN_loc rfl rfl (by (with_reducible repeat first | exact List.mem_cons_self | refine List.mem_cons_of_mem _ ?_ | assumption | exact mem_mid' | exact mem_mid (by assumption))) (by with_reducible rfl) (by (with_reducible repeat first | exact List.mem_cons_self | refine List.mem_cons_of_mem _ ?_ | assumption | exact mem_mid' | exact mem_mid (by assumption))) ?_
      refine sub_lst (d := .list (ls.map strD)) b1 b2 (by ((rw [sizeLine_eq]; simp))) hsd ?_
      refine SEs_nil ?_
      with_reducible refine ⟨kp_builtin, ?_⟩
      refine call_len_lst (by ((rw [sizeLine_eq]; (try simp only [List.length_append, List.length_cons, List.length_nil, List.length_map]); (first | decide | exact Nat.le_trans (by assumption) (by decide) | lia | omega)))) ?_
      with_reducible refine cmp_neI ?_
      with_reducible refine tr_bool ?_
      rw [List.length_map, List.length_map, show decide ((ls.length : Int) ≠ (ls.length : Int)) = false from decide_eq_false fun h => h rfl]
      with_reducible refine ite_ff' ?_
      refine SG_or_nil ?_
      with_reducible refine ite_ff' ?_
      refine SXs_nil ?_
      refine SXs_cons ?_
      refine SG.mono (Q := fun fl o => fl = Fl.next ∧ Wk o ((it, Ob.it ((List.range' (j + 1) m).map (fun j : Nat => V.int (0 + (j : Int) * 1)))) :: (x, Ob.obj (instObj 111 dx)) :: (dx, Ob.att (attrP (stopsN ns) (wideN ns))) :: (L, Ob.ns [(Str.ofString "stops", .int (stopsN ns : Nat)), (Str.ofString "wide", .int (wideN ns : Nat)), (Str.ofString "sides", .lst [.list (l0.map strD), .list (l1.map strD)]), (Str.ofString "sheet", .ref x), (Str.ofString "told", .tup [.list (l0.map fun l => .str (S (expT (stopsN ns : Int) l))), .list (l1.map fun l => .str (S (expT (stopsN ns : Int) l)))])]) :: own)) (SX_For hh' ?_) ?_
      · refine SE_Call ?_
        refine SE_Name ?_ (by decide +kernel)
        refine SN_builtin rfl rfl rfl rfl (nsIn_of (by assumption) rfl) rfl (by decide +kernel) ?_
        with_reducible refine ⟨_, rfl, ?_⟩
        refine SEs_cons ?_
        refine SE_Call ?_
        refine SE_Name ?_ (by decide +kernel)
        refine SN_builtin rfl rfl rfl rfl (nsIn_of (by assumption) rfl) rfl (by decide +kernel) ?_
        with_reducible refine ⟨_, rfl, ?_⟩
        refine SEs_cons ?_
        refine SE_Subscript ?_
        refine SE_Name ?_ (by decide +kernel)
        refine SN_loc rfl rfl (by (with_reducible repeat first | exact List.mem_cons_self | refine List.mem_cons_of_mem _ ?_ | assumption | exact mem_mid' | exact mem_mid (by assumption))) (by with_reducible rfl) (by (with_reducible repeat first | exact List.mem_cons_self | refine List.mem_cons_of_mem _ ?_ | assumption | exact mem_mid' | exact mem_mid (by assumption))) ?_
        refine SE_Name ?_ (by decide +kernel)
        refine SN_loc rfl rfl (by (with_reducible repeat first | exact List.mem_cons_self | refine List.mem_cons_of_mem _ ?_ | assumption | exact mem_mid' | exact mem_mid (by assumption))) (by with_reducible rfl) (by (with_reducible repeat first | exact List.mem_cons_self | refine List.mem_cons_of_mem _ ?_ | assumption | exact mem_mid' | exact mem_mid (by assumption))) ?_
        refine sub_lst (d := .list (ls.map strD)) b1 b2 (by ((rw [sizeLine_eq]; simp))) hsd ?_
        refine SEs_nil ?_
        with_reducible refine ⟨kp_builtin, ?_⟩
        refine call_len_lst (by ((rw [sizeLine_eq]; (try simp only [List.length_append, List.length_cons, List.length_nil, List.length_map]); (first | decide | exact Nat.le_trans (by assumption) (by decide) | lia | omega)))) ?_
        refine SEs_nil ?_
        with_reducible refine ⟨kp_type, ?_⟩
        refine call_range1 ?_
        rw [List.length_map]
        have hrs := range_up ls.length
        refine it_range (n := ls.length) (small_of (by (first | decide | exact Nat.le_trans (by assumption) (by decide) | lia | omega)) (by (first | decide | exact Nat.le_trans (by assumption) (by decide) | lia | omega)) (by (first | decide | exact Nat.le_trans (by assumption) (by decide) | lia | omega)) (by (first | decide | exact Nat.le_trans (by assumption) (by decide) | lia | omega)) hrs (by (first | decide | exact Nat.le_trans (by assumption) (by decide) | lia | omega))) hrs fun it2 => ⟨it2, _, _, rfl, rfl, fun l o => ∃ k : Nat, k ≤ ls.length ∧ l = (List.range' k (ls.length - k)).map (fun j : Nat => V.int (0 + (j : Int) * 1)) ∧ o = (it, Ob.it ((List.range' (j + 1) m).map (fun j : Nat => V.int (0 + (j : Int) * 1)))) :: (x, Ob.obj (instObj 111 dx)) :: (dx, Ob.att (attrP (stopsN ns) (wideN ns))) :: (L, Ob.ns [(Str.ofString "stops", .int (stopsN ns : Nat)), (Str.ofString "wide", .int (wideN ns : Nat)), (Str.ofString "sides", .lst [.list (l0.map strD), .list (l1.map strD)]), (Str.ofString "sheet", .ref x), (Str.ofString "told", .tup [.list (l0.map fun l => .str (S (expT (stopsN ns : Int) l))), .list (l1.map fun l => .str (S (expT (stopsN ns : Int) l)))]), (Str.ofString "side", .int (j : Nat))]) :: own, ?_, ?_, ?_⟩
        · exact ⟨0, by (first | decide | exact Nat.le_trans (by assumption) (by decide) | lia | omega), by rw [List.range_eq_range']; rfl, rfl⟩
        · rintro v r o ⟨k, hk, hl, rfl⟩
          by_cases hk2 : k = ls.length
          · rw [hk2, Nat.sub_self] at hl; cases hl
          obtain ⟨m2, hm2⟩ : ∃ m2, ls.length - k = m2 + 1 := ⟨ls.length - k - 1, by (first | decide | exact Nat.le_trans (by assumption) (by decide) | lia | omega)⟩
          rw [hm2, List.range'_succ, List.map_cons] at hl
          injection hl with e1 e2
          subst e1 e2
          rw [show V.int (0 + (k : Int) * 1) = V.int (k : Int) by rw [show (0 : Int) + (k : Int) * 1 = (k : Int) by (first | decide | exact Nat.le_trans (by assumption) (by decide) | lia | omega)]]
          have hk3 : k < ls.length := by (first | decide | exact Nat.le_trans (by assumption) (by decide) | lia | omega)
          obtain ⟨l, hlk⟩ : ∃ l, ls[k]? = some l := ⟨_, List.getElem?_eq_getElem hk3⟩
          have okll : LineOk l := okl l (List.mem_of_getElem? hlk)
          refine SA_Name ?_
          refine SS_loc rfl rfl (by (with_reducible repeat first | exact List.mem_cons_self | refine List.mem_cons_of_mem _ ?_ | assumption | exact mem_mid' | exact mem_mid (by assumption))) (by with_reducible rfl) (by (with_reducible repeat first | exact Put.here | exact Put.new | apply Put.there)) (by ((first | (dsimp only [List.map_cons, List.map_nil]; decide +kernel) | (simp only [List.map_cons, List.map_nil]; decide +kernel)))) (by (with_reducible repeat first | exact Upd.here | exact Upd.mid | apply Upd.there)) ?_
          refine SG.perm (own' := (x, Ob.obj (instObj 111 dx)) :: (dx, Ob.att (attrP (stopsN ns) (wideN ns))) :: (L, Ob.ns [(Str.ofString "stops", .int (stopsN ns : Nat)), (Str.ofString "wide", .int (wideN ns : Nat)), (Str.ofString "sides", .lst [.list (l0.map strD), .list (l1.map strD)]), (Str.ofString "sheet", .ref x), (Str.ofString "told", .tup [.list (l0.map fun l => .str (S (expT (stopsN ns : Int) l))), .list (l1.map fun l => .str (S (expT (stopsN ns : Int) l)))]), (Str.ofString "side", .int (j : Nat)), (Str.ofString "k", .int (k : Nat))]) :: (it2, Ob.it ((List.range' (k + 1) m2).map (fun j : Nat => V.int (0 + (j : Int) * 1)))) :: (it, Ob.it ((List.range' (j + 1) m).map (fun j : Nat => V.int (0 + (j : Int) * 1)))) :: own) (List.perm_append_comm_assoc [_, _] [_, _, _] own) ?_
          refine SG.permQ (turn_line (tb := fdB (lawS 12)) hK (by rw [K_of (a := 139) hK rfl]; rfl) hh' (by (first | decide | exact Nat.le_trans (by assumption) (by decide) | lia | omega)) (by (first | decide | exact Nat.le_trans (by assumption) (by decide) | lia | omega)) hfr' hn9 hw0 hw6 (by (first | decide | exact Nat.le_trans (by assumption) (by decide) | lia | omega)) (by (first | decide | exact Nat.le_trans (by assumption) (by decide) | lia | omega)) hpf hpl rfl rfl hls hsd htd hlk okll ⟨_, List.perm_append_comm_assoc [_, _, _] [_, _] own, ?_⟩)
          (first | dsimp only [List.cons_append, List.nil_append] | simp only [List.cons_append, List.nil_append])
          exact ⟨_, by (with_reducible repeat first | exact Wk.refl | exact Wk.nil | refine Wk.keep ObW.refl ?_ | refine Wk.keep (ObW.ns (by (with_reducible repeat first | exact List.Sublist.refl _ | exact List.nil_sublist _ | apply List.Sublist.cons_cons | apply List.Sublist.cons))) ?_ | apply Wk.drop), k + 1, by (first | decide | exact Nat.le_trans (by assumption) (by decide) | lia | omega), by rw [show ls.length - (k + 1) = m2 by (first | decide | exact Nat.le_trans (by assumption) (by decide) | lia | omega)], rfl⟩
        · rintro o ⟨k, hk, hl, rfl⟩
          exact ⟨rfl, by (with_reducible repeat first | exact Wk.refl | exact Wk.nil | refine Wk.keep ObW.refl ?_ | refine Wk.keep (ObW.ns (by (with_reducible repeat first | exact List.Sublist.refl _ | exact List.nil_sublist _ | apply List.Sublist.cons_cons | apply List.Sublist.cons))) ?_ | apply Wk.drop)⟩
      rintro fl o ⟨rfl, wk⟩
      refine SXs_nil ?_
      exact ⟨_, wk, j + 1, by (first | decide | exact Nat.le_trans (by assumption) (by decide) | lia | omega), by rw [show 2 - (j + 1) = m by (first | decide | exact Nat.le_trans (by assumption) (by decide) | lia | omega)], rfl⟩
    · rintro o ⟨j, hj, hl, rfl⟩
      exact ⟨rfl, .refl⟩
  rintro fl o ⟨rfl, wk⟩
  refine SG.wk wk ?_
  clear wk
  refine SXs_cons ?_
  refine SX_Return ?_
  refine SE_bool ?_
  exact ⟨_, by (with_reducible repeat first | exact Wk.refl | exact Wk.nil | refine Wk.keep ObW.refl ?_ | refine Wk.keep (ObW.ns (by (with_reducible repeat first | exact List.Sublist.refl _ | exact List.nil_sublist _ | apply List.Sublist.cons_cons | apply List.Sublist.cons))) ?_ | apply Wk.drop), rfl, rfl⟩
theorem law_true {W : Wd} (hK : K07 W) (ns : List Int) (hn : ns.length ≤ 63) : SLC W callerA (.ref 139) [.lst (ns.map .int)] [(55, .prop (TabP tabsPos tabsQual))] (fun r o => r = .bool true ∧ (55, .prop (TabP tabsPos tabsQual)) ∈ o) :=
  (c_law hK rfl (by rw [depth_caller]; decide) (by rw [units_caller]; decide) rfl List.mem_cons_self ns hn).mono (by rintro r o ⟨rfl, rfl⟩; exact ⟨rfl, List.mem_cons_self⟩)
end
end Mine
open Mine in
set_option maxHeartbeats 8000000 in
theorem PySem.Challenge.cw_dm0066_07_holds : PySem.Challenge.rw_dm0066_07.Holds := by
  show Mine.rwP.Holds
  w_on
  o_law
  o_head (kmHook Mine.K1 [3, 37, 43, 44, 57, 58, 64, 65, 85, 86, 110, 111, 121, 122, 126, 127, 133, 134, 138, 139] (fun _ => by kernel_rfl) [55])
  (case hw => w_witness2)
  intro w s₀ s₁ mg mb G Y fa o pm cd doc dV kV ho hd hcd hD hmg hg args vals as hpre hlay hrd hwl hlo
  have KX := km_in_of Y
  have hT8 := km_tabs_of Y
  refine Ground.open G ?_
  intro T B D TE TW
  clear ho hd hcd hD
  wrow_args hpre hlay hrd hwl hlo
  all_goals (
    first | refine callC_kw (enter_call ?_) | refine enter_call ?_ | refine callC_kw (enter_callW ?_) | refine enter_callW ?_ | w_how
    w_top on
    (rename Reads _ _ (PyData.list (List.map PyData.int _)) _ => r0)
    (rename ¬ ((_ : Int) < _) => hlen)
    refine codeAny_mono (Mine.join_lawT (c := 57) (P := 55) T KX (by kernel_rfl) (by kernel_rfl) (hT8 55 List.mem_cons_self) hmg hg rfl r0 fun W e1 e2 => Mine.law_true (show W.K = _ by rw [e2, e1]) _ (by (first | decide | exact Nat.le_trans (by assumption) (by decide) | lia | omega))) ?_
    rintro r s' ⟨rfl, k, e1, e2⟩
    refine ⟨.inl ⟨_, _, [], rfl, fun cls => ?_, ReadsW.bool true, ?_, fun _ => ⟨List.nodup_nil, fun a ha => (nomatch ha)⟩⟩, k, e1, e2⟩
    · rfl
    · exact postW_of rfl (w_eq_bool (w_res rfl) w_lit) rfl)
